/-
  The walk of FnFillEstimate (6).
-/
import Derived.Test.Qxb6000829aFill
namespace Go.Proofs.Qxb6000829a
open Go.RowKit
set_option linter.unusedVariables false

/-- Fill's answer, as a row that can be read. -/
theorem Filled.row {w : World} {zs ys : List Int} {f n : Nat} {ao : Option Addr} {c : Nat} {e : Ending} {w' : World} (h : Filled w zs ys f n (.slice ao n c) e w') (hr : Row w ao n zs) :
    ∃ ao' c', e = .returned (.slice ao' n c') ∧ Row w' ao' n (Pl.fill zs ys f) ∧ Below w.heap.size w w' := by
  rcases h with ⟨a, b, t⟩ | ⟨g, c', a, b, d, _⟩
  · subst b
    refine ⟨ao, c, a, ?_, Below.refl _ _⟩
    have : Pl.fill zs ys f = zs := Pl.fillTo_none _ _ _ _ (fun j _ => t j)
    rw [this]
    exact hr
  · obtain ⟨ao', c2, e2, r⟩ := Row.ofOwns b
    cases e2
    exact ⟨_, _, a, r, d⟩

set_option maxHeartbeats 1000000 in
theorem main6 (ao bo : Option Addr) (n m c1 c2 f : Nat) (zs ys : List Int) (w : World) (hn : n ≤ 65536) (hm : m ≤ 65536) (hf : (f : Int) ≤ 9223372036854775807)
    (hr : Row w ao n zs) (hs : Row w bo m ys) (ha : ao = none → n = 0) (hb : bo = none → m = 0) :
    Calls Try.prog 6 #[.slice ao n c1, .slice bo m c2, .int .i64 f] w fun e w' => e = .returned (.bool true) ∧ Below w.heap.size w w' := by
  have HR : Hid (Row w ao n zs) := hr
  have HS : Hid (Row w bo m ys) := hs
  have HA : Hid (ao = none → n = 0) := ha
  have HB : Hid (bo = none → m = 0) := hb
  clear hr hs ha hb
  go_enter Try.func6, Try.ntmps6
  go_wp2_with fail
  refine (bytes19 _ _ _ _ _ _ _ _).mono ?_
  rintro e w' ⟨⟨b, rfl⟩, rfl⟩
  cases b with
  | false =>
    go_wp2_with fail
    go_ret
    exact ⟨rfl, Below.refl _ _⟩
  | true =>
    go_wp2_with fail
    refine (clone ao n c1 zs _ hn HR.out HA.out).mono ?_
    rintro e w1 ⟨v1, rfl, hown1, hb1⟩
    obtain ⟨ao1, cc1, hv1, hrow1⟩ := Row.ofOwns hown1
    rw [hv1]
    clear hown1 hv1 v1
    go_wp2_with fail
    refine (clone bo m c2 ys _ hm (HS.out.below hb1) HB.out).mono ?_
    rintro e w2 ⟨v2, rfl, hown2, hb2⟩
    obtain ⟨ao2, cc2, hv2, hrow2⟩ := Row.ofOwns hown2
    rw [hv2]
    clear hown2 hv2 v2
    go_wp2_with fail
    refine (fill18 ao1 ao2 n m cc1 cc2 f zs ys _ hn hm hf (hrow1.below hb2) hrow2).mono ?_
    rintro e w3 hF
    obtain ⟨ao3, cc3, rfl, hrow3, hb3⟩ := hF.row (hrow1.below hb2)
    have R1 : Hid (Row w3 ao1 n zs) := (hrow1.below hb2).below hb3
    have R2 : Hid (Row w3 ao2 m ys) := hrow2.below hb3
    have R3 : Hid (Row w3 ao3 n (Pl.fill zs ys f)) := hrow3
    have RB : Hid (Below w'.heap.size w' w3) := (hb1.trans (hb2.mono hb1.size)).trans (hb3.mono (Nat.le_trans hb1.size hb2.size))
    have RL : Hid (zs.length = n) := HR.out.1
    clear hF hrow1 hrow2 hrow3 hb1 hb2 hb3 HR HS HA HB
    go_wp2_with fail
    go_loop [8] (fun i => ∃ k : Nat, k ≤ n + 1 ∧ i = .int .i64 k) (fun i => n + 1 - (intOf i).toNat)
    case atStart => exact ⟨0, by omega, rfl⟩
    case round =>
      obtain ⟨k, hk, rfl⟩ := hrel
      by_cases hlt : k ≤ n
      · cases hz : Pl.known zs k with
        | true =>
          obtain ⟨q1, q2⟩ := Pl.keeps (ys := ys) (f := f) hz
          go_wp2_with fail
          refine (estimate ao3 n cc3 k (Pl.fill zs ys f) _ hn (by omega) R3.out).mono ?_
          rintro e w4 ⟨rfl, rfl⟩
          go_wp2_with fail
          refine (estimate ao1 n cc1 k zs _ hn (by omega) R1.out).mono ?_
          rintro e w4 ⟨rfl, rfl⟩
          go_wp2_with fail
          refine (estimate ao2 m cc2 k ys _ hm (by omega) R2.out).mono ?_
          rintro e w4 ⟨rfl, rfl⟩
          go_wp2_with fail
          go_round
          case rel => exact ⟨k + 1, by omega, by go_num⟩
          case measure => simp [intOf]; omega
        | false =>
          by_cases h3 : k < n ∧ f ≤ k ∧ Pl.known ys k = true
          · obtain ⟨u1, u2, u3⟩ := h3
            obtain ⟨q1, q2⟩ := Pl.learns hz (by rw [RL.out]; exact u1) u2 u3
            go_wp2_with fail
            refine (estimate ao3 n cc3 k (Pl.fill zs ys f) _ hn (by omega) R3.out).mono ?_
            rintro e w4 ⟨rfl, rfl⟩
            go_wp2_with fail
            refine (estimate ao1 n cc1 k zs _ hn (by omega) R1.out).mono ?_
            rintro e w4 ⟨rfl, rfl⟩
            go_wp2_with fail
            refine (estimate ao2 m cc2 k ys _ hm (by omega) R2.out).mono ?_
            rintro e w4 ⟨rfl, rfl⟩
            go_wp2_with fail
            go_round
            case rel => exact ⟨k + 1, by omega, by go_num⟩
            case measure => simp [intOf]; omega
          · obtain ⟨q1, q2⟩ := Pl.nothing (ys := ys) (f := f) hz (by rw [RL.out]; exact h3)
            cases hy : Pl.known ys k with
            | true =>
              rw [hy] at h3
              by_cases u1 : k < n
              · have u2 : k < f := by simp [u1] at h3; exact h3
                clear h3
                go_wp2_with fail
                refine (estimate ao3 n cc3 k (Pl.fill zs ys f) _ hn (by omega) R3.out).mono ?_
                rintro e w4 ⟨rfl, rfl⟩
                go_wp2_with fail
                refine (estimate ao1 n cc1 k zs _ hn (by omega) R1.out).mono ?_
                rintro e w4 ⟨rfl, rfl⟩
                go_wp2_with fail
                refine (estimate ao2 m cc2 k ys _ hm (by omega) R2.out).mono ?_
                rintro e w4 ⟨rfl, rfl⟩
                go_wp2_with fail
                go_round
                case rel => exact ⟨k + 1, by omega, by go_num⟩
                case measure => simp [intOf]; omega
              · clear h3
                go_wp2_with fail
                refine (estimate ao3 n cc3 k (Pl.fill zs ys f) _ hn (by omega) R3.out).mono ?_
                rintro e w4 ⟨rfl, rfl⟩
                go_wp2_with fail
                refine (estimate ao1 n cc1 k zs _ hn (by omega) R1.out).mono ?_
                rintro e w4 ⟨rfl, rfl⟩
                go_wp2_with fail
                refine (estimate ao2 m cc2 k ys _ hm (by omega) R2.out).mono ?_
                rintro e w4 ⟨rfl, rfl⟩
                go_wp2_with fail
                go_round
                case rel => exact ⟨k + 1, by omega, by go_num⟩
                case measure => simp [intOf]; omega
            | false =>
              clear h3
              go_wp2_with fail
              refine (estimate ao3 n cc3 k (Pl.fill zs ys f) _ hn (by omega) R3.out).mono ?_
              rintro e w4 ⟨rfl, rfl⟩
              go_wp2_with fail
              refine (estimate ao1 n cc1 k zs _ hn (by omega) R1.out).mono ?_
              rintro e w4 ⟨rfl, rfl⟩
              go_wp2_with fail
              refine (estimate ao2 m cc2 k ys _ hm (by omega) R2.out).mono ?_
              rintro e w4 ⟨rfl, rfl⟩
              go_wp2_with fail
              all_goals
                go_round
                case rel => exact ⟨k + 1, by omega, by go_num⟩
                case measure => simp [intOf]; omega
      · go_wp2_with fail
        go_ret
        exact ⟨rfl, RB.out⟩

end Go.Proofs.Qxb6000829a
