/-
  Contracts: zzStrBytes (10), zzNestBytes (19), zzResTooBig (18), zzCloneStrs (11).
-/
import Derived.Test.Qxb6001426aRows
import Derived.WalkKit
import Derived.ProofKit
import Derived.Below
import Derived.WalkSpells
import Derived.Lib.SliceRun
import Derived.Test.Qxb6001426aPlain
namespace Go.Proofs.Qxb6001426a
open Go.RowKit
set_option linter.unusedVariables false

/-- A slice of strings that can be read. -/
def SRow (w : World) (ao : Option Addr) (n : Nat) (ss : Pl.Strs) : Prop :=
  ss.length = n ∧ (n : Int) ≤ 9223372036854775807 ∧ (ao = none → n = 0) ∧
  (n = 0 ∨ ∃ b off, ao = some ⟨b, off, none⟩ ∧ b < w.heap.size ∧ ∀ k, k < n → w.cell? ⟨b, off + k, none⟩ = some (.string (ss.getD k ByteArray.empty)))

theorem SRow.below {w w' : World} {B : Nat} {ao : Option Addr} {n : Nat} {ss : Pl.Strs} (h : SRow w ao n ss) (hb : Below B w w') (hB : w.heap.size ≤ B) : SRow w' ao n ss := by
  obtain ⟨h1, h2, h3, h4⟩ := h
  refine ⟨h1, h2, h3, ?_⟩
  rcases h4 with h4 | ⟨b, off, e, hl, hc⟩
  · exact .inl h4
  · exact .inr ⟨b, off, e, Nat.lt_of_lt_of_le hl hb.size, fun k hk => (hb.cell (p := ⟨b, off + k, none⟩) (Nat.lt_of_lt_of_le hl hB)).trans (hc k hk)⟩

/-- What is asked of the cells where there is an element. -/
theorem SRow.at {w : World} {ao : Option Addr} {n : Nat} {ss : Pl.Strs} (h : SRow w ao n ss) {k : Nat} (hk : k < n) :
    ∃ b off, ao = some ⟨b, off, none⟩ ∧ b < w.heap.size ∧ ∀ k, k < n → w.cell? ⟨b, off + k, none⟩ = some (.string (ss.getD k ByteArray.empty)) := by
  rcases h.2.2.2 with h | h
  · omega
  · exact h

/-- A slice of slices of strings that can be read. -/
def NRow (w : World) (ao : Option Addr) (n : Nat) (sss : List Pl.Strs) : Prop :=
  sss.length = n ∧ (n : Int) ≤ 9223372036854775807 ∧ (ao = none → n = 0) ∧
  (n = 0 ∨ ∃ b off, ao = some ⟨b, off, none⟩ ∧ b < w.heap.size ∧ ∀ k, k < n → ∃ a m c, w.cell? ⟨b, off + k, none⟩ = some (.slice a m c) ∧ SRow w a m (sss.getD k []))

theorem NRow.below {w w' : World} {B : Nat} {ao : Option Addr} {n : Nat} {sss : List Pl.Strs} (h : NRow w ao n sss) (hb : Below B w w') (hB : w.heap.size ≤ B) : NRow w' ao n sss := by
  obtain ⟨h1, h2, h3, h4⟩ := h
  refine ⟨h1, h2, h3, ?_⟩
  rcases h4 with h4 | ⟨b, off, e, hl, hc⟩
  · exact .inl h4
  · refine .inr ⟨b, off, e, Nat.lt_of_lt_of_le hl hb.size, fun k hk => ?_⟩
    obtain ⟨a, m, c, q1, q2⟩ := hc k hk
    exact ⟨a, m, c, (hb.cell (p := ⟨b, off + k, none⟩) (Nat.lt_of_lt_of_le hl hB)).trans q1, q2.below hb hB⟩

theorem NRow.at {w : World} {ao : Option Addr} {n : Nat} {sss : List Pl.Strs} (h : NRow w ao n sss) {k : Nat} (hk : k < n) :
    ∃ b off, ao = some ⟨b, off, none⟩ ∧ b < w.heap.size ∧ ∀ k, k < n → ∃ a m c, w.cell? ⟨b, off + k, none⟩ = some (.slice a m c) ∧ SRow w a m (sss.getD k []) := by
  rcases h.2.2.2 with h | h
  · omega
  · exact h

theorem ret_int {k : IntKind} {a b : Int} (h : a = b) : Ending.returned (.int k a) = .returned (.int k b) := by rw [h]

set_option maxHeartbeats 400000 in
theorem strBytes (ao : Option Addr) (n c : Nat) (ss : Pl.Strs) (w : World) (hr : SRow w ao n ss) :
    Calls Try.prog 10 #[.slice ao n c] w fun e w' => e = .returned (.int .i64 (Pl.sb ss)) ∧ w' = w := by
  have hn := hr.2.1
  have HR : Hid (SRow w ao n ss) := hr
  have HL : Hid (ss.length = n) := hr.1
  clear hr
  go_enter Try.func10, Try.ntmps10
  go_wp2
  go_loop [3, 4] (fun t i => ∃ (k : Nat) (z : Nat), k ≤ n ∧ i = .int .i64 k ∧ t = .int .i64 z ∧ z ≤ 1048576 ∧ Hid (z = Pl.tot (ss.take k))) (fun _ i => n - (intOf i).toNat)
  case atStart => exact ⟨0, 24, Nat.zero_le _, rfl, rfl, by omega, by simp [Hid, Pl.tot]⟩
  case round =>
    obtain ⟨k, z, hk, rfl, rfl, hz, HZ⟩ := hrel
    by_cases hlt : k < n
    · obtain ⟨b, off, rfl, hb, hc⟩ := HR.out.at hlt
      have g := hc k hlt
      have HT : Hid (Pl.tot (ss.take (k + 1)) = z + (16 + (ss.getD k ByteArray.empty).size)) := by
        have := Pl.tot_take ss k (by rw [HL.out]; exact hlt)
        rw [HZ.out]; exact this
      generalize ss.getD k ByteArray.empty = s at *
      clear hc
      by_cases h1 : s.size ≤ 1048576
      · by_cases h2 : z + (16 + s.size) ≤ 1048576
        · go_wp2
          go_round
          case rel => exact ⟨k + 1, z + (16 + s.size), by omega, by go_num, by go_num, h2, HT.out.symm⟩
          case measure => simp [intOf]; omega
        · go_wp2
          go_ret
          exact ⟨ret_int (by rw [Pl.sb_big ss (k + 1) (by rw [HT.out]; omega)]; rfl), rfl⟩
      · go_wp2
        go_ret
        exact ⟨ret_int (by rw [Pl.sb_big ss (k + 1) (by rw [HT.out]; omega)]; rfl), rfl⟩
    · go_wp2
      go_ret
      have e : ss.take k = ss := List.take_of_length_le (by rw [HL.out]; omega)
      have hz2 := HZ.out
      rw [e] at hz2
      exact ⟨ret_int (by rw [Pl.sb_small ss (by omega), ← hz2]), rfl⟩

set_option maxHeartbeats 400000 in
theorem nestBytes (ao : Option Addr) (n c : Nat) (sss : List Pl.Strs) (w : World) (hr : NRow w ao n sss) :
    Calls Try.prog 19 #[.slice ao n c] w fun e w' => e = .returned (.int .i64 (Pl.nb sss)) ∧ w' = w := by
  have hn := hr.2.1
  have HR : Hid (NRow w ao n sss) := hr
  have HL : Hid (sss.length = n) := hr.1
  clear hr
  go_enter Try.func19, Try.ntmps19
  go_wp2_with fail
  go_loop [3, 4] (fun t i => ∃ (k : Nat) (z : Nat), k ≤ n ∧ i = .int .i64 k ∧ t = .int .i64 z ∧ z ≤ 1048576 ∧ Hid (z = Pl.totN (sss.take k))) (fun _ i => n - (intOf i).toNat)
  case atStart => exact ⟨0, 24, Nat.zero_le _, rfl, rfl, by omega, by simp [Hid, Pl.totN]⟩
  case round =>
    obtain ⟨k, z, hk, rfl, rfl, hz, HZ⟩ := hrel
    by_cases hlt : k < n
    · obtain ⟨b, off, rfl, hb, hc⟩ := HR.out.at hlt
      obtain ⟨a, m, c', g, hin⟩ := hc k hlt
      have HIN : Hid (SRow w a m (sss.getD k [])) := hin
      have HT : Hid (Pl.totN (sss.take (k + 1)) = z + Pl.sb (sss.getD k [])) := by
        have := Pl.totN_take sss k (by rw [HL.out]; exact hlt)
        rw [HZ.out]; exact this
      have hsb := Pl.sb_le (sss.getD k [])
      generalize sss.getD k [] = s at *
      clear hc hin
      by_cases h2 : z + Pl.sb s ≤ 1048576
      · go_wp2_with fail
        refine (strBytes a m c' s _ HIN.out).mono ?_
        rintro e w' ⟨rfl, rfl⟩
        go_wp2_with fail
        go_round
        case rel => exact ⟨k + 1, z + Pl.sb s, by omega, by go_num, by go_num, h2, HT.out.symm⟩
        case measure => simp [intOf]; omega
      · go_wp2_with fail
        refine (strBytes a m c' s _ HIN.out).mono ?_
        rintro e w' ⟨rfl, rfl⟩
        go_wp2_with fail
        go_ret
        exact ⟨ret_int (by rw [Pl.nb_big sss (k + 1) (by rw [HT.out]; omega)]; rfl), rfl⟩
    · go_wp2_with fail
      go_ret
      have e : sss.take k = sss := List.take_of_length_le (by rw [HL.out]; omega)
      have hz2 := HZ.out
      rw [e] at hz2
      exact ⟨ret_int (by rw [Pl.nb_small sss (by omega), ← hz2]), rfl⟩

/-- The answer of zzResTooBig. -/
def BigPost (n0 n1 n2 : Nat) (s2 : List Pl.Strs) (w : World) (e : Ending) (w' : World) : Prop :=
  ∃ b, e = .returned (.bool b) ∧ w' = w ∧ (b = false → n0 ≤ 4096 ∧ n1 ≤ 4096 ∧ n2 ≤ 4096 ∧ Pl.nb s2 ≤ 1048576)

set_option maxHeartbeats 400000 in
theorem tooBig (a0 a1 a2 : Option Addr) (n0 n1 n2 c0 c1 c2 : Nat) (s0 s1 : Pl.Strs) (s2 : List Pl.Strs) (w : World) (h0 : SRow w a0 n0 s0) (h1 : SRow w a1 n1 s1) (h2 : NRow w a2 n2 s2) :
    Calls Try.prog 18 #[.slice a0 n0 c0, .slice a1 n1 c1, .slice a2 n2 c2] w (BigPost n0 n1 n2 s2 w) := by
  have H0 : Hid (SRow w a0 n0 s0) := h0
  have H1 : Hid (SRow w a1 n1 s1) := h1
  have H2 : Hid (NRow w a2 n2 s2) := h2
  clear h0 h1 h2
  by_cases q : n0 ≤ 4096 ∧ n1 ≤ 4096 ∧ n2 ≤ 4096
  · obtain ⟨q0, q1, q2⟩ := q
    have b0 := Pl.sb_le s0
    have b1 := Pl.sb_le s1
    have b2 := Pl.nb_le s2
    go_enter Try.func18, Try.ntmps18
    go_wp2_with fail
    refine (strBytes a0 n0 c0 s0 _ H0.out).mono ?_
    rintro e w' ⟨rfl, rfl⟩
    go_wp2_with fail
    refine (strBytes a1 n1 c1 s1 _ H1.out).mono ?_
    rintro e w' ⟨rfl, rfl⟩
    go_wp2_with fail
    refine (nestBytes a2 n2 c2 s2 _ H2.out).mono ?_
    rintro e w' ⟨rfl, rfl⟩
    go_wp2_with fail
    go_ret
    refine ⟨_, rfl, rfl, fun hb => ?_⟩
    simp at hb
    exact ⟨q0, q1, q2, by omega⟩
  · by_cases q0 : n0 ≤ 4096
    · by_cases q1 : n1 ≤ 4096
      · have q2 : ¬ n2 ≤ 4096 := fun h => q ⟨q0, q1, h⟩
        clear q
        go_enter Try.func18, Try.ntmps18
        go_wp2_with fail
        go_ret
        exact ⟨true, rfl, rfl, fun hb => by cases hb⟩
      · clear q
        go_enter Try.func18, Try.ntmps18
        go_wp2_with fail
        go_ret
        exact ⟨true, rfl, rfl, fun hb => by cases hb⟩
    · clear q
      go_enter Try.func18, Try.ntmps18
      go_wp2_with fail
      go_ret
      exact ⟨true, rfl, rfl, fun hb => by cases hb⟩

end Go.Proofs.Qxb6001426a
