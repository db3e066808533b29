/-
  Contract of (Count).Fill (18).
-/
import Derived.Test.Qxb6000829aClone
namespace Go.Proofs.Qxb6000829a
open Go.RowKit
set_option linter.unusedVariables false

/-- The loop's relation in Fill: 'filled' is nil and nothing was taken so far, or it owns the list so far. -/
def FillRel (w : World) (zs ys : List Int) (f n k : Nat) (v : Value) (wr : World) : Prop :=
  (v = .slice none 0 0 ∧ wr = w ∧ ∀ j, j < k → Pl.took zs ys f j = false) ∨
  ∃ g c', v = .slice (some ⟨g, 0, none⟩) n c' ∧ wr.ownsRow w.heap.size 3 1 (.slice (some ⟨g, 0, none⟩) n c') n ((Pl.fillTo zs ys f k).map (Value.int .i64)) ∧ Below w.heap.size w wr ∧ ∃ j, Pl.took zs ys f j = true

theorem FillRel.skip {w : World} {zs ys : List Int} {f n k : Nat} {v : Value} {wr : World} (h : FillRel w zs ys f n k v wr) (ht : Pl.took zs ys f k = false) : FillRel w zs ys f n (k + 1) v wr := by
  rcases h with ⟨a, b, c⟩ | ⟨g, c', a, b, c, d⟩
  · refine .inl ⟨a, b, fun j hj => ?_⟩
    by_cases e : j = k
    · subst e; exact ht
    · exact c j (by omega)
  · exact .inr ⟨g, c', a, by rw [Pl.fillTo_skip _ _ _ _ ht]; exact b, c, d⟩

theorem owns_ge {w : World} {base n g c' : Nat} {xs : List Value} (h : w.ownsRow base 3 1 (.slice (some ⟨g, 0, none⟩) n c') n xs) : base ≤ g := (h.lt g rfl).1

theorem FillRel.store {w : World} {zs ys : List Int} {f n k g c' : Nat} {wr : World} (hl : zs.length = n)
    (hown : wr.ownsRow w.heap.size 3 1 (.slice (some ⟨g, 0, none⟩) n c') n ((Pl.fillTo zs ys f k).map (Value.int .i64))) (hb : Below w.heap.size w wr) (ht : Pl.took zs ys f k = true) :
    FillRel w zs ys f n (k + 1) (.slice (some ⟨g, 0, none⟩) n c') (wr.setCell ⟨g, k, none⟩ (.int .i64 (ys.getD k 0))) := by
  obtain ⟨h1, h2⟩ := hown.stored k (.int .i64 (ys.getD k 0))
  refine .inr ⟨g, c', rfl, ?_, hb.grown h2 hb.size (fun j hj => by cases hj; exact owns_ge hown), k, ht⟩
  rw [Pl.fillTo_take _ _ _ _ ht (Pl.took_parts ht).2.1, List.map_set]
  exact h1

/-- The answer of Fill. -/
def Filled (w : World) (zs ys : List Int) (f n : Nat) (v0 : Value) (e : Ending) (w' : World) : Prop :=
  (e = .returned v0 ∧ w' = w ∧ ∀ j, Pl.took zs ys f j = false) ∨
  ∃ g c', e = .returned (.slice (some ⟨g, 0, none⟩) n c') ∧ w'.ownsRow w.heap.size 3 1 (.slice (some ⟨g, 0, none⟩) n c') n ((Pl.fill zs ys f).map (Value.int .i64)) ∧ Below w.heap.size w w' ∧ ∃ j, Pl.took zs ys f j = true

set_option maxHeartbeats 800000 in
theorem fill18 (ao bo : Option Addr) (n m c1 c2 : Nat) (f : Nat) (zs ys : List Int) (w : World) (hn : n ≤ 65536) (hm : m ≤ 65536) (hf : (f : Int) ≤ 9223372036854775807)
    (hr : Row w ao n zs) (hs : Row w bo m ys) :
    Calls Try.prog 18 #[.slice ao n c1, .slice bo m c2, .int .i64 f] w (Filled w zs ys f n (.slice ao n c1)) := by
  have hq : ∀ (w : World) (a : Option Addr) (n c n' c' : Nat), (binOp .eql 25 (.slice a n c) (.slice none n' c')).run Try.prog w = .ok (.bool a.isNone) w := fun w a n c n' c' => Lib.run_eql_slice_nil w _ _ a n c n' c' Try.underlying25
  obtain ⟨hl1, hr⟩ := hr
  obtain ⟨hl2, hs⟩ := hs
  have HL1 : Hid (zs.length = n) := hl1
  have HL2 : Hid (ys.length = m) := hl2
  have HR := (show Hid _ from hr)
  have HS := (show Hid _ from hs)
  clear hl1 hl2 hr hs
  go_enter Try.func18, Try.ntmps18
  go_wp2
  go_loopw [7, 8] (fun v i wr => ∃ k : Nat, f ≤ k ∧ (k : Int) ≤ 9223372036854775807 ∧ i = .int .i64 k ∧ FillRel w zs ys f n k v wr) (fun _ i _ => n - (intOf i).toNat)
  case atStart => exact ⟨f, Nat.le_refl _, hf, rfl, .inl ⟨rfl, rfl, fun j h => Pl.took_early h⟩⟩
  case round =>
    obtain ⟨k, hk, hk2, rfl, hrel⟩ := hrel
    have HF : Hid (FillRel w zs ys f n k u7 wr) := hrel
    clear hrel
    by_cases hlt : k < n ∧ k < m
    · obtain ⟨h1, h2⟩ := hlt
      obtain ⟨b, off, ea, hb, hc⟩ : ∃ b off, ao = some ⟨b, off, none⟩ ∧ b < w.heap.size ∧ ∀ k, k < n → w.cell? ⟨b, off + k, none⟩ = some (.int .i64 (zs.getD k 0)) := by
        rcases HR.out with h | h
        · omega
        · exact h
      obtain ⟨b', off', eb, hb', hc'⟩ : ∃ b off, bo = some ⟨b, off, none⟩ ∧ b < w.heap.size ∧ ∀ k, k < m → w.cell? ⟨b, off + k, none⟩ = some (.int .i64 (ys.getD k 0)) := by
        rcases HS.out with h | h
        · omega
        · exact h
      subst ea
      subst eb
      have hbw : Below w.heap.size w wr := by
        rcases HF.out with ⟨_, rfl, _⟩ | ⟨_, _, _, _, h, _⟩
        · exact Below.refl _ _
        · exact h
      have g1 : wr.cell? ⟨b, off + k, none⟩ = some (.int .i64 (zs.getD k 0)) := (hbw.cell (p := ⟨b, off + k, none⟩) hb).trans (hc k h1)
      have g2 : wr.cell? ⟨b', off' + k, none⟩ = some (.int .i64 (ys.getD k 0)) := (hbw.cell (p := ⟨b', off' + k, none⟩) hb').trans (hc' k h2)
      have HC := (show Hid _ from hc)
      have HC' := (show Hid _ from hc')
      clear hc hc'
      by_cases hz : zs.getD k 0 = -1
      · by_cases hy : ys.getD k 0 = -1
        · have ht : Pl.took zs ys f k = false := by
            cases e : Pl.took zs ys f k with
            | false => rfl
            | true => exact absurd hy (Pl.took_parts e).2.2.2.2
          have HT := (show Hid (FillRel w zs ys f n (k + 1) u7 wr) from FillRel.skip HF.out ht)
          rw [hz] at g1
          rw [hy] at g2
          clear hz hy ht
          go_wp2_with fail
          all_goals
            go_roundw
            case rel => exact ⟨k + 1, by omega, by omega, by go_num, HT.out⟩
            case measure => simp [intOf]; omega
        · have ht : Pl.took zs ys f k = true := Pl.took_mk hk (by rw [HL1.out]; exact h1) (by rw [HL2.out]; exact h2) hz hy
          rw [hz] at g1
          obtain ⟨y, ey⟩ : ∃ y, y = ys.getD k 0 := ⟨_, rfl⟩
          rw [← ey] at g2
          have hye : (y == -1) = false := by rw [ey]; simpa using hy
          have hyn : (y != -1) = true := by rw [ey]; simpa using hy
          have HY : Hid (y = ys.getD k 0) := ey
          clear ey
          have HYE := (show Hid (Pl.took zs ys f k = true) from ht)
          clear hz hy ht
          rcases HF.out with ⟨ev, ew, hno⟩ | ⟨g, c', ev, hown, _, _⟩
          · subst ew
            subst ev
            have hfz : Pl.fillTo zs ys f k = zs := Pl.fillTo_none _ _ _ _ hno
            have HFZ := (show Hid (Pl.fillTo zs ys f k = zs) from hfz)
            clear hfz hno
            go_wp2_with fail
            all_goals
              refine (clone22 _ _ _ _ zs _ HL1.out hn HC.out).mono ?_
              rintro e w1 ⟨g, c', rfl, hown, hb1⟩
              have hcell : w1.cell? ⟨g, k, none⟩ = some (.int .i64 (zs.getD k 0)) := by
                rw [hown.cellAt k (by omega)]
                exact ints_at (by have := HL1.out; omega)
              have hfz : w1.frozen? ⟨g, k, none⟩ = false := hown.frozenAt k
              have g3 : w1.cell? ⟨b', off' + k, none⟩ = some (.int .i64 y) := (hb1.cell (p := ⟨b', off' + k, none⟩) hb').trans g2
              have hown2 := hown
              rw [← HFZ.out] at hown2
              have HN := (show Hid (FillRel _ zs ys f n (k + 1) _ _) from FillRel.store HL1.out hown2 hb1 HYE.out)
              rw [← HY.out] at HN
              clear hown hown2 hb1
              go_wp2_with fail
              go_roundw
              case rel => exact ⟨k + 1, by omega, by omega, by go_num, HN.out⟩
              case measure => simp [intOf]; omega
          · subst ev
            have hcell : wr.cell? ⟨g, k, none⟩ = some (.int .i64 ((Pl.fillTo zs ys f k).getD k 0)) := by
              rw [hown.cellAt k (by omega)]
              exact ints_at (by rw [Pl.fillTo_length]; have := HL1.out; omega)
            have hfz : wr.frozen? ⟨g, k, none⟩ = false := hown.frozenAt k
            have HN := (show Hid (FillRel _ zs ys f n (k + 1) _ _) from FillRel.store HL1.out hown hbw HYE.out)
            rw [← HY.out] at HN
            clear hown
            go_wp2_with fail
            all_goals
              go_roundw
              case rel => exact ⟨k + 1, by omega, by omega, by go_num, HN.out⟩
              case measure => simp [intOf]; omega
      · have ht : Pl.took zs ys f k = false := by
          cases e : Pl.took zs ys f k with
          | false => rfl
          | true => exact absurd (Pl.took_parts e).2.2.2.1 hz
        obtain ⟨z, ez⟩ : ∃ z, z = zs.getD k 0 := ⟨_, rfl⟩
        rw [← ez] at g1
        have hze : (z == -1) = false := by rw [ez]; simpa using hz
        clear ez
        have HT := (show Hid (FillRel w zs ys f n (k + 1) u7 wr) from FillRel.skip HF.out ht)
        clear hz ht
        go_wp2_with fail
        all_goals
          go_roundw
          case rel => exact ⟨k + 1, by omega, by omega, by go_num, HT.out⟩
          case measure => simp [intOf]; omega
    · have hend : zs.length ≤ k ∨ ys.length ≤ k := by rw [HL1.out, HL2.out]; omega
      have HE := (show Hid (zs.length ≤ k ∨ ys.length ≤ k) from hend)
      clear hend
      rcases HF.out with ⟨ev, ew, hno⟩ | ⟨g, c', ev, hown, hb1, hj⟩
      · subst ew
        subst ev
        have HNO := (show Hid (∀ j, Pl.took zs ys f j = false) from fun j => by
          by_cases e : j < k
          · exact hno j e
          · exact Pl.took_late (by rcases HE.out with q | q; exact .inl (by omega); exact .inr (by omega)))
        clear hno
        go_wp2_with fail
        all_goals
          go_ret
          exact .inl ⟨rfl, rfl, HNO.out⟩
      · subst ev
        rw [Pl.fillTo_done _ _ _ _ HE.out] at hown
        have HN := (show Hid (Filled w zs ys f n (.slice ao n c1) (.returned (.slice (some ⟨g, 0, none⟩) n c')) wr) from .inr ⟨g, c', rfl, hown, hb1, hj⟩)
        clear hown hb1 hj
        go_wp2_with fail
        all_goals
          go_ret
          exact HN.out

end Go.Proofs.Qxb6000829a
