/-
  Contract: ZZGreedyCover (22): it builds the groups and calls greedyCover.
-/
import Derived.Test.Qxb6001441aCover
import Derived.Deep.RegionHeld3
namespace Go.Proofs.Qxb6001441a
open Go.RowKit
set_option linter.unusedVariables false

theorem Try.info60 : (Try.prog.info? 60).map (fun i => (i.zero, i.size, i.bytes)) = some (some (.agg #[.slice none 0 0, .int .i64 0]), 2, 32) := by kernel_rfl

/-- The groups built so far, at block w.heap.size. -/
def GrpRel (w : World) (n k : Nat) (M : List (List Nat)) (C : List Int) (wr : World) : Prop :=
  ∃ vs : List Value, vs.length = n * 2 ∧ Blk wr w.heap.size 60 vs ∧ (∀ j, j < k → ∃ a l c, vs[j * 2]? = some (.slice a l c) ∧ l ≤ 1048576 ∧ IRow w a l (ofN (M.getD j [])) ∧ vs[j * 2 + 1]? = some (.int .i64 (C.getD j 0))) ∧ Below w.heap.size w wr

abbrev put2 (wc : World) (g k : Nat) (x0 x1 : Value) : World := (wc.setCell ⟨g, k * 2, none⟩ x0).setCell ⟨g, k * 2 + 1, none⟩ x1

theorem far1 {wc : World} {b g o i : Nat} {x : Value} (h : b ≠ g) : (wc.setCell ⟨g, i, none⟩ x).cell? ⟨b, o, none⟩ = wc.cell? ⟨b, o, none⟩ :=
  World.cell?_of_block (Below.heap_setCell _ _ _ _ h)

theorem far2 {wc : World} {b g o k : Nat} {x y : Value} (h : b ≠ g) : (put2 wc g k x y).cell? ⟨b, o, none⟩ = wc.cell? ⟨b, o, none⟩ := by
  rw [far1 h, far1 h]

theorem GrpRel.step {w wr : World} {n k l c : Nat} {M : List (List Nat)} {C : List Int} {a : Option Addr} (h : GrpRel w n k M C wr) (hlt : k < n) (hl : l ≤ 1048576) (hs : IRow w a l (ofN (M.getD k []))) (q : Nat) :
    GrpRel w n (k + 1) M C (put2 (wr.drewN q) w.heap.size k (.slice a l c) (.int .i64 (C.getD k 0))) := by
  obtain ⟨vs, hv, hblk, hin, hbel⟩ := h
  have hblk' : Blk (wr.drewN q) w.heap.size 60 vs := hblk
  refine ⟨_, ?_, (hblk'.store (k * 2) (.slice a l c)).store (k * 2 + 1) (.int .i64 (C.getD k 0)), fun j hj => ?_, ?_⟩
  · rw [List.length_set, List.length_set]; exact hv
  · by_cases e : j = k
    · subst e
      refine ⟨a, l, c, ?_, hl, hs, ?_⟩
      · rw [List.getElem?_set_ne (by omega), List.getElem?_set_self (by omega)]
      · rw [List.getElem?_set_self (by rw [List.length_set]; omega)]
    · obtain ⟨a', l', c', q1, q2, q3, q4⟩ := hin j (by omega)
      refine ⟨a', l', c', ?_, q2, q3, ?_⟩
      · rw [List.getElem?_set_ne (by omega), List.getElem?_set_ne (by omega)]; exact q1
      · rw [List.getElem?_set_ne (by omega), List.getElem?_set_ne (by omega)]; exact q4
  · exact ((below_drawn hbel q).setCell (Nat.le_refl _) _).setCell (Nat.le_refl _) _

theorem GrpRel.done {w wr : World} {n : Nat} {M : List (List Nat)} {C : List Int} (h : GrpRel w n n M C wr) (hl : M.length = n) (hn : n ≤ 1048576) : GRow wr (some ⟨w.heap.size, 0, none⟩) n M C := by
  obtain ⟨vs, hv, hblk, hin, hbel⟩ := h
  refine ⟨hl, hn, .inr ⟨w.heap.size, 0, rfl, hblk.lt, fun i hi => ?_⟩⟩
  obtain ⟨a, l, c, q1, q2, q3, q4⟩ := hin i hi
  rw [Nat.zero_add]
  exact ⟨a, l, c, by rw [hblk.cell]; exact q1, q2, q3.below hbel (Nat.le_refl _), by rw [hblk.cell]; exact q4⟩

theorem rows_at (M : List (List Nat)) (k : Nat) : (M.map ofN).getD k [] = ofN (M.getD k []) := by
  simp only [List.getD, List.getElem?_map]
  cases M[k]? with
  | none => rfl
  | some m => rfl

set_option maxHeartbeats 2000000 in
theorem greedy22 (a0 a1 : Option Addr) (G c0 c1 n : Nat) (M : List (List Nat)) (C : List Int) (w : World) (hn : n ≤ 4096) (hG : G ≤ 1048576) (hin : ∀ i, i < G → (M.getD i []).length ≤ 1048576) (wf : Pl.WF M C n)
    (h0 : MRow w a0 G (M.map ofN)) (h1 : IRow w a1 G C) :
    Calls Try.prog 22 #[.slice a0 G c0, .slice a1 G c1, .int .i64 n] w (CoverPost M C n w) := by
  have H0 : Hid (MRow w a0 G (M.map ofN)) := h0
  have H1 : Hid (IRow w a1 G C) := h1
  have HI : Hid (∀ i, i < G → (M.getD i []).length ≤ 1048576) := hin
  have HW : Hid (Pl.WF M C n) := wf
  have HL : Hid (M.length = G) := by have := h0.1; rw [List.length_map] at this; exact this
  clear h0 h1 hin wf
  obtain ⟨i0, hi, hz0, hz1, hz2⟩ := info_parts Try.info60
  go_enter Try.func22, Try.ntmps22
  go_wp2_with (at_make; refine wpList_make_full _ rfl _ _ 58 rfl w.heap.size 60 i0 (.agg #[.slice none 0 0, .int .i64 0]) 2 Try.underlying58 hi hz0 hz1 _ _ _ _ G rfl rfl rfl rfl ?b2 ?b3 (Nat.le_refl _) ?_)
  case b2 => rw [hz2]; omega
  case b3 => unfold maxLen; omega
  intro w0 hown0 hgrow0
  go_wp2_with fail
  go_loopw [14] (fun i wr => ∃ k : Nat, k ≤ G ∧ i = .int .i64 k ∧ GrpRel w G k M C wr) (fun i _ => G - (intOf i).toNat)
  case atStart => exact ⟨0, Nat.zero_le _, rfl, _, by simpa using hown0.1, Blk.ofOwns hown0, (fun j h => by omega), (Below.refl _ _).grown hgrow0 (Nat.le_refl _) (fun k h => by cases h)⟩
  case round =>
    obtain ⟨k, hk, rfl, hrel⟩ := hrel
    have HR : Hid (GrpRel w G k M C wr) := hrel
    clear hrel
    by_cases hlt : k < G
    · obtain ⟨vs, hv, hblk, _, hbel⟩ := HR.out
      obtain ⟨b0, o0, rfl, hb0, hc0⟩ := H0.out.at hlt
      obtain ⟨b1, o1, rfl, hb1, hc1⟩ := H1.out.at hlt
      obtain ⟨a, l, c', g0', hs⟩ := hc0 k hlt
      rw [rows_at] at hs
      have g0 : wr.cell? ⟨b0, o0 + k, none⟩ = some (.slice a l c') := (hbel.cell (p := ⟨b0, o0 + k, none⟩) hb0).trans g0'
      have g1 : wr.cell? ⟨b1, o1 + k, none⟩ = some (.int .i64 (C.getD k 0)) := (hbel.cell (p := ⟨b1, o1 + k, none⟩) hb1).trans (hc1 k hlt)
      have hll : l ≤ 1048576 := by
        have h1 := hs.1
        rw [ofN_length] at h1
        have h2 := HI.out k hlt
        omega
      have HR2 : Hid (∀ q, GrpRel w G (k + 1) M C (put2 (wr.drewN q) w.heap.size k (.slice a l c') (.int .i64 (C.getD k 0)))) := fun q => HR.out.step hlt hll hs q
      have hf0 : wr.frozen? ⟨w.heap.size, k * 2, none⟩ = false := hblk.frozen _
      have hf1 : wr.frozen? ⟨w.heap.size, k * 2 + 1, none⟩ = false := hblk.frozen _
      obtain ⟨y0, hy0⟩ : ∃ v, wr.cell? ⟨w.heap.size, k * 2, none⟩ = some v := ⟨vs[k * 2]'(by omega), by rw [hblk.cell]; simp⟩
      obtain ⟨y1, hy1⟩ : ∃ v, wr.cell? ⟨w.heap.size, k * 2 + 1, none⟩ = some v := ⟨vs[k * 2 + 1]'(by omega), by rw [hblk.cell]; simp⟩
      clear hc0 hc1 hs hblk hbel g0' hv HR
      generalize C.getD k 0 = ck at *
      have e0 : b0 ≠ w.heap.size := by omega
      have e1 : b1 ≠ w.heap.size := by omega
      have k0 : (k : Int) < (G : Int) := by omega
      go_wp2_with fail
      go_region_held3 (fun w' => w'.cell? ⟨b0, o0 + k, none⟩ = some (.slice a l c') ∧ w'.cell? ⟨b1, o1 + k, none⟩ = some (.int .i64 ck))
        (first | exact ⟨g0, g1⟩ | exact ⟨(far2 e0).trans g0, (far2 e1).trans g1⟩)
        (fail)

      go_wp2_with fail
      go_roundw
      case rel => exact ⟨k + 1, by omega, by go_num, HR2.out 1⟩
      case measure => simp [intOf]; omega
    · have hkG : G = k := by omega
      subst hkG
      have HGR : Hid (GRow wr (some ⟨w.heap.size, 0, none⟩) G M C) := HR.out.done HL.out hG
      have HB : Hid (Below w.heap.size w wr) := HR.out.choose_spec.2.2.2
      clear HR
      go_wp2_with fail
      refine (cover30 (some ⟨w.heap.size, 0, none⟩) G G n M C _ hn HW.out HGR.out).mono ?_
      rintro e w' ⟨ao', k', cap', l, rfl, q1, q2, q3, q4, q5, q6⟩
      have HP : Hid (CoverPost M C n w (.returned (.slice ao' k' cap')) w') := ⟨ao', k', cap', l, rfl, q1, q2, q3, q4, q5, HB.out.trans (q6.mono HB.out.size)⟩
      clear q1 q2 q3 q4 q5 q6
      go_wp2_with fail
      go_ret
      exact HP.out

end Go.Proofs.Qxb6001441a
