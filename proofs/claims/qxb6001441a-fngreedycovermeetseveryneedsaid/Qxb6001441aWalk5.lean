/-
  The walk of FnGreedyCoverMeetsEveryNeed (5).
-/
import Derived.Test.Qxb6001441aGroups
import Derived.Test.Qxb6001441aWell
namespace Go.Proofs.Qxb6001441a
open Go.RowKit
set_option linter.unusedVariables false

/-- true; nothing old has turned. -/
def TruePost (w : World) (e : Ending) (w' : World) : Prop := e = .returned (.bool true) ∧ Below w.heap.size w w'

theorem below_step {w w1 w2 : World} (h : Below w.heap.size w w1) (k : Below w1.heap.size w1 w2) : Below w.heap.size w w2 := h.trans (k.mono h.size)

/-- What gcWellFormed says, in natural numbers. -/
theorem well_nat {n : Nat} {zss : List (List Int)} {cs : List Int} (hl : zss.length = cs.length) (h : GoodTo n zss.length zss cs) :
    ∃ M : List (List Nat), zss = M.map ofN ∧ Pl.WF M cs n := by
  have hrow : ∀ i, i < zss.length → ofN ((zss.getD i []).map Int.toNat) = zss.getD i [] := by
    intro i hi
    unfold ofN
    rw [List.map_map]
    have : (zss.getD i []).map ((fun (k : Nat) => (k : Int)) ∘ Int.toNat) = (zss.getD i []).map id := by
      apply List.map_congr_left
      intro x hx
      have := ((h i hi).2.2.1 x hx).1
      simp only [Function.comp, id]
      omega
    rw [this, List.map_id]
  have hM : zss = (zss.map fun z => z.map Int.toNat).map ofN := by
    rw [List.map_map]
    apply List.ext_getElem (by simp)
    intro i h1 h2
    have := hrow i h1
    simp only [List.getD, List.getElem?_eq_getElem h1, Option.getD_some] at this
    simp only [List.getElem_map, Function.comp]
    exact this.symm
  refine ⟨zss.map fun z => z.map Int.toNat, hM, ?_⟩
  have hat : ∀ i, i < zss.length → (zss.map fun z => z.map Int.toNat).getD i [] = (zss.getD i []).map Int.toNat := by
    intro i hi
    simp only [List.getD, List.getElem?_map, List.getElem?_eq_getElem hi, Option.map_some, Option.getD_some]
  refine ⟨by rw [List.length_map, hl], fun i hi => ?_, fun i hi p hp => ?_, fun i hi => ?_⟩
  · rw [List.length_map] at hi
    rw [hat i hi, List.length_map]
    exact ⟨(h i hi).1, (h i hi).2.1⟩
  · rw [List.length_map] at hi
    rw [hat i hi] at hp
    obtain ⟨x, hx, rfl⟩ := List.mem_map.1 hp
    have := (h i hi).2.2.1 x hx
    omega
  · rw [List.length_map] at hi
    rw [hat i hi]
    have hnd := (h i hi).2.2.2
    have hpos := (h i hi).2.2.1
    generalize zss.getD i [] = m at *
    rw [List.Nodup, List.pairwise_map]
    rw [List.Nodup] at hnd
    rw [List.pairwise_iff_getElem] at hnd ⊢
    intro a b ha hb hab
    have h1 := hpos _ (List.getElem_mem ha)
    have h2 := hpos _ (List.getElem_mem hb)
    have h3 := hnd a b ha hb hab
    omega

set_option maxHeartbeats 4000000 in
theorem main5 (a0 a1 : Option Addr) (n0 n1 c0 c1 : Nat) (z : Int) (zss : List (List Int)) (cs : List Int) (w : World) (h0 : MRow w a0 n0 zss) (h1 : IRow w a1 n1 cs) :
    Calls Try.prog 5 #[.slice a0 n0 c0, .slice a1 n1 c1, .int .i64 z] w (TruePost w) := by
  have H0 : Hid (MRow w a0 n0 zss) := h0
  have H1 : Hid (IRow w a1 n1 cs) := h1
  have HT : Hid (∀ w', Below w.heap.size w w' → TruePost w (.returned (.bool true)) w') := fun w' h => ⟨rfl, h⟩
  clear h0 h1
  go_enter Try.func5, Try.ntmps5
  go_wp2_with fail
  refine (bytes18 a0 a1 n0 n1 c0 c1 z zss _ H0.out).mono ?_
  rintro e w' ⟨⟨b, rfl⟩, ew⟩
  subst w'
  cases b
  case false => go_wp2_with fail; go_ret; exact HT.out _ (Below.refl _ _)
  go_wp2_with fail
  refine (gcBytes19 a0 a1 n0 n1 c0 c1 zss _ H0.out).mono ?_
  rintro e w' ⟨y, rfl, ew, hy⟩
  subst w'
  by_cases hy1 : y ≤ 1048576
  case neg => clear hy; go_wp2_with fail; go_ret; exact HT.out _ (Below.refl _ _)
  obtain ⟨q0, q1, hin⟩ := hy hy1
  have HI : Hid (∀ l ∈ zss, l.length ≤ 1048576) := hin
  clear hy hin
  by_cases hz0 : 0 ≤ z
  case neg => go_wp2_with fail; go_ret; exact HT.out _ (Below.refl _ _)
  by_cases hz1 : z ≤ 4096
  case neg => go_wp2_with fail; go_ret; exact HT.out _ (Below.refl _ _)
  obtain ⟨n, rfl⟩ := Int.eq_ofNat_of_zero_le hz0
  have hn : n ≤ 4096 := by omega
  go_wp2_with fail
  refine (well20 a0 a1 n0 n1 c0 c1 n zss cs _ hn q0 HI.out H0.out H1.out).mono ?_
  rintro e w1 ⟨b, rfl, hb1, hgood⟩
  have HB1 : Hid (Below w.heap.size w w1) := hb1
  clear hb1
  cases b
  case false => clear hgood; go_wp2_with fail; go_ret; exact HT.out _ HB1.out
  obtain ⟨hlen, hgt⟩ := hgood rfl
  have hnn : n1 = n0 := by have e1 := H0.out.1; have e2 := H1.out.1; omega
  subst hnn
  obtain ⟨M, hM, wf⟩ := well_nat hlen hgt
  have HM : Hid (zss = M.map ofN) := hM
  have HW : Hid (Pl.WF M cs n) := wf
  have HML : Hid (M.length = n1) := by show _ = _; have e1 := H0.out.1; rw [hM, List.length_map] at e1; exact e1
  clear hgood hlen hgt hM wf
  go_wp2_with fail
  refine (cloneII a0 n1 c0 zss _ q0 HI.out (H0.out.below HB1.out (Nat.le_refl _))).mono ?_
  rintro e w2 ⟨d0, e0, rfl, hr, hb⟩
  have HB2 : Hid (Below w.heap.size w w2) := below_step HB1.out hb
  have R0 : Hid (MRow w2 d0 n1 zss) := hr
  clear hr hb
  go_wp2_with fail
  refine (cloneI a1 n1 c1 cs _ q1 (H1.out.below HB2.out (Nat.le_refl _))).mono ?_
  rintro e w3 ⟨d1, e1, rfl, hr, _, hb⟩
  have HB3 : Hid (Below w.heap.size w w3) := below_step HB2.out hb
  replace R0 : Hid (MRow w3 d0 n1 zss) := R0.out.below hb (Nat.le_refl _)
  have R1 : Hid (IRow w3 d1 n1 cs) := hr
  clear hr hb
  have HRL : Hid (∀ i, i < n1 → (M.getD i []).length ≤ 1048576) := by
    intro i hi
    have hiM : i < M.length := by rw [HML.out]; exact hi
    have h1 := HI.out (ofN (M.getD i [])) (by
      rw [HM.out]
      refine List.mem_map.2 ⟨M.getD i [], ?_, rfl⟩
      simp [List.getD, hiM])
    rw [ofN_length] at h1
    exact h1
  go_wp2_with fail
  refine (greedy22 d0 d1 n1 e0 e1 n M cs _ hn q0 HRL.out HW.out (by rw [← HM.out]; exact R0.out) R1.out).mono ?_
  rintro e w4 ⟨dg, kg, eg, l, rfl, hk, hrow, hpw, hrg, hmeet, hb⟩
  have HB4 : Hid (Below w.heap.size w w4) := below_step HB3.out hb
  replace R0 : Hid (MRow w4 d0 n1 zss) := R0.out.below hb (Nat.le_refl _)
  replace R1 : Hid (IRow w4 d1 n1 cs) := R1.out.below hb (Nat.le_refl _)
  have RG : Hid (IRow w4 dg kg (ofN l)) := hrow
  have HPW : Hid (l.Pairwise (· < ·)) := hpw
  have HRG : Hid (∀ p ∈ l, p < n) := hrg
  have HMT : Hid (∀ i, i < M.length → cs.getD i 0 ≤ (Pl.cv M l i : Int)) := hmeet
  clear hrow hpw hrg hmeet hb
  go_wp2_with fail
  refine (shape23 dg kg eg n l _ hk hn HRG.out HPW.out RG.out).mono ?_
  rintro e w' ⟨rfl, q, ew⟩
  subst w'
  go_wp2_with fail
  refine (marks24 dg kg eg n l (w4.drewN q) hn hk HRG.out (RG.out.drewN q)).mono ?_
  rintro e w5 ⟨gk, bs, rfl, hblk, hmk, _, hb⟩
  have hb' : Below w4.heap.size w4 w5 := ⟨hb.os, hb.tape, hb.output, hb.size, hb.block⟩
  have HB5 : Hid (Below w.heap.size w w5) := below_step HB4.out hb'
  replace R0 : Hid (MRow w5 d0 n1 zss) := R0.out.below hb' (Nat.le_refl _)
  replace R1 : Hid (IRow w5 d1 n1 cs) := R1.out.below hb' (Nat.le_refl _)
  have HBK : Hid (Blk w5 gk 4 (bs.map Value.bool)) := hblk
  have HMK : Hid (Marks n l bs) := hmk
  have HND : Hid (l.Nodup) := by
    show l.Nodup
    have h1 := HPW.out
    rw [List.pairwise_iff_getElem] at h1
    rw [List.Nodup, List.pairwise_iff_getElem]
    intro i j hi hj hij
    have := h1 i j hi hj hij
    omega
  clear hblk hmk hb hb' RG
  go_wp2_with fail
  go_loopw [47] (fun i wr => ∃ k q : Nat, k ≤ n1 ∧ i = .int .i64 k ∧ wr = w5.drewN q) (fun i _ => n1 - (intOf i).toNat)
  case atStart => exact ⟨0, 0, Nat.zero_le _, rfl, rfl⟩
  case round =>
    obtain ⟨k, q', hk', rfl, rfl⟩ := hrel
    by_cases hlt : k < n1
    · obtain ⟨b0, o0, rfl, hb0, hc0⟩ := R0.out.at hlt
      obtain ⟨b1, o1, rfl, hb1, hc1⟩ := R1.out.at hlt
      obtain ⟨a, m, c', g0, hs⟩ := hc0 k hlt
      have g1 := hc1 k hlt
      rw [HM.out, rows_at] at hs
      have hkM : k < M.length := by rw [HML.out]; exact hlt
      have HS : Hid (IRow w5 a m (ofN (M.getD k []))) := hs
      have hm : m ≤ 1048576 := by
        have h1 := hs.1
        rw [ofN_length] at h1
        have h2 := HRL.out k hlt
        omega
      have hheld : cs.getD k 0 ≤ (((M.getD k []).countP fun p => decide (p ∈ l) : Nat) : Int) := by
        have h1 := HMT.out k hkM
        have h2 : Pl.cv M l k = (M.getD k []).countP (fun x => decide (x ∈ l)) := by
          unfold Pl.cv Pl.has
          exact Pl.meet_comm l (M.getD k []) HND.out (HW.out.nod k hkM)
        rw [h2] at h1
        exact h1
      have HRM : Hid (∀ p ∈ M.getD k [], p < n) := HW.out.rng k hkM
      clear hc0 hc1 hs hkM
      generalize M.getD k [] = mk at *
      generalize cs.getD k 0 = ck at *
      have HHC : ∀ wx, (∃ nq, wx = w5.drewN nq) → Calls Try.prog 25 #[.slice a m c', .slice (some ⟨gk, 0, none⟩) n n] wx fun e w' => e = .returned (.int .i64 ((mk.countP fun p => decide (p ∈ l)) : Nat)) ∧ w' = wx := by
        rintro wx ⟨nq, rfl⟩
        exact held25 a m c' n gk mk l bs _ hm hn HRM.out (HS.out.drewN nq) (HBK.out.drewN nq) HMK.out
      have HHH : Hid (∀ wx, (∃ nq, wx = w5.drewN nq) → Calls Try.prog 25 #[.slice a m c', .slice (some ⟨gk, 0, none⟩) n n] wx fun e w' => e = .returned (.int .i64 ((mk.countP fun p => decide (p ∈ l)) : Nat)) ∧ w' = wx) := HHC
      clear HHC
      have k0 : (k : Int) < (n1 : Int) := by omega
      go_wp2_with fail
      go_quiet ((go_at_call 25; exact (HHH.out _ ⟨_, rfl⟩).mono (fun e w'' h => ⟨h.1, _, h.2⟩)))
      go_wp2_with fail
      go_roundw
      case rel => exact ⟨k + 1, _, by omega, by go_num, rfl⟩
      case measure => simp [intOf]; omega
    · go_wp2_with fail
      go_ret
      exact HT.out _ (below_drawn HB5.out _)

end Go.Proofs.Qxb6001441a
