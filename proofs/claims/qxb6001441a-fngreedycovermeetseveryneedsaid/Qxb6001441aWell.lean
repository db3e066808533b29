/-
  Contract: gcWellFormed (20).
-/
import Derived.Test.Qxb6001441aClone
namespace Go.Proofs.Qxb6001441a
open Go.RowKit
set_option linter.unusedVariables false

/-- One group is well formed. -/
def RowGood (n : Nat) (m : List Int) (c : Int) : Prop := 1 ≤ c ∧ c ≤ (m.length : Int) ∧ (∀ p ∈ m, 0 ≤ p ∧ p < (n : Int)) ∧ m.Nodup

def GoodTo (n k : Nat) (zss : List (List Int)) (cs : List Int) : Prop := ∀ j, j < k → RowGood n (zss.getD j []) (cs.getD j 0)

def WellPost (n : Nat) (zss : List (List Int)) (cs : List Int) (w : World) (e : Ending) (w' : World) : Prop :=
  ∃ b, e = .returned (.bool b) ∧ Below w.heap.size w w' ∧ (b = true → zss.length = cs.length ∧ GoodTo n zss.length zss cs)

/-- The marks after t members of group k. -/
def MarkRel (n k t : Nat) (m : List Int) (mk : List Int) : Prop :=
  mk.length = n ∧ (∀ q ∈ m.take t, 0 ≤ q ∧ q < (n : Int) ∧ mk.getD q.toNat 0 = (k : Int) + 1) ∧ (m.take t).Nodup

theorem take_snocI (l : List Int) (k : Nat) (h : k < l.length) : l.take (k + 1) = l.take k ++ [l.getD k 0] := by
  rw [List.take_succ_eq_append_getElem h]
  simp [List.getD, h]

theorem MarkRel.step {n k t p : Nat} {m mk : List Int} (h : MarkRel n k t m mk) (ht : t < m.length) (hp : m.getD t 0 = (p : Int)) (hpn : p < n) (hne : mk.getD p 0 ≠ (k : Int) + 1) : MarkRel n k (t + 1) m (mk.set p ((k : Int) + 1)) := by
  obtain ⟨h1, h2, h3⟩ := h
  have hlp : p < mk.length := by omega
  refine ⟨by rw [List.length_set]; exact h1, fun q hq => ?_, ?_⟩
  · rw [take_snocI m t ht, hp] at hq
    rcases List.mem_append.1 hq with hq | hq
    · obtain ⟨a, b, c⟩ := h2 q hq
      refine ⟨a, b, ?_⟩
      rw [Pl.getD_set mk p q.toNat _ (by omega)]
      split
      · rfl
      · exact c
    · have e : q = (p : Int) := by simpa using hq
      subst e
      refine ⟨by omega, by omega, ?_⟩
      rw [Int.toNat_natCast, Pl.getD_set mk p p _ hlp, if_pos rfl]
  · rw [take_snocI m t ht, hp, List.nodup_append]
    refine ⟨h3, by simp, ?_⟩
    intro a ha b hb
    have e : b = (p : Int) := by simpa using hb
    subst e
    intro e2
    subst e2
    obtain ⟨_, _, c⟩ := h2 _ ha
    rw [Int.toNat_natCast] at c
    exact hne c

theorem MarkRel.good {n k : Nat} {m mk : List Int} {c : Int} (h : MarkRel n k m.length m mk) (h1 : 1 ≤ c) (h2 : c ≤ (m.length : Int)) : RowGood n m c := by
  obtain ⟨a, b, d⟩ := h
  rw [List.take_length] at b d
  exact ⟨h1, h2, fun p hp => ⟨(b p hp).1, (b p hp).2.1⟩, d⟩

set_option maxHeartbeats 2000000 in
theorem well20 (a0 a1 : Option Addr) (n0 n1 c0 c1 n : Nat) (zss : List (List Int)) (cs : List Int) (w : World) (hn : n ≤ 4096) (q0 : n0 ≤ 1048576) (hin : ∀ s ∈ zss, s.length ≤ 1048576) (h0 : MRow w a0 n0 zss) (h1 : IRow w a1 n1 cs) :
    Calls Try.prog 20 #[.slice a0 n0 c0, .slice a1 n1 c1, .int .i64 n] w (WellPost n zss cs w) := by
  have H0 : Hid (MRow w a0 n0 zss) := h0
  have H1 : Hid (IRow w a1 n1 cs) := h1
  have HI : Hid (∀ s ∈ zss, s.length ≤ 1048576) := hin
  clear h0 h1 hin
  by_cases hlen : n0 = n1
  case neg =>
    have HP : Hid (WellPost n zss cs w (.returned (.bool false)) w) := ⟨false, rfl, Below.refl _ _, fun h => by cases h⟩
    have hne : ((n0 : Int) != (n1 : Int)) = true := by simp; omega
    go_enter Try.func20, Try.ntmps20
    go_wp2_with fail
    go_ret
    exact HP.out
  subst hlen
  have HF : Hid (∀ w', Below w.heap.size w w' → WellPost n zss cs w (.returned (.bool false)) w') := fun w' h => ⟨false, rfl, h, fun h => by cases h⟩
  obtain ⟨i0, hi, hz0, hz1, hz2⟩ := info_parts Try.info3
  go_enter Try.func20, Try.ntmps20
  go_wp2_with (at_make; refine wpList_make_full _ rfl _ _ 33 rfl w.heap.size 3 i0 (.int .i64 0) 1 Try.underlying33 hi hz0 hz1 _ _ _ _ n rfl rfl rfl rfl ?b2 ?b3 (Nat.le_refl _) ?_)
  case b2 => rw [hz2]; omega
  case b3 => unfold maxLen; omega
  intro w0 hown0 hgrow0
  go_wp2_with fail
  go_loopw [21] (fun i wr => ∃ (k : Nat) (mk : List Int), k ≤ n0 ∧ i = .int .i64 k ∧ mk.length = n ∧ Blk wr w.heap.size 3 (mk.map (Value.int .i64)) ∧ Below w.heap.size w wr ∧ GoodTo n k zss cs) (fun i _ => n0 - (intOf i).toNat)
  case atStart =>
    refine ⟨0, List.replicate n 0, Nat.zero_le _, rfl, by simp, ?_, (Below.refl _ _).grown hgrow0 (Nat.le_refl _) (fun k h => by cases h), fun j h => by omega⟩
    have e : (madeCells #[Value.int .i64 0] n).toList = (List.replicate n 0).map (Value.int .i64) := by
      rw [toList_madeCells_one]
      simp
    rw [← e]
    exact Blk.ofOwns hown0
  case round =>
    obtain ⟨k, mk, hk, rfl, hml, hblk, hbel, hgood⟩ := hrel
    have HG : Hid (GoodTo n k zss cs) := hgood
    have HB : Hid (Below w.heap.size w wr) := hbel
    have HM : Hid (Blk wr w.heap.size 3 (mk.map (Value.int .i64))) := hblk
    have HML : Hid (mk.length = n) := hml
    clear hgood hbel hblk hml
    by_cases hlt : k < n0
    · obtain ⟨b, off, rfl, hb, hc⟩ := H0.out.at hlt
      obtain ⟨a, m, c, g', hs⟩ := hc k hlt
      obtain ⟨b1, off1, rfl, hb1, hc1⟩ := H1.out.at hlt
      have g : wr.cell? ⟨b, off + k, none⟩ = some (.slice a m c) := (HB.out.cell (p := ⟨b, off + k, none⟩) hb).trans g'
      have g1 : wr.cell? ⟨b1, off1 + k, none⟩ = some (.int .i64 (cs.getD k 0)) := (HB.out.cell (p := ⟨b1, off1 + k, none⟩) hb1).trans (hc1 k hlt)
      obtain ⟨mm, emm⟩ : ∃ mm, mm = zss.getD k [] := ⟨_, rfl⟩
      rw [← emm] at hs
      have HS : Hid (IRow w a m mm) := hs
      have hm : m ≤ 1048576 := by
        rw [← hs.1, emm]
        refine HI.out _ ?_
        have : k < zss.length := by rw [H0.out.1]; exact hlt
        simp [List.getD, this]
      have HE : Hid (mm = zss.getD k []) := emm
      obtain ⟨cc, ecc⟩ : ∃ cc, cc = cs.getD k 0 := ⟨_, rfl⟩
      rw [← ecc] at g1
      have HEC : Hid (cc = cs.getD k 0) := ecc
      clear hc hc1 hs emm ecc g'
      by_cases y1 : 1 ≤ cc
      case neg => go_wp2_with fail; go_ret; exact HF.out _ HB.out
      by_cases y2 : cc ≤ (m : Int)
      case neg => go_wp2_with fail; go_ret; exact HF.out _ HB.out
      go_wp2_with fail
      have HB0 : Hid (Below w.heap.size w wr) := HB.out
      obtain ⟨wq, ewq⟩ : ∃ wq, wq = wr := ⟨_, rfl⟩
      rw [← ewq] at HB HM HB0
      clear g g1
      rw [← ewq]
      clear ewq
      go_loopw [44] (fun i wi => ∃ (t : Nat) (mk : List Int), t ≤ m ∧ i = .int .i64 t ∧ MarkRel n k t mm mk ∧ Blk wi w.heap.size 3 (mk.map (Value.int .i64)) ∧ Below w.heap.size w wi) (fun i _ => m - (intOf i).toNat)
      case atStart => exact ⟨0, mk, Nat.zero_le _, rfl, ⟨HML.out, (by simp), (by simp)⟩, HM.out, HB.out⟩
      case round =>
        clear HM HML mk HB HB0
        obtain ⟨t, mk, ht, rfl, hrel, hblk, hbel⟩ := hrel
        have HR : Hid (MarkRel n k t mm mk) := hrel
        have HM : Hid (Blk wr w.heap.size 3 (mk.map (Value.int .i64))) := hblk
        have HB : Hid (Below w.heap.size w wr) := hbel
        clear hrel hblk hbel
        by_cases htl : t < m
        · obtain ⟨b2, off2, rfl, hb2, hc2⟩ := HS.out.at htl
          have g2 : wr.cell? ⟨b2, off2 + t, none⟩ = some (.int .i64 (mm.getD t 0)) := (HB.out.cell (p := ⟨b2, off2 + t, none⟩) hb2).trans (hc2 t htl)
          obtain ⟨p, ep⟩ : ∃ p, p = mm.getD t 0 := ⟨_, rfl⟩
          rw [← ep] at g2
          have HEP : Hid (p = mm.getD t 0) := ep
          clear ep hc2
          by_cases y3 : 0 ≤ p
          case neg => go_wp2_with fail; go_ret; exact HF.out _ HB.out
          by_cases y4 : p < (n : Int)
          case neg => go_wp2_with fail; go_ret; exact HF.out _ HB.out
          obtain ⟨pn, rfl⟩ := Int.eq_ofNat_of_zero_le y3
          have y5 : pn < n := by omega
          have g3 : wr.cell? ⟨w.heap.size, pn, none⟩ = some (.int .i64 (mk.getD pn 0)) := by
            rw [HM.out.cell pn]
            exact ints_at (by rw [HR.out.1]; exact y5)
          have hfz : wr.frozen? ⟨w.heap.size, pn, none⟩ = false := HM.out.frozen pn
          obtain ⟨x, ex⟩ : ∃ x, x = mk.getD pn 0 := ⟨_, rfl⟩
          rw [← ex] at g3
          have HEX : Hid (x = mk.getD pn 0) := ex
          clear ex
          cases hx : (x == (k : Int) + 1) with
          | true => go_wp2_with fail; go_ret; exact HF.out _ HB.out
          | false =>
            have HR2 : Hid (MarkRel n k (t + 1) mm (mk.set pn ((k : Int) + 1))) := HR.out.step (by rw [HS.out.1]; exact htl) HEP.out.symm y5 (by rw [← HEX.out]; simpa using hx)
            have HM2 : Hid (Blk (wr.setCell ⟨w.heap.size, pn, none⟩ (.int .i64 ((k : Int) + 1))) w.heap.size 3 ((mk.set pn ((k : Int) + 1)).map (Value.int .i64))) := by
              have := HM.out.store pn (.int .i64 ((k : Int) + 1))
              rw [← List.map_set] at this
              exact this
            have HB2 : Hid (Below w.heap.size w (wr.setCell ⟨w.heap.size, pn, none⟩ (.int .i64 ((k : Int) + 1)))) := HB.out.setCell (Nat.le_refl _) _
            go_wp2_with fail
            go_roundw
            case rel => exact ⟨t + 1, _, by omega, by go_num, HR2.out, HM2.out, HB2.out⟩
            case measure => simp [intOf]; omega
        · have htm : t = m := by omega
          subst htm
          have HG2 : Hid (GoodTo n (k + 1) zss cs) := by
            intro j hj
            by_cases e : j = k
            · subst e
              rw [← HE.out, ← HEC.out]
              have hl := HS.out.1
              have hr := HR.out
              rw [← hl] at hr
              exact hr.good y1 (by rw [hl]; exact y2)
            · exact HG.out j (by omega)
          go_wp2_with fail
          go_roundw
          case rel => exact ⟨k + 1, mk, by omega, by go_num, HR.out.1, HM.out, HB.out, HG2.out⟩
          case measure => simp [intOf]; omega
    · have hkn : k = n0 := by omega
      subst hkn
      have HP : Hid (WellPost n zss cs w (.returned (.bool true)) wr) := ⟨true, rfl, HB.out, fun _ => ⟨by rw [H0.out.1, H1.out.1], by rw [H0.out.1]; exact HG.out⟩⟩
      go_wp2_with fail
      go_ret
      exact HP.out

end Go.Proofs.Qxb6001441a
