/-
  Contracts: gcMarks (24), gcHeld (25), gcShape (23).
-/
import Derived.Test.Qxb6001441aClone
namespace Go.Proofs.Qxb6001441a
open Go.RowKit
set_option linter.unusedVariables false

/-- Natural numbers as Go's ints. -/
def ofN (l : List Nat) : List Int := l.map fun (k : Nat) => (k : Int)

theorem ofN_length (l : List Nat) : (ofN l).length = l.length := by simp [ofN]
theorem ofN_at (l : List Nat) (k : Nat) (h : k < l.length) : (ofN l).getD k 0 = (l.getD k 0 : Int) := by simp [ofN, List.getD, h]
theorem ofN_append (a b : List Nat) : ofN (a ++ b) = ofN a ++ ofN b := by simp [ofN]
theorem ofN_take (a : List Nat) (k : Nat) : ofN (a.take k) = (ofN a).take k := by simp [ofN, List.map_take]

theorem take_snocN (l : List Nat) (k : Nat) (h : k < l.length) : l.take (k + 1) = l.take k ++ [l.getD k 0] := by
  rw [List.take_succ_eq_append_getElem h]
  simp [List.getD, h]

theorem getD_memN (l : List Nat) (k : Nat) (h : k < l.length) : l.getD k 0 ∈ l := by simp [List.getD, h]

theorem getD_setB (c : List Bool) (a i : Nat) (v : Bool) (h : i < c.length) : (c.set a v).getD i false = if a = i then v else c.getD i false := by
  by_cases e : a = i
  · subst e; simp [List.getD, h]
  · simp only [List.getD, List.getElem?_set_ne e, if_neg e]

/-- The marks say who is among l. -/
def Marks (n : Nat) (l : List Nat) (bs : List Bool) : Prop := bs.length = n ∧ ∀ p, p < n → bs.getD p false = decide (p ∈ l)

theorem Marks.start (n : Nat) : Marks n [] (List.replicate n false) := by
  refine ⟨by simp, fun p hp => ?_⟩
  simp [List.getD, hp]

theorem Marks.step {n : Nat} {l : List Nat} {bs : List Bool} (h : Marks n l bs) (p : Nat) (hp : p < n) : Marks n (l ++ [p]) (bs.set p true) := by
  refine ⟨by rw [List.length_set]; exact h.1, fun q hq => ?_⟩
  rw [getD_setB bs p q true (by rw [h.1]; exact hq)]
  by_cases e : p = q
  · subst e; simp
  · rw [if_neg e, h.2 q hq]
    have e' : ¬ q = p := fun x => e x.symm
    simp [e']

/-- The answer of gcMarks. -/
def MarksPost (n : Nat) (l : List Nat) (w : World) (e : Ending) (w' : World) : Prop :=
  ∃ g bs, e = .returned (.slice (some ⟨g, 0, none⟩) n n) ∧ Blk w' g 4 (bs.map Value.bool) ∧ Marks n l bs ∧ w.heap.size ≤ g ∧ Below w.heap.size w w'

set_option maxHeartbeats 400000 in
theorem marks24 (ao : Option Addr) (k c n : Nat) (l : List Nat) (w : World) (hn : n ≤ 4096) (hk : k ≤ 4096) (hl : ∀ p ∈ l, p < n) (hr : IRow w ao k (ofN l)) :
    Calls Try.prog 24 #[.slice ao k c, .int .i64 n] w (MarksPost n l w) := by
  have HR : Hid (IRow w ao k (ofN l)) := hr
  have HL : Hid (l.length = k) := by have := hr.1; rw [ofN_length] at this; exact this
  have HN : Hid (∀ p ∈ l, p < n) := hl
  clear hr hl
  obtain ⟨i0, hi, hz0, hz1, hz2⟩ := info_parts Try.info4
  go_enter Try.func24, Try.ntmps24
  go_wp2_with (at_make; refine wpList_make_full _ rfl _ _ 45 rfl w.heap.size 4 i0 (.bool false) 1 Try.underlying45 hi hz0 hz1 _ _ _ _ n rfl rfl rfl rfl ?b2 ?b3 (Nat.le_refl _) ?_)
  case b2 => rw [hz2]; omega
  case b3 => unfold maxLen; omega
  intro w0 hown0 hgrow0
  go_wp2_with fail
  go_loopw [12] (fun i wr => ∃ (t : Nat) (bs : List Bool), t ≤ k ∧ i = .int .i64 t ∧ Marks n (l.take t) bs ∧ Blk wr w.heap.size 4 (bs.map Value.bool) ∧ Below w.heap.size w wr) (fun i _ => k - (intOf i).toNat)
  case atStart =>
    refine ⟨0, List.replicate n false, Nat.zero_le _, rfl, Marks.start n, ?_, (Below.refl _ _).grown hgrow0 (Nat.le_refl _) (fun k h => by cases h)⟩
    have e : (madeCells #[Value.bool false] n).toList = (List.replicate n false).map Value.bool := by
      rw [toList_madeCells_one]
      simp
    rw [← e]
    exact Blk.ofOwns hown0
  case round =>
    obtain ⟨t, bs, ht, rfl, hm, hblk, hbel⟩ := hrel
    have HM : Hid (Marks n (l.take t) bs) := hm
    have HK : Hid (Blk wr w.heap.size 4 (bs.map Value.bool)) := hblk
    have HB : Hid (Below w.heap.size w wr) := hbel
    clear hm hblk hbel
    by_cases hlt : t < k
    · obtain ⟨b, off, rfl, hb, hc⟩ := HR.out.at hlt
      have htl : t < l.length := by rw [HL.out]; exact hlt
      have g0 := hc t hlt
      rw [ofN_at l t htl] at g0
      have g : wr.cell? ⟨b, off + t, none⟩ = some (.int .i64 (l.getD t 0 : Nat)) := (HB.out.cell (p := ⟨b, off + t, none⟩) hb).trans g0
      have HE := take_snocN l t htl
      have hp : l.getD t 0 < n := HN.out _ (getD_memN l t htl)
      have HE2 : Hid (l.take (t + 1) = l.take t ++ [l.getD t 0]) := HE
      clear hc HE htl g0
      generalize l.getD t 0 = p at *
      have hfz : wr.frozen? ⟨w.heap.size, p, none⟩ = false := HK.out.frozen p
      have hcell : wr.cell? ⟨w.heap.size, p, none⟩ = some (.bool (bs.getD p false)) := by
        rw [HK.out.cell p]
        exact bools_at (by rw [HM.out.1]; exact hp)
      have HM2 : Hid (Marks n (l.take (t + 1)) (bs.set p true)) := by
        show Marks _ _ _
        rw [HE2.out]
        exact HM.out.step p hp
      have HK2 : Hid (Blk (wr.setCell ⟨w.heap.size, p, none⟩ (.bool true)) w.heap.size 4 ((bs.set p true).map Value.bool)) := by
        have := HK.out.store p (.bool true)
        rw [← List.map_set] at this
        exact this
      have HB2 : Hid (Below w.heap.size w (wr.setCell ⟨w.heap.size, p, none⟩ (.bool true))) := HB.out.setCell (Nat.le_refl _) _
      go_wp2_with fail
      go_roundw
      case rel => exact ⟨t + 1, _, by omega, by go_num, HM2.out, HK2.out, HB2.out⟩
      case measure => simp [intOf]; omega
    · have e : l.take t = l := List.take_of_length_le (by rw [HL.out]; omega)
      have HM2 : Hid (Marks n l bs) := by have := HM.out; rw [e] at this; exact this
      clear e
      go_wp2_with fail
      go_ret
      exact ⟨_, bs, rfl, HK.out, HM2.out, Nat.le_refl _, HB.out⟩

theorem countP_take (p : Nat → Bool) (l : List Nat) (t : Nat) (h : t < l.length) : (l.take (t + 1)).countP p = (l.take t).countP p + (if p (l.getD t 0) = true then 1 else 0) := by
  rw [take_snocN l t h, List.countP_append]
  simp only [List.countP_cons, List.countP_nil, Nat.zero_add]

set_option maxHeartbeats 400000 in
theorem held25 (ao : Option Addr) (k c n g : Nat) (m l : List Nat) (bs : List Bool) (w : World) (hk : k ≤ 1048576) (hn : n ≤ 4096) (hm : ∀ p ∈ m, p < n) (hr : IRow w ao k (ofN m)) (hb : Blk w g 4 (bs.map Value.bool)) (hM : Marks n l bs) :
    Calls Try.prog 25 #[.slice ao k c, .slice (some ⟨g, 0, none⟩) n n] w fun e w' => e = .returned (.int .i64 ((m.countP fun p => decide (p ∈ l)) : Nat)) ∧ w' = w := by
  have HR : Hid (IRow w ao k (ofN m)) := hr
  have HL : Hid (m.length = k) := by have := hr.1; rw [ofN_length] at this; exact this
  have HN : Hid (∀ p ∈ m, p < n) := hm
  have HK : Hid (Blk w g 4 (bs.map Value.bool)) := hb
  have HM : Hid (Marks n l bs) := hM
  clear hr hm hb hM
  go_enter Try.func25, Try.ntmps25
  go_wp2_with fail
  go_loop [5, 10] (fun s i => ∃ (t z : Nat), t ≤ k ∧ i = .int .i64 t ∧ s = .int .i64 z ∧ z ≤ t ∧ Hid (z = (m.take t).countP fun p => decide (p ∈ l))) (fun _ i => k - (intOf i).toNat)
  case atStart => exact ⟨0, 0, Nat.zero_le _, rfl, rfl, Nat.le_refl _, rfl⟩
  case round =>
    obtain ⟨t, z, ht, rfl, rfl, hz, HZ⟩ := hrel
    by_cases hlt : t < k
    · obtain ⟨b, off, rfl, hb, hc⟩ := HR.out.at hlt
      have htl : t < m.length := by rw [HL.out]; exact hlt
      have g0 := hc t hlt
      rw [ofN_at m t htl] at g0
      have hp : m.getD t 0 < n := HN.out _ (getD_memN m t htl)
      have hct := countP_take (fun p => decide (p ∈ l)) m t htl
      have HCT : Hid ((m.take (t + 1)).countP (fun p => decide (p ∈ l)) = (m.take t).countP (fun p => decide (p ∈ l)) + (if decide (m.getD t 0 ∈ l) = true then 1 else 0)) := hct
      clear hc htl hct
      generalize m.getD t 0 = p at *
      have hcell : w.cell? ⟨g, p, none⟩ = some (.bool (bs.getD p false)) := by
        rw [HK.out.cell p]
        exact bools_at (by rw [HM.out.1]; exact hp)
      rw [HM.out.2 p hp] at hcell
      cases hd : decide (p ∈ l) with
      | true =>
        rw [hd] at hcell
        have HC2 : Hid (z + 1 = (m.take (t + 1)).countP fun p => decide (p ∈ l)) := by show _ = _; rw [HCT.out, hd, ← HZ.out]; rfl
        clear hd
        go_wp2_with fail
        go_round
        case rel => exact ⟨t + 1, z + 1, by omega, by go_num, by go_num, by omega, HC2.out⟩
        case measure => simp [intOf]; omega
      | false =>
        rw [hd] at hcell
        have HC2 : Hid (z = (m.take (t + 1)).countP fun p => decide (p ∈ l)) := by show _ = _; rw [HCT.out, hd, ← HZ.out]; rfl
        clear hd
        go_wp2_with fail
        go_round
        case rel => exact ⟨t + 1, z, by omega, by go_num, rfl, by omega, HC2.out⟩
        case measure => simp [intOf]; omega
    · have e : m.take t = m := List.take_of_length_le (by rw [HL.out]; omega)
      have HZ2 : Hid (z = m.countP fun p => decide (p ∈ l)) := by have := HZ.out; rw [e] at this; exact this
      clear e
      go_wp2_with fail
      go_ret
      exact ⟨ret_int (by rw [← HZ2.out]), rfl⟩

set_option maxHeartbeats 1000000 in
theorem shape23 (ao : Option Addr) (k c n : Nat) (l : List Nat) (w : World) (hk : k ≤ 4096) (hn : n ≤ 4096) (hl : ∀ p ∈ l, p < n) (hs : l.Pairwise (· < ·)) (hr : IRow w ao k (ofN l)) :
    Calls Try.prog 23 #[.slice ao k c, .int .i64 n] w fun e w' => e = .returned (.bool true) ∧ ∃ q, w' = w.drewN q := by
  have HR : Hid (IRow w ao k (ofN l)) := hr
  have HL : Hid (l.length = k) := by have := hr.1; rw [ofN_length] at this; exact this
  have HN : Hid (∀ p ∈ l, p < n) := hl
  have HS : Hid (l.Pairwise (· < ·)) := hs
  clear hr hl hs
  go_enter Try.func23, Try.ntmps23
  go_wp2_with fail
  go_loopw [8] (fun i wr => ∃ (t : Nat), t ≤ k ∧ i = .int .i64 t ∧ ∃ q, wr = w.drewN q) (fun i _ => k - (intOf i).toNat)
  case atStart => exact ⟨0, Nat.zero_le _, rfl, 0, rfl⟩
  case round =>
    obtain ⟨t, ht, rfl, q, rfl⟩ := hrel
    by_cases hlt : t < k
    · obtain ⟨b, off, rfl, hb, hc⟩ := HR.out.at hlt
      have htl : t < l.length := by rw [HL.out]; exact hlt
      have g0 := hc t hlt
      rw [ofN_at l t htl] at g0
      have hp : l.getD t 0 < n := HN.out _ (getD_memN l t htl)
      have hki : (t : Int) < (k : Int) := by omega
      by_cases h0 : 0 < t
      · have g1 := hc (t - 1) (by omega)
        rw [ofN_at l (t - 1) (by omega)] at g1
        have hlt2 : l.getD (t - 1) 0 < l.getD t 0 := by
          have h1 := List.pairwise_iff_getElem.1 HS.out (t - 1) t (by omega) htl (by omega)
          simpa only [List.getD, List.getElem?_eq_getElem htl, List.getElem?_eq_getElem (show t - 1 < l.length by omega), Option.getD_some] using h1
        clear hc htl
        generalize l.getD t 0 = p at *
        generalize l.getD (t - 1) 0 = p' at *
        have hti : (0 : Int) < (t : Int) := by omega
        have hki' : (t : Int) - 1 < (k : Int) := by omega
        have hpp : (p' : Int) < (p : Int) := by omega
        have hdd : decide ((p : Int) ≤ (p' : Int)) = false := decide_eq_false (by omega)
        go_wp2_with fail
        go_quiet (fail)
        go_wp2_with fail
        go_roundw
        case rel => exact ⟨t + 1, by omega, by go_num, _, rfl⟩
        case measure => simp [intOf]; omega
      · have hd : decide (0 < t) = false := decide_eq_false h0
        clear hc htl h0
        generalize l.getD t 0 = p at *
        go_wp2_with fail
        go_quiet (fail)
        go_wp2_with fail
        go_roundw
        case rel => exact ⟨t + 1, by omega, by go_num, _, rfl⟩
        case measure => simp [intOf]; omega
    · go_wp2_with fail
      go_ret
      exact ⟨rfl, q, rfl⟩

end Go.Proofs.Qxb6001441a
