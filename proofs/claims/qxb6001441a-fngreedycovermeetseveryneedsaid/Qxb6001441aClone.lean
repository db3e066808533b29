/-
  Contracts: zzCloneI (16), zzCloneII (21), gcMarks (24), gcHeld (25), gcShape (23).
-/
import Derived.Test.Qxb6001441aLeaf
namespace Go.Proofs.Qxb6001441a
open Go.RowKit
set_option linter.unusedVariables false

theorem Try.info3 : (Try.prog.info? 3).map (fun i => (i.zero, i.size, i.bytes)) = some (some (.int .i64 0), 1, 8) := by kernel_rfl
theorem Try.info4 : (Try.prog.info? 4).map (fun i => (i.zero, i.size, i.bytes)) = some (some (.bool false), 1, 1) := by kernel_rfl
theorem Try.info33 : (Try.prog.info? 33).map (fun i => (i.zero, i.size, i.bytes)) = some (some (.slice none 0 0), 1, 24) := by kernel_rfl

def copied (zs : List Int) (k : Nat) : List Int := (zs.take k) ++ List.replicate (zs.length - k) 0

theorem copied_step (zs : List Int) (k : Nat) (h : k < zs.length) :
    ((copied zs k).map (Value.int .i64)).set k (.int .i64 (zs.getD k 0)) = (copied zs (k + 1)).map (Value.int .i64) := by
  have e : (copied zs k).set k (zs.getD k 0) = copied zs (k + 1) := by
    unfold copied
    have hk : (zs.take k).length = k := by simp; omega
    rw [List.set_append_right _ _ (by omega), hk, Nat.sub_self]
    rw [show zs.length - k = (zs.length - (k + 1)) + 1 from by omega, List.replicate_succ, List.set_cons_zero]
    rw [List.take_succ_eq_append_getElem h]
    simp only [List.getD, List.getElem?_eq_getElem h, Option.getD_some, List.append_assoc, List.singleton_append]
  rw [← e, List.map_set]

/-- The answer of a clone: a row of its own. -/
def ClonePost (n : Nat) (zs : List Int) (w : World) (e : Ending) (w' : World) : Prop :=
  ∃ ao cap, e = .returned (.slice ao n cap) ∧ IRow w' ao n zs ∧ (∀ b off, ao = some ⟨b, off, none⟩ → w.heap.size ≤ b) ∧ Below w.heap.size w w'

set_option maxHeartbeats 400000 in
theorem cloneI (ao : Option Addr) (n c : Nat) (zs : List Int) (w : World) (hn : n ≤ 1048576) (hr : IRow w ao n zs) :
    Calls Try.prog 16 #[.slice ao n c] w (ClonePost n zs w) := by
  have hq : ∀ (w : World) (a : Option Addr) (n c n' c' : Nat), (binOp .eql 33 (.slice a n c) (.slice none n' c')).run Try.prog w = .ok (.bool a.isNone) w := fun w a n c n' c' => Lib.run_eql_slice_nil w _ _ a n c n' c' Try.underlying33
  have HR : Hid (IRow w ao n zs) := hr
  have HL : Hid (zs.length = n) := hr.1
  have hnone := hr.2.2.1
  clear hr
  obtain ⟨i0, hi, hz0, hz1, hz2⟩ := info_parts Try.info3
  cases ao with
  | none =>
    have hn0 := hnone rfl
    subst hn0
    have hz : zs = [] := List.length_eq_zero_iff.1 HL.out
    subst hz
    have HP : Hid (ClonePost 0 [] w (.returned (.slice none 0 0)) w) := ⟨none, 0, rfl, ⟨rfl, by omega, fun _ => rfl, .inl rfl⟩, (fun b off h => by cases h), Below.refl _ _⟩
    clear hnone HL
    go_enter Try.func16, Try.ntmps16
    go_wp2_with fail
    go_ret
    exact HP.out
  | some a =>
    clear hnone
    go_enter Try.func16, Try.ntmps16
    go_wp2_with (at_make; refine wpList_make_full _ rfl _ _ 33 rfl w.heap.size 3 i0 (.int .i64 0) 1 Try.underlying33 hi hz0 hz1 _ _ _ _ n rfl rfl rfl rfl ?b2 ?b3 (Nat.le_refl _) ?_)
    case b2 => rw [hz2]; omega
    case b3 => unfold maxLen; omega
    intro w0 hown0 hgrow0
    go_wp2_with fail
    go_loopw [12] (fun i wr => ∃ k : Nat, k ≤ n ∧ i = .int .i64 k ∧ Blk wr w.heap.size 3 ((copied zs k).map (Value.int .i64)) ∧ Below w.heap.size w wr)
      (fun i _ => n - (intOf i).toNat)
    case atStart =>
      refine ⟨0, Nat.zero_le _, rfl, ?_, (Below.refl _ _).grown hgrow0 (Nat.le_refl _) (fun k h => by cases h)⟩
      have e : (madeCells #[Value.int .i64 0] n).toList = (copied zs 0).map (Value.int .i64) := by
        rw [toList_madeCells_one]
        simp [copied, HL.out]
      rw [← e]
      exact Blk.ofOwns hown0
    case round =>
      obtain ⟨k, hk, rfl, hblk, hnx⟩ := hrel
      by_cases hlt : k < n
      · obtain ⟨b, off, eb, hb, hc⟩ := HR.out.at hlt
        cases eb
        have hcx : wr.cell? ⟨b, off + k, none⟩ = some (.int .i64 (zs.getD k 0)) := (hnx.cell (p := ⟨b, off + k, none⟩) hb).trans (hc k hlt)
        have hcell : wr.cell? ⟨w.heap.size, k, none⟩ = some (.int .i64 ((copied zs k).getD k 0)) := by
          rw [hblk.cell k]
          exact ints_at (by have := HL.out; simp [copied]; omega)
        have hfz : wr.frozen? ⟨w.heap.size, k, none⟩ = false := hblk.frozen k
        have hst := hblk.store k (.int .i64 (zs.getD k 0))
        rw [copied_step zs k (by have := HL.out; omega)] at hst
        have HS : Hid (Blk (wr.setCell ⟨w.heap.size, k, none⟩ (.int .i64 (zs.getD k 0))) w.heap.size 3 ((copied zs (k + 1)).map (Value.int .i64))) := hst
        have HB : Hid (Below w.heap.size w (wr.setCell ⟨w.heap.size, k, none⟩ (.int .i64 (zs.getD k 0)))) := hnx.setCell (Nat.le_refl _) _
        clear hst hc hblk hnx
        go_wp2_with fail
        go_roundw
        case rel => exact ⟨k + 1, by omega, by go_num, HS.out, HB.out⟩
        case measure => simp [intOf]; omega
      · have hkn : k = n := by omega
        subst hkn
        have e : copied zs k = zs := by
          have := HL.out
          simp [copied, ← this]
        rw [e] at hblk
        have HP : Hid (ClonePost k zs w (.returned (.slice (some ⟨w.heap.size, 0, none⟩) k k)) wr) := ⟨_, _, rfl, IRow.ofBlk hblk HL.out (by omega), (fun b off h => by cases h; exact Nat.le_refl _), hnx⟩
        clear hblk hnx e
        go_wp2_with fail
        go_ret
        exact HP.out

/-! ### zzCloneII -/
/-- A store into block g leaves rows in later blocks as they are. -/
theorem IRow.stored {w : World} {a : Option Addr} {m g k : Nat} {zs : List Int} (h : IRow w a m zs) (hg : ∀ b off, a = some ⟨b, off, none⟩ → b ≠ g) (u : Value) : IRow (w.setCell ⟨g, k, none⟩ u) a m zs := by
  obtain ⟨h1, h2, h3, h4⟩ := h
  refine ⟨h1, h2, h3, ?_⟩
  rcases h4 with h4 | ⟨b, off, e, hl, hc⟩
  · exact .inl h4
  · refine .inr ⟨b, off, e, by simpa [World.setCell] using hl, fun j hj => ?_⟩
    rw [← hc j hj]
    exact World.cell?_of_block (Below.heap_setCell _ _ _ _ (hg b off e))

/-- A row of slices known whole, each of which can be read, its rows apart from the row's own block. -/
def Inner (w : World) (g : Nat) (v : Value) (zs : List Int) : Prop := ∃ a m c, v = .slice a m c ∧ IRow w a m zs ∧ ∀ b off, a = some ⟨b, off, none⟩ → b ≠ g

theorem Inner.below {w w' : World} {B g : Nat} {v : Value} {zs : List Int} (h : Inner w g v zs) (hb : Below B w w') (hB : w.heap.size ≤ B) : Inner w' g v zs := by
  obtain ⟨a, m, c, e, hs, hg⟩ := h
  exact ⟨a, m, c, e, hs.below hb hB, hg⟩

theorem Inner.stored {w : World} {g k : Nat} {v : Value} {zs : List Int} (h : Inner w g v zs) (u : Value) : Inner (w.setCell ⟨g, k, none⟩ u) g v zs := by
  obtain ⟨a, m, c, e, hs, hg⟩ := h
  exact ⟨a, m, c, e, hs.stored hg u, hg⟩

def NestRel (w : World) (n k : Nat) (zss : List (List Int)) (wr : World) : Prop :=
  ∃ vs : List Value, vs.length = n ∧ Blk wr w.heap.size 33 vs ∧ (∀ j, j < k → ∃ v, vs[j]? = some v ∧ Inner wr w.heap.size v (zss.getD j [])) ∧ Below w.heap.size w wr

theorem NestRel.step {w wr w1 : World} {n k m c : Nat} {zss : List (List Int)} {a : Option Addr} (h : NestRel w n k zss wr) (hlt : k < n) (hb : Below wr.heap.size wr w1) (hs : IRow w1 a m (zss.getD k []))
    (hg : ∀ b off, a = some ⟨b, off, none⟩ → wr.heap.size ≤ b) : NestRel w n (k + 1) zss (w1.setCell ⟨w.heap.size, k, none⟩ (.slice a m c)) := by
  obtain ⟨vs, hl, hblk, hin, hbel⟩ := h
  have hlt1 := hblk.lt
  have hg' : ∀ b off, a = some ⟨b, off, none⟩ → b ≠ w.heap.size := fun b off e q => by have := hg b off e; omega
  have hblk1 : Blk w1 w.heap.size 33 vs := hblk.below hb hlt1
  refine ⟨_, by rw [List.length_set]; exact hl, hblk1.store k (.slice a m c), fun j hj => ?_, ?_⟩
  · by_cases e : j = k
    · subst e
      exact ⟨.slice a m c, by simp [hl, hlt], a, m, c, rfl, hs.stored hg' _, hg'⟩
    · obtain ⟨v, q1, q2⟩ := hin j (by omega)
      exact ⟨v, by rw [List.getElem?_set_ne (by omega)]; exact q1, (q2.below hb (Nat.le_refl _)).stored _⟩
  · exact (hbel.trans (hb.mono hbel.size)).setCell (Nat.le_refl _) _

theorem NestRel.done {w wr : World} {n : Nat} {zss : List (List Int)} (h : NestRel w n n zss wr) (hl : zss.length = n) (hn : (n : Int) ≤ 9223372036854775807) : MRow wr (some ⟨w.heap.size, 0, none⟩) n zss := by
  obtain ⟨vs, hvl, hblk, hin, hbel⟩ := h
  refine ⟨hl, hn, (fun h => by cases h), .inr ⟨w.heap.size, 0, rfl, hblk.lt, fun k hk => ?_⟩⟩
  obtain ⟨v, q1, a, m, c, rfl, hs, _⟩ := hin k hk
  exact ⟨a, m, c, by rw [Nat.zero_add, hblk.cell k]; exact q1, hs⟩

def NestPost (n : Nat) (zss : List (List Int)) (w : World) (e : Ending) (w' : World) : Prop :=
  ∃ ao cap, e = .returned (.slice ao n cap) ∧ MRow w' ao n zss ∧ Below w.heap.size w w'

set_option maxHeartbeats 400000 in
theorem cloneII (ao : Option Addr) (n c : Nat) (zss : List (List Int)) (w : World) (hn : n ≤ 1048576) (hin : ∀ s ∈ zss, s.length ≤ 1048576) (hr : MRow w ao n zss) :
    Calls Try.prog 21 #[.slice ao n c] w (NestPost n zss w) := by
  have hq : ∀ (w : World) (a : Option Addr) (n c n' c' : Nat), (binOp .eql 39 (.slice a n c) (.slice none n' c')).run Try.prog w = .ok (.bool a.isNone) w := fun w a n c n' c' => Lib.run_eql_slice_nil w _ _ a n c n' c' Try.underlying39
  have HR : Hid (MRow w ao n zss) := hr
  have HL : Hid (zss.length = n) := hr.1
  have HI : Hid (∀ s ∈ zss, s.length ≤ 1048576) := hin
  have hnone := hr.2.2.1
  clear hr hin
  obtain ⟨i0, hi, hz0, hz1, hz2⟩ := info_parts Try.info33
  cases ao with
  | none =>
    have hn0 := hnone rfl
    subst hn0
    have hz : zss = [] := List.length_eq_zero_iff.1 HL.out
    subst hz
    have HP : Hid (NestPost 0 [] w (.returned (.slice none 0 0)) w) := ⟨none, 0, rfl, ⟨rfl, by omega, fun _ => rfl, .inl rfl⟩, Below.refl _ _⟩
    clear hnone HL
    go_enter Try.func21, Try.ntmps21
    go_wp2_with fail
    go_ret
    exact HP.out
  | some a =>
    clear hnone
    go_enter Try.func21, Try.ntmps21
    go_wp2_with (at_make; refine wpList_make_full _ rfl _ _ 39 rfl w.heap.size 33 i0 (.slice none 0 0) 1 Try.underlying39 hi hz0 hz1 _ _ _ _ n rfl rfl rfl rfl ?b2 ?b3 (Nat.le_refl _) ?_)
    case b2 => rw [hz2]; omega
    case b3 => unfold maxLen; omega
    intro w0 hown0 hgrow0
    go_wp2_with fail
    go_loopw [12] (fun i wr => ∃ k : Nat, k ≤ n ∧ i = .int .i64 k ∧ NestRel w n k zss wr) (fun i _ => n - (intOf i).toNat)
    case atStart =>
      exact ⟨0, Nat.zero_le _, rfl, _, by simpa using hown0.1, Blk.ofOwns hown0, (fun j h => by omega), (Below.refl _ _).grown hgrow0 (Nat.le_refl _) (fun k h => by cases h)⟩
    case round =>
      obtain ⟨k, hk, rfl, hrel⟩ := hrel
      have HN : Hid (NestRel w n k zss wr) := hrel
      clear hrel
      by_cases hlt : k < n
      · obtain ⟨b, off, eb, hb, hc⟩ := HR.out.at hlt
        cases eb
        obtain ⟨vs, hvl, hblk, hin, hbel⟩ := HN.out
        obtain ⟨a', m, c', g, hs⟩ := hc k hlt
        have hcx : wr.cell? ⟨b, off + k, none⟩ = some (.slice a' m c') := (hbel.cell (p := ⟨b, off + k, none⟩) hb).trans g
        have HS : Hid (IRow wr a' m (zss.getD k [])) := hs.below hbel (Nat.le_refl _)
        have hm : m ≤ 1048576 := by
          rw [← hs.1]
          refine HI.out _ ?_
          have : k < zss.length := by rw [HL.out]; exact hlt
          simp [List.getD, this]
        have hfz : wr.frozen? ⟨w.heap.size, k, none⟩ = false := hblk.frozen k
        have hcell : ∃ v0, wr.cell? ⟨w.heap.size, k, none⟩ = some v0 := by
          rw [hblk.cell k]
          exact ⟨vs[k], by simp [hvl, hlt]⟩
        obtain ⟨v0, hcell⟩ := hcell
        have hlt1 : w.heap.size < wr.heap.size := hblk.lt
        clear hc g hs hblk hin hbel hvl
        go_wp2_with fail
        refine (cloneI a' m c' _ _ hm HS.out).mono ?_
        rintro e w1 ⟨a2, c2, rfl, hs2, hg2, hb2⟩
        have hfz1 : w1.frozen? ⟨w.heap.size, k, none⟩ = false := (hb2.frozen (p := ⟨w.heap.size, k, none⟩) hlt1).trans hfz
        have hcell1 : w1.cell? ⟨w.heap.size, k, none⟩ = some v0 := (hb2.cell (p := ⟨w.heap.size, k, none⟩) hlt1).trans hcell
        have HN2 : Hid (NestRel w n (k + 1) zss (w1.setCell ⟨w.heap.size, k, none⟩ (.slice a2 m c2))) := HN.out.step hlt hb2 hs2 hg2
        clear hs2 hg2 hb2 hfz hcell hcx
        go_wp2_with fail
        go_roundw
        case rel => exact ⟨k + 1, by omega, by go_num, HN2.out⟩
        case measure => simp [intOf]; omega
      · have hkn : k = n := by omega
        subst hkn
        go_wp2_with fail
        go_ret
        exact ⟨_, _, rfl, HN.out.done HL.out (by omega), HN.out.choose_spec.2.2.2⟩

end Go.Proofs.Qxb6001441a
