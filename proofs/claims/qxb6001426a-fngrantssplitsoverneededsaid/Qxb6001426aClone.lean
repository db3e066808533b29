/-
  Contracts: zzCloneStrs (11), zzCloneNest (20).
-/
import Derived.Test.Qxb6001426aLeaf
namespace Go.Proofs.Qxb6001426a
open Go.RowKit
set_option linter.unusedVariables false

theorem Try.info9 : (Try.prog.info? 9).map (fun i => (i.zero, i.size, i.bytes)) = some (some (.string ByteArray.empty), 1, 16) := by kernel_rfl
theorem Try.info22 : (Try.prog.info? 22).map (fun i => (i.zero, i.size, i.bytes)) = some (some (.slice none 0 0), 1, 24) := by kernel_rfl

theorem strs_at {ss : Pl.Strs} {k : Nat} (h : k < ss.length) : (ss.map Value.string)[k]? = some (.string (ss.getD k ByteArray.empty)) := by
  simp [List.getD, h]

def copied (ss : Pl.Strs) (k : Nat) : Pl.Strs := (ss.take k) ++ List.replicate (ss.length - k) ByteArray.empty

theorem copied_step (ss : Pl.Strs) (k : Nat) (h : k < ss.length) :
    ((copied ss k).map Value.string).set k (.string (ss.getD k ByteArray.empty)) = (copied ss (k + 1)).map Value.string := by
  have e : (copied ss k).set k (ss.getD k ByteArray.empty) = copied ss (k + 1) := by
    unfold copied
    have hk : (ss.take k).length = k := by simp; omega
    rw [List.set_append_right _ _ (by omega), hk, Nat.sub_self]
    rw [show ss.length - k = (ss.length - (k + 1)) + 1 from by omega, List.replicate_succ, List.set_cons_zero]
    rw [List.take_succ_eq_append_getElem h]
    simp only [List.getD, List.getElem?_eq_getElem h, Option.getD_some, List.append_assoc, List.singleton_append]
  rw [← e, List.map_set]

/-- What the call owns can be read. -/
theorem SRow.ofOwns {w : World} {base n : Nat} {v : Value} {ss : Pl.Strs} (hn : (n : Int) ≤ 9223372036854775807) (h : w.ownsRow base 9 1 v n (ss.map Value.string)) :
    ∃ ao cap, v = .slice ao n cap ∧ SRow w ao n ss ∧ (∀ b off, ao = some ⟨b, off, none⟩ → base ≤ b) := by
  have h0 := h
  obtain ⟨hlen, hv⟩ := h
  have hl : ss.length = n := by simpa using hlen
  rcases hv with ⟨rfl, rfl⟩ | ⟨g, cap, cur, rfl, hg, hh, r⟩
  · exact ⟨none, 0, rfl, ⟨hl, hn, fun _ => rfl, .inl rfl⟩, fun b off h => by cases h⟩
  · refine ⟨some ⟨g, 0, none⟩, cap, rfl, ⟨hl, hn, (fun h => by cases h), .inr ⟨g, 0, rfl, ?_, fun k hk => ?_⟩⟩, fun b off h => by cases h; exact hg⟩
    · exact (Array.getElem?_eq_some_iff.1 hh).1
    · have := h0.cellAt k (by omega)
      rw [Nat.zero_add, this]
      exact strs_at (by omega)

/-- The answer of zzCloneStrs. -/
def ClonePost (n : Nat) (ss : Pl.Strs) (w : World) (e : Ending) (w' : World) : Prop :=
  ∃ ao cap, e = .returned (.slice ao n cap) ∧ SRow w' ao n ss ∧ (∀ b off, ao = some ⟨b, off, none⟩ → w.heap.size ≤ b) ∧ Below w.heap.size w w'

set_option maxHeartbeats 400000 in
theorem cloneStrs (ao : Option Addr) (n c : Nat) (ss : Pl.Strs) (w : World) (hn : n ≤ 65536) (hr : SRow w ao n ss) :
    Calls Try.prog 11 #[.slice ao n c] w (ClonePost n ss w) := by
  have hq : ∀ (w : World) (a : Option Addr) (n c n' c' : Nat), (binOp .eql 22 (.slice a n c) (.slice none n' c')).run Try.prog w = .ok (.bool a.isNone) w := fun w a n c n' c' => Lib.run_eql_slice_nil w _ _ a n c n' c' Try.underlying22
  have HR : Hid (SRow w ao n ss) := hr
  have HL : Hid (ss.length = n) := hr.1
  have hnone := hr.2.2.1
  clear hr
  obtain ⟨i0, hi, hz0, hz1, hz2⟩ := info_parts Try.info9
  cases ao with
  | none =>
    have hn0 := hnone rfl
    subst hn0
    have hz : ss = [] := List.length_eq_zero_iff.1 HL.out
    subst hz
    have HP : Hid (ClonePost 0 [] w (.returned (.slice none 0 0)) w) := ⟨none, 0, rfl, ⟨rfl, by omega, fun _ => rfl, .inl rfl⟩, (fun b off h => by cases h), Below.refl _ _⟩
    clear hnone HL
    go_enter Try.func11, Try.ntmps11
    go_wp2
    go_ret
    exact HP.out
  | some a =>
    clear hnone
    go_enter Try.func11, Try.ntmps11
    go_wp2_with (at_make; refine wpList_make_full _ rfl _ _ 22 rfl w.heap.size 9 i0 (.string ByteArray.empty) 1 Try.underlying22 hi hz0 hz1 _ _ _ _ n rfl rfl rfl rfl ?b2 ?b3 (Nat.le_refl _) ?_)
    case b2 => rw [hz2]; omega
    case b3 => unfold maxLen; omega
    intro w0 hown0 hgrow0
    go_wp2
    go_loopw [4] (fun i wr => ∃ k : Nat, k ≤ n ∧ i = .int .i64 k ∧ wr.ownsRow w.heap.size 9 1 (.slice (some ⟨w.heap.size, 0, none⟩) n n) n ((copied ss k).map Value.string) ∧ Below w.heap.size w wr)
      (fun i _ => n - (intOf i).toNat)
    case atStart =>
      refine ⟨0, Nat.zero_le _, rfl, ?_, (Below.refl _ _).grown hgrow0 (Nat.le_refl _) (fun k h => by cases h)⟩
      have e : (madeCells #[Value.string ByteArray.empty] n).toList = (copied ss 0).map Value.string := by
        rw [toList_madeCells_one]
        simp [copied, HL.out]
      rw [← e]
      exact hown0
    case round =>
      obtain ⟨k, hk, rfl, hown, hnx⟩ := hrel
      by_cases hlt : k < n
      · obtain ⟨b, off, eb, hb, hc⟩ := HR.out.at hlt
        cases eb
        have hcx : wr.cell? ⟨b, off + k, none⟩ = some (.string (ss.getD k ByteArray.empty)) := (hnx.cell (p := ⟨b, off + k, none⟩) hb).trans (hc k hlt)
        have hcell : wr.cell? ⟨w.heap.size, k, none⟩ = some (.string ((copied ss k).getD k ByteArray.empty)) := by
          rw [hown.cellAt k (by omega)]
          exact strs_at (by have := HL.out; simp [copied]; omega)
        have hfz : wr.frozen? ⟨w.heap.size, k, none⟩ = false := hown.frozenAt k
        have hst := hown.stored k (.string (ss.getD k ByteArray.empty))
        rw [copied_step ss k (by have := HL.out; omega)] at hst
        have HS := (show Hid _ from hst)
        clear hst hc
        go_wp2
        go_roundw
        case rel =>
          exact ⟨k + 1, by omega, by go_num, HS.out.1, hnx.grown HS.out.2 hnx.size (fun j hj => by cases hj; exact Nat.le_refl _)⟩
        case measure => simp [intOf]; omega
      · have hkn : k = n := by omega
        subst hkn
        go_wp2
        go_ret
        have e : copied ss k = ss := by
          have := HL.out
          simp [copied, ← this]
        rw [e] at hown
        obtain ⟨ao', cap', ev, hs, hb⟩ := SRow.ofOwns (by omega) hown
        cases ev
        exact ⟨_, _, rfl, hs, hb, hnx⟩

/-- A row of slices, each of which can be read, its inner rows apart from the row's own block. -/
def Inner (w : World) (g : Nat) (v : Value) (ss : Pl.Strs) : Prop := ∃ a m c, v = .slice a m c ∧ SRow w a m ss ∧ ∀ b off, a = some ⟨b, off, none⟩ → g < b

theorem Inner.below {w w' : World} {B g : Nat} {v : Value} {ss : Pl.Strs} (h : Inner w g v ss) (hb : Below B w w') (hB : w.heap.size ≤ B) : Inner w' g v ss := by
  obtain ⟨a, m, c, e, hs, hg⟩ := h
  exact ⟨a, m, c, e, hs.below hb hB, hg⟩

/-- A store into the row's own block leaves the inner rows as they are. -/
theorem SRow.stored {w : World} {a : Option Addr} {m g k : Nat} {ss : Pl.Strs} (h : SRow w a m ss) (hg : ∀ b off, a = some ⟨b, off, none⟩ → g < b) (u : Value) : SRow (w.setCell ⟨g, k, none⟩ u) a m ss := by
  obtain ⟨h1, h2, h3, h4⟩ := h
  refine ⟨h1, h2, h3, ?_⟩
  rcases h4 with h4 | ⟨b, off, e, hl, hc⟩
  · exact .inl h4
  · refine .inr ⟨b, off, e, by simpa [World.setCell] using hl, fun j hj => ?_⟩
    rw [← hc j hj]
    have := hg b off e
    exact World.cell?_of_block (Below.heap_setCell _ _ _ _ (by show b ≠ g; omega))

theorem Inner.stored {w : World} {g k : Nat} {v : Value} {ss : Pl.Strs} (h : Inner w g v ss) (u : Value) : Inner (w.setCell ⟨g, k, none⟩ u) g v ss := by
  obtain ⟨a, m, c, e, hs, hg⟩ := h
  exact ⟨a, m, c, e, hs.stored hg u, hg⟩

/-- The loop's relation in zzCloneNest. -/
def NestRel (w : World) (n k : Nat) (sss : List Pl.Strs) (wr : World) : Prop :=
  ∃ vs : List Value, wr.ownsRow w.heap.size 22 1 (.slice (some ⟨w.heap.size, 0, none⟩) n n) n vs ∧ (∀ j, j < k → ∃ v, vs[j]? = some v ∧ Inner wr w.heap.size v (sss.getD j [])) ∧ Below w.heap.size w wr

theorem NestRel.step {w wr w1 : World} {n k m c : Nat} {sss : List Pl.Strs} {a : Option Addr} (h : NestRel w n k sss wr) (hlt : k < n) (hb : Below wr.heap.size wr w1) (hs : SRow w1 a m (sss.getD k []))
    (hg : ∀ b off, a = some ⟨b, off, none⟩ → wr.heap.size ≤ b) : NestRel w n (k + 1) sss (w1.setCell ⟨w.heap.size, k, none⟩ (.slice a m c)) := by
  obtain ⟨vs, hown, hin, hbel⟩ := h
  have hlt1 := (hown.lt w.heap.size rfl).2
  have hown1 : w1.ownsRow w.heap.size 22 1 (.slice (some ⟨w.heap.size, 0, none⟩) n n) n vs := hown.kept (row := none) ⟨hb.os, hb.tape, hb.output, hb.size, fun k hk _ => hb.block k hk⟩ (.inr (by simp [Value.ownBlock]))
  obtain ⟨h1, h2⟩ := hown1.stored k (.slice a m c)
  refine ⟨_, h1, fun j hj => ?_, ?_⟩
  · by_cases e : j = k
    · subst e
      have hl : vs.length = n := by simpa using hown.1
      refine ⟨.slice a m c, by simp [hl, hlt], a, m, c, rfl, ?_, fun b off e => Nat.lt_of_lt_of_le hlt1 (hg b off e)⟩
      exact hs.stored (fun b off e => Nat.lt_of_lt_of_le hlt1 (hg b off e)) _
    · obtain ⟨v, q1, q2⟩ := hin j (by omega)
      exact ⟨v, by rw [List.getElem?_set_ne (by omega)]; exact q1, (q2.below hb (Nat.le_refl _)).stored _⟩
  · exact (hbel.trans (hb.mono hbel.size)).grown h2 (Nat.le_trans hbel.size hb.size) (fun j hj => by cases hj; exact Nat.le_refl _)

theorem NestRel.done {w wr : World} {n : Nat} {sss : List Pl.Strs} (h : NestRel w n n sss wr) (hl : sss.length = n) (hn : (n : Int) ≤ 9223372036854775807) : NRow wr (some ⟨w.heap.size, 0, none⟩) n sss := by
  obtain ⟨vs, hown, hin, hbel⟩ := h
  refine ⟨hl, hn, (fun h => by cases h), .inr ⟨w.heap.size, 0, rfl, (hown.lt w.heap.size rfl).2, fun k hk => ?_⟩⟩
  obtain ⟨v, q1, a, m, c, rfl, hs, _⟩ := hin k hk
  exact ⟨a, m, c, by rw [Nat.zero_add, hown.cellAt k (by omega)]; exact q1, hs⟩

/-- The answer of zzCloneNest. -/
def NestPost (n : Nat) (sss : List Pl.Strs) (w : World) (e : Ending) (w' : World) : Prop :=
  ∃ ao cap, e = .returned (.slice ao n cap) ∧ NRow w' ao n sss ∧ Below w.heap.size w w'

set_option maxHeartbeats 400000 in
theorem cloneNest (ao : Option Addr) (n c : Nat) (sss : List Pl.Strs) (w : World) (hn : n ≤ 65536) (hin : ∀ s ∈ sss, s.length ≤ 65536) (hr : NRow w ao n sss) :
    Calls Try.prog 20 #[.slice ao n c] w (NestPost n sss w) := by
  have hq : ∀ (w : World) (a : Option Addr) (n c n' c' : Nat), (binOp .eql 32 (.slice a n c) (.slice none n' c')).run Try.prog w = .ok (.bool a.isNone) w := fun w a n c n' c' => Lib.run_eql_slice_nil w _ _ a n c n' c' Try.underlying32
  have HR : Hid (NRow w ao n sss) := hr
  have HL : Hid (sss.length = n) := hr.1
  have HI : Hid (∀ s ∈ sss, s.length ≤ 65536) := hin
  have hnone := hr.2.2.1
  clear hr hin
  obtain ⟨i0, hi, hz0, hz1, hz2⟩ := info_parts Try.info22
  cases ao with
  | none =>
    have hn0 := hnone rfl
    subst hn0
    have hz : sss = [] := List.length_eq_zero_iff.1 HL.out
    subst hz
    have HP : Hid (NestPost 0 [] w (.returned (.slice none 0 0)) w) := ⟨none, 0, rfl, ⟨rfl, by omega, fun _ => rfl, .inl rfl⟩, Below.refl _ _⟩
    clear hnone HL
    go_enter Try.func20, Try.ntmps20
    go_wp2_with fail
    go_ret
    exact HP.out
  | some a =>
    clear hnone
    go_enter Try.func20, Try.ntmps20
    go_wp2_with (at_make; refine wpList_make_full _ rfl _ _ 32 rfl w.heap.size 22 i0 (.slice none 0 0) 1 Try.underlying32 hi hz0 hz1 _ _ _ _ n rfl rfl rfl rfl ?b2 ?b3 (Nat.le_refl _) ?_)
    case b2 => rw [hz2]; omega
    case b3 => unfold maxLen; omega
    intro w0 hown0 hgrow0
    go_wp2_with fail
    go_loopw [4] (fun i wr => ∃ k : Nat, k ≤ n ∧ i = .int .i64 k ∧ NestRel w n k sss wr) (fun i _ => n - (intOf i).toNat)
    case atStart =>
      refine ⟨0, Nat.zero_le _, rfl, _, hown0, (fun j h => by omega), (Below.refl _ _).grown hgrow0 (Nat.le_refl _) (fun k h => by cases h)⟩
    case round =>
      obtain ⟨k, hk, rfl, hrel⟩ := hrel
      have HN : Hid (NestRel w n k sss wr) := hrel
      clear hrel
      by_cases hlt : k < n
      · obtain ⟨b, off, eb, hb, hc⟩ := HR.out.at hlt
        cases eb
        obtain ⟨vs, hown, hin, hbel⟩ := HN.out
        obtain ⟨a', m, c', g, hs⟩ := hc k hlt
        have hcx : wr.cell? ⟨b, off + k, none⟩ = some (.slice a' m c') := (hbel.cell (p := ⟨b, off + k, none⟩) hb).trans g
        have HS : Hid (SRow wr a' m (sss.getD k [])) := hs.below hbel (Nat.le_refl _)
        have hm : m ≤ 65536 := by
          rw [← hs.1]
          refine HI.out _ ?_
          have : k < sss.length := by rw [HL.out]; exact hlt
          simp [List.getD, this]
        have hl : vs.length = n := by simpa using hown.1
        have hfz : wr.frozen? ⟨w.heap.size, k, none⟩ = false := hown.frozenAt k
        have hcell : ∃ v0, wr.cell? ⟨w.heap.size, k, none⟩ = some v0 := by
          rw [hown.cellAt k (by omega)]
          exact ⟨vs[k], by simp [hl, hlt]⟩
        obtain ⟨v0, hcell⟩ := hcell
        have hlt1 : w.heap.size < wr.heap.size := (hown.lt w.heap.size rfl).2
        clear hc g hs hown hin hbel hl
        go_wp2_with fail
        refine (cloneStrs a' m c' _ _ hm HS.out).mono ?_
        rintro e w1 ⟨a2, c2, rfl, hs2, hg2, hb2⟩
        have hfz1 : w1.frozen? ⟨w.heap.size, k, none⟩ = false := (hb2.frozen (p := ⟨w.heap.size, k, none⟩) hlt1).trans hfz
        have hcell1 : w1.cell? ⟨w.heap.size, k, none⟩ = some v0 := (hb2.cell (p := ⟨w.heap.size, k, none⟩) hlt1).trans hcell
        have HN2 : Hid (NestRel w n (k + 1) sss (w1.setCell ⟨w.heap.size, k, none⟩ (.slice a2 m c2))) := HN.out.step hlt hb2 hs2 hg2
        clear hs2 hg2 hb2 hfz hcell hcx
        go_wp2_with fail
        go_roundw
        case rel => exact ⟨k + 1, by omega, by go_num, HN2.out⟩
        case measure => simp [intOf]; omega
      · have hkn : k = n := by omega
        subst hkn
        go_wp2_with fail
        go_ret
        exact ⟨_, _, rfl, HN.out.done HL.out (by omega), HN.out.choose_spec.2.2⟩

end Go.Proofs.Qxb6001426a
