/-
  Vocabulary on memory; contracts: the guard zzBytes (18), gcBytes (19), zzCloneI (16), zzCloneII (21).
-/
import Derived.Test.Qxb6001441aRows
import Derived.WalkKit
import Derived.ProofKit
import Derived.Below
import Derived.WalkSpells
import Derived.Lib.SliceRun
import Derived.Deep.QuietTactic
import Derived.BigQuiet
import Derived.Test.Qxb6001441aPlain
namespace Go.Proofs.Qxb6001441a
open Go.RowKit
set_option linter.unusedVariables false

/-! ### a block that is known whole -/
def Blk (w : World) (g : Nat) (e : TypeId) (vs : List Value) : Prop := w.heap[g]? = some (.cells vs.toArray e (0, 0))

theorem Blk.lt {w : World} {g : Nat} {e : TypeId} {vs : List Value} (h : Blk w g e vs) : g < w.heap.size := (Array.getElem?_eq_some_iff.1 h).1

theorem Blk.cell {w : World} {g : Nat} {e : TypeId} {vs : List Value} (h : Blk w g e vs) (k : Nat) : w.cell? ⟨g, k, none⟩ = vs[k]? := by
  unfold Blk at h
  simp [World.cell?, h]

theorem Blk.frozen {w : World} {g : Nat} {e : TypeId} {vs : List Value} (h : Blk w g e vs) (k : Nat) : w.frozen? ⟨g, k, none⟩ = false := by
  unfold Blk at h
  simp [World.frozen?, h]

theorem Blk.store {w : World} {g : Nat} {e : TypeId} {vs : List Value} (h : Blk w g e vs) (k : Nat) (u : Value) : Blk (w.setCell ⟨g, k, none⟩ u) g e (vs.set k u) := by
  unfold Blk at h ⊢
  simp [World.setCell, Array.getElem?_modify, h]

theorem Blk.other {w : World} {g h' : Nat} {e : TypeId} {vs : List Value} (h : Blk w g e vs) (hne : g ≠ h') (k : Nat) (u : Value) : Blk (w.setCell ⟨h', k, none⟩ u) g e vs := by
  unfold Blk at h ⊢
  rw [Below.heap_setCell _ _ _ _ hne]
  exact h

theorem Blk.below {w w' : World} {B g : Nat} {e : TypeId} {vs : List Value} (h : Blk w g e vs) (hb : Below B w w') (hg : g < B) : Blk w' g e vs := by
  unfold Blk at h ⊢
  rw [hb.block g hg]
  exact h

theorem Blk.grown {w w' : World} {g : Nat} {e : TypeId} {vs : List Value} {row : Option Nat} (h : Blk w g e vs) (hg : w.grownBy w' row) (hne : some g ≠ row) : Blk w' g e vs := by
  have := hg.block g h.lt hne
  unfold Blk at h ⊢
  rw [this]
  exact h

theorem Blk.alloc {w : World} {g : Nat} {e : TypeId} {vs : List Value} (h : Blk w g e vs) (o : Obj) : Blk (w.alloc o) g e vs := by
  have hl := h.lt
  unfold Blk at h ⊢
  rw [Below.heap_alloc _ _ _ hl]
  exact h

theorem Blk.drewN {w : World} {g : Nat} {e : TypeId} {vs : List Value} (h : Blk w g e vs) (q : Nat) : Blk (w.drewN q) g e vs := h

theorem below_drawn {B : Nat} {w w' : World} (h : Below B w w') (q : Nat) : Below B w (w'.drewN q) := ⟨h.os, h.tape, h.output, h.size, h.block⟩

/-- What 'make' with length and capacity alike leaves. -/
theorem Blk.ofOwns {w : World} {base n g size : Nat} {e : TypeId} {xs : List Value} (h : w.ownsRow base e size (.slice (some ⟨g, 0, none⟩) n n) n xs) : Blk w g e xs := by
  rcases h.2 with ⟨h', _⟩ | ⟨g', cap', cur, h', _, hg, _, _, hcs, htake⟩
  · simp at h'
  · simp only [Value.slice.injEq, Option.some.injEq, Addr.mk.injEq, and_true, true_and] at h'
    obtain ⟨rfl, rfl⟩ := h'
    rw [List.take_of_length_le (by rw [Array.length_toList, hcs]; exact Nat.le_refl _)] at htake
    unfold Blk
    rw [hg, ← htake]

theorem ints_at {zs : List Int} {k : Nat} (h : k < zs.length) : (zs.map (Value.int .i64))[k]? = some (.int .i64 (zs.getD k 0)) := by
  simp [List.getD, h]

theorem bools_at {bs : List Bool} {k : Nat} (h : k < bs.length) : (bs.map Value.bool)[k]? = some (.bool (bs.getD k false)) := by
  simp [List.getD, h]

/-! ### rows that can be read -/
def IRow (w : World) (ao : Option Addr) (n : Nat) (zs : List Int) : Prop :=
  zs.length = n ∧ (n : Int) ≤ 9223372036854775807 ∧ (ao = none → n = 0) ∧
  (n = 0 ∨ ∃ b off, ao = some ⟨b, off, none⟩ ∧ b < w.heap.size ∧ ∀ k, k < n → w.cell? ⟨b, off + k, none⟩ = some (.int .i64 (zs.getD k 0)))

theorem IRow.below {w w' : World} {B : Nat} {ao : Option Addr} {n : Nat} {zs : List Int} (h : IRow w ao n zs) (hb : Below B w w') (hB : w.heap.size ≤ B) : IRow w' ao n zs := by
  obtain ⟨h1, h2, h3, h4⟩ := h
  refine ⟨h1, h2, h3, ?_⟩
  rcases h4 with h4 | ⟨b, off, e, hl, hc⟩
  · exact .inl h4
  · exact .inr ⟨b, off, e, Nat.lt_of_lt_of_le hl hb.size, fun k hk => (hb.cell (p := ⟨b, off + k, none⟩) (Nat.lt_of_lt_of_le hl hB)).trans (hc k hk)⟩

theorem IRow.at {w : World} {ao : Option Addr} {n : Nat} {zs : List Int} (h : IRow w ao n zs) {k : Nat} (hk : k < n) :
    ∃ b off, ao = some ⟨b, off, none⟩ ∧ b < w.heap.size ∧ ∀ k, k < n → w.cell? ⟨b, off + k, none⟩ = some (.int .i64 (zs.getD k 0)) := by
  rcases h.2.2.2 with h | h
  · omega
  · exact h

theorem IRow.drewN {w : World} {ao : Option Addr} {n : Nat} {zs : List Int} (h : IRow w ao n zs) (q : Nat) : IRow (w.drewN q) ao n zs := h

theorem IRow.ofBlk {w : World} {g n : Nat} {zs : List Int} (h : Blk w g 3 (zs.map (Value.int .i64))) (hl : zs.length = n) (hn : (n : Int) ≤ 9223372036854775807) : IRow w (some ⟨g, 0, none⟩) n zs :=
  ⟨hl, hn, (fun h => by cases h), .inr ⟨g, 0, rfl, h.lt, fun k hk => by rw [Nat.zero_add, h.cell k]; exact ints_at (by omega)⟩⟩

/-- A slice of slices of integers. -/
def MRow (w : World) (ao : Option Addr) (n : Nat) (zss : List (List Int)) : Prop :=
  zss.length = n ∧ (n : Int) ≤ 9223372036854775807 ∧ (ao = none → n = 0) ∧
  (n = 0 ∨ ∃ b off, ao = some ⟨b, off, none⟩ ∧ b < w.heap.size ∧ ∀ k, k < n → ∃ a m c, w.cell? ⟨b, off + k, none⟩ = some (.slice a m c) ∧ IRow w a m (zss.getD k []))

theorem MRow.below {w w' : World} {B : Nat} {ao : Option Addr} {n : Nat} {zss : List (List Int)} (h : MRow w ao n zss) (hb : Below B w w') (hB : w.heap.size ≤ B) : MRow w' ao n zss := by
  obtain ⟨h1, h2, h3, h4⟩ := h
  refine ⟨h1, h2, h3, ?_⟩
  rcases h4 with h4 | ⟨b, off, e, hl, hc⟩
  · exact .inl h4
  · refine .inr ⟨b, off, e, Nat.lt_of_lt_of_le hl hb.size, fun k hk => ?_⟩
    obtain ⟨a, m, c, q1, q2⟩ := hc k hk
    exact ⟨a, m, c, (hb.cell (p := ⟨b, off + k, none⟩) (Nat.lt_of_lt_of_le hl hB)).trans q1, q2.below hb hB⟩

theorem MRow.at {w : World} {ao : Option Addr} {n : Nat} {zss : List (List Int)} (h : MRow w ao n zss) {k : Nat} (hk : k < n) :
    ∃ b off, ao = some ⟨b, off, none⟩ ∧ b < w.heap.size ∧ ∀ k, k < n → ∃ a m c, w.cell? ⟨b, off + k, none⟩ = some (.slice a m c) ∧ IRow w a m (zss.getD k []) := by
  rcases h.2.2.2 with h | h
  · omega
  · exact h

theorem ret_int {k : IntKind} {a b : Int} (h : a = b) : Ending.returned (.int k a) = .returned (.int k b) := by rw [h]

/-- Some yes-or-no; the world is as it was. -/
def AnyBool (w : World) (e : Ending) (w' : World) : Prop := (∃ b, e = .returned (.bool b)) ∧ w' = w

set_option maxHeartbeats 1000000 in
theorem bytes18 (a0 a1 : Option Addr) (n0 n1 c0 c1 : Nat) (z : Int) (s0 : List (List Int)) (w : World) (h0 : MRow w a0 n0 s0) :
    Calls Try.prog 18 #[.slice a0 n0 c0, .slice a1 n1 c1, .int .i64 z] w (AnyBool w) := by
  have H0 : Hid (MRow w a0 n0 s0) := h0
  clear h0
  by_cases t0 : n0 ≤ 1048576
  · go_enter Try.func18, Try.ntmps18
    go_wp2_with fail
    go_loop [7, 8] (fun t i => ∃ (k : Nat) (z : Nat), k ≤ n0 ∧ i = .int .i64 k ∧ t = .int .i64 z ∧ z ≤ 1048576) (fun _ i => n0 - (intOf i).toNat)
    case atStart => exact ⟨0, n0, Nat.zero_le _, rfl, by go_num, by omega⟩
    case round =>
      obtain ⟨k, z0, hk, rfl, rfl, hz0⟩ := hrel
      by_cases hlt : k < n0
      · obtain ⟨b, off, rfl, hb, hc⟩ := H0.out.at hlt
        obtain ⟨a, m, c, g, hs⟩ := hc k hlt
        clear hc hs
        by_cases y1 : m ≤ 1048576
        case neg => go_wp2_with fail; go_ret; exact ⟨⟨_, rfl⟩, rfl⟩
        by_cases y2 : z0 + m ≤ 1048576
        case neg => go_wp2_with fail; go_ret; exact ⟨⟨_, rfl⟩, rfl⟩
        go_wp2_with fail
        go_round
        case rel => exact ⟨k + 1, z0 + m, by omega, by go_num, by go_num, by omega⟩
        case measure => simp [intOf]; omega
      · go_wp2_with fail
        all_goals (go_ret; exact ⟨⟨_, rfl⟩, rfl⟩)
  · go_enter Try.func18, Try.ntmps18
    go_wp2_with fail
    go_ret
    exact ⟨⟨_, rfl⟩, rfl⟩

/-- The answer of gcBytes. -/
def BytesPost (n0 n1 : Nat) (s0 : List (List Int)) (w : World) (e : Ending) (w' : World) : Prop :=
  ∃ z : Int, e = .returned (.int .i64 z) ∧ w' = w ∧ (z ≤ 1048576 → n0 ≤ 1048576 ∧ n1 ≤ 1048576 ∧ ∀ l ∈ s0, l.length ≤ 1048576)

set_option maxHeartbeats 1000000 in
theorem gcBytes19 (a0 a1 : Option Addr) (n0 n1 c0 c1 : Nat) (s0 : List (List Int)) (w : World) (h0 : MRow w a0 n0 s0) :
    Calls Try.prog 19 #[.slice a0 n0 c0, .slice a1 n1 c1] w (BytesPost n0 n1 s0 w) := by
  have H0 : Hid (MRow w a0 n0 s0) := h0
  have HBig : Hid (BytesPost n0 n1 s0 w (.returned (.int .i64 1048577)) w) := ⟨_, rfl, rfl, fun h => by omega⟩
  clear h0
  by_cases t1 : n1 ≤ 1048576
  case neg => go_enter Try.func19, Try.ntmps19; go_wp2_with fail; go_ret; exact HBig.out
  by_cases t0 : n0 ≤ 1048576
  case neg => go_enter Try.func19, Try.ntmps19; go_wp2_with fail; go_ret; exact HBig.out
  go_enter Try.func19, Try.ntmps19
  go_wp2_with fail
  go_loop [5, 20] (fun t i => ∃ (k : Nat) (z : Nat), k ≤ n0 ∧ i = .int .i64 k ∧ t = .int .i64 z ∧ z ≤ 10000000 ∧ Hid (∀ j, j < k → (s0.getD j []).length ≤ 1048576)) (fun _ i => n0 - (intOf i).toNat)
  case atStart => exact ⟨0, 8 * n1, Nat.zero_le _, rfl, by go_num, by omega, fun j h => by omega⟩
  case round =>
    obtain ⟨k, z, hk, rfl, rfl, hz, HA⟩ := hrel
    by_cases hlt : k < n0
    · obtain ⟨b, off, rfl, hb, hc⟩ := H0.out.at hlt
      obtain ⟨a, m, c, g, hs⟩ := hc k hlt
      have HM : Hid ((s0.getD k []).length = m) := hs.1
      clear hc hs
      by_cases y0 : z ≤ 1048576
      case neg => go_wp2_with fail; go_ret; exact HBig.out
      by_cases y1 : m ≤ 1048576
      case neg => go_wp2_with fail; go_ret; exact HBig.out
      go_wp2_with fail
      go_round
      case rel =>
        refine ⟨k + 1, z + (8 + 8 * m), by omega, by go_num, by go_num, by omega, fun j hj => ?_⟩
        by_cases e : j = k
        · subst e; rw [HM.out]; exact y1
        · exact HA.out j (by omega)
      case measure => simp [intOf]; omega
    · have HP : Hid (BytesPost n0 n1 s0 w (.returned (.int .i64 z)) w) := ⟨_, rfl, rfl, fun _ => ⟨t0, t1, fun l hl => by
        obtain ⟨j, hj, e⟩ := List.mem_iff_getElem.1 hl
        have h1 := HA.out j (by have := H0.out.1; omega)
        simp only [List.getD, List.getElem?_eq_getElem hj, Option.getD_some] at h1
        rw [← e]
        exact h1⟩⟩
      clear HA
      go_wp2_with fail
      go_ret
      exact HP.out

end Go.Proofs.Qxb6001441a
