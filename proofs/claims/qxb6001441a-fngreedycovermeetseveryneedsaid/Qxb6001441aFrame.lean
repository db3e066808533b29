/-
  From the reading of an argument to what the walks ask: []int, [][]int.
-/
import Derived.Test.Qxb6001441aLeaf
import Derived.Deep.Slices
namespace Go.Proofs.Qxb6001441a
open Go.ChangeShapes Go.WideShapes Go.ChangeAt Go.RowKit
set_option linter.unusedVariables false

theorem cell_lt {w : World} {b off : Nat} {v : Value} (h : w.cell? ⟨b, off, none⟩ = some v) : b < w.heap.size := by
  by_cases e : b < w.heap.size
  · exact e
  · have : w.heap[b]? = none := by simp; omega
    simp [World.cell?, this] at h

theorem irow_of {H : Type} {enc : TypeId × Value → H} {W : World} {fuel : Nat} {v : Value} {x : DataW H × List MemPlace} (h : DataW.trod enc Try.prog W 0 (fun _ => true) true fuel 33 [v] = some x) :
    ∃ a n c zs, v = .slice a n c ∧ IRow W a n zs := by
  rcases open_ints Try.underlying33 Try.underlying3 (by kernel_rfl) h with ⟨hcs, _⟩ | ⟨x, l, c, zs, hcs, _, hl, hm, hz, _, hcell, hws⟩
  · have e : v = .slice none 0 0 := by simpa using hcs
    exact ⟨none, 0, 0, [], e, rfl, by omega, fun _ => rfl, .inl rfl⟩
  · have e : v = .slice (some x) l c := by simpa using hcs
    simp only [if_true] at hz
    unfold maxLen at hm
    refine ⟨some x, l, c, zs.take l, e, by simp; omega, by omega, (fun h => by cases h), ?_⟩
    by_cases h0 : l = 0
    · exact .inl h0
    · right
      have hc0 := hcell 0 (by omega)
      obtain ⟨b, off, rfl⟩ : ∃ b off, x = ⟨b, off, none⟩ := by
        obtain ⟨b, off, spot⟩ := x
        have hspot : spot = none := by simpa [Addr.add] using World.cell?_spot hc0
        subst hspot
        exact ⟨b, off, rfl⟩
      have h1 : ∀ k, k < l → W.cell? ⟨b, off + k, none⟩ = some (.int .i64 ((zs.take l).getD k 0)) := by
        intro k hk
        have := hcell k (by omega)
        rw [Addr.add_lit] at this
        rw [this]
        simp [List.getD, hk]
      exact ⟨b, off, rfl, cell_lt (h1 0 (by omega)), h1⟩

theorem mrow_of {H : Type} {enc : TypeId × Value → H} {W : World} {fuel : Nat} {v : Value} {x : DataW H × List MemPlace} (h : DataW.trod enc Try.prog W 0 (fun _ => true) true fuel 39 [v] = some x) :
    ∃ a n c zss, v = .slice a n c ∧ MRow W a n zss := by
  rcases Go.Deep.open_slice1 Try.underlying39 (by kernel_rfl) h with ⟨hcs, _⟩ | ⟨x, l, c, m, n, V, D, Q, hcs, _, hl, hm, hmm, _, hx⟩
  · have e : v = .slice none 0 0 := by simpa using hcs
    exact ⟨none, 0, 0, [], e, rfl, by omega, fun _ => rfl, .inl rfl⟩
  · have e : v = .slice (some x) l c := by simpa using hcs
    simp only [if_true] at hmm
    unfold maxLen at hm
    have each : ∀ i, ∃ zs : List Int, i < m → ∃ a n c, V i = .slice a n c ∧ IRow W a n zs := by
      intro i
      by_cases hi : i < m
      · obtain ⟨a, n, c, zs, e1, e2⟩ := irow_of (hx i hi).2
        exact ⟨zs, fun _ => ⟨a, n, c, e1, e2⟩⟩
      · exact ⟨[], fun h => absurd h hi⟩
    refine ⟨some x, l, c, (List.range l).map fun i => (each i).choose, e, by simp, by omega, (fun h => by cases h), ?_⟩
    by_cases h0 : l = 0
    · exact .inl h0
    · right
      have hc0 := (hx 0 (by omega)).1
      obtain ⟨b, off, rfl⟩ : ∃ b off, x = ⟨b, off, none⟩ := by
        obtain ⟨b, off, spot⟩ := x
        have hspot : spot = none := by simpa [Addr.add] using World.cell?_spot hc0
        subst hspot
        exact ⟨b, off, rfl⟩
      have h1 : ∀ k, k < l → ∃ a m c, W.cell? ⟨b, off + k, none⟩ = some (.slice a m c) ∧ IRow W a m (((List.range l).map fun i => (each i).choose).getD k []) := by
        intro k hk
        have h2 := (hx k (by omega)).1
        rw [Addr.add_lit] at h2
        obtain ⟨a, n', c', e1, e2⟩ := (each k).choose_spec (by omega)
        refine ⟨a, n', c', by rw [h2, e1], ?_⟩
        have : ((List.range l).map fun i => (each i).choose).getD k [] = (each k).choose := by
          simp only [List.getD, List.getElem?_map, List.getElem?_range hk, Option.map_some, Option.getD_some]
        rw [this]
        exact e2
      obtain ⟨a, m', c', h3, _⟩ := h1 0 (by omega)
      exact ⟨b, off, rfl, cell_lt h3, h1⟩

end Go.Proofs.Qxb6001441a
