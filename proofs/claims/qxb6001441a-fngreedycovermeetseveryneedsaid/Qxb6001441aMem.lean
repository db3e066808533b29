/-
  Memory in greedyCover (30): the groups, the rows 'in', and how they are kept.
-/
import Derived.Test.Qxb6001441aShape
import Derived.Deep.AppendLies
namespace Go.Proofs.Qxb6001441a
open Go.RowKit
set_option linter.unusedVariables false

/-! ### the groups -/
/-- One group in memory: its members and its count. -/
def GAt (w : World) (b o : Nat) (m : List Nat) (c : Int) : Prop := ∃ a l k, w.cell? ⟨b, o, none⟩ = some (.slice a l k) ∧ l ≤ 1048576 ∧ IRow w a l (ofN m) ∧ w.cell? ⟨b, o + 1, none⟩ = some (.int .i64 c)

def GRow (w : World) (ao : Option Addr) (g : Nat) (M : List (List Nat)) (C : List Int) : Prop :=
  M.length = g ∧ g ≤ 1048576 ∧ (g = 0 ∨ ∃ b off, ao = some ⟨b, off, none⟩ ∧ b < w.heap.size ∧ ∀ i, i < g → GAt w b (off + i * 2) (M.getD i []) (C.getD i 0))

theorem GAt.below {w w' : World} {B b o : Nat} {m : List Nat} {c : Int} (h : GAt w b o m c) (hb : Below B w w') (hB : w.heap.size ≤ B) (hl : b < w.heap.size) : GAt w' b o m c := by
  obtain ⟨a, l, k, h1, h2, h3, h4⟩ := h
  have hl' : b < B := Nat.lt_of_lt_of_le hl hB
  exact ⟨a, l, k, (hb.cell (p := ⟨b, o, none⟩) hl').trans h1, h2, h3.below hb hB, (hb.cell (p := ⟨b, o + 1, none⟩) hl').trans h4⟩

theorem GRow.below {w w' : World} {B : Nat} {ao : Option Addr} {g : Nat} {M : List (List Nat)} {C : List Int} (h : GRow w ao g M C) (hb : Below B w w') (hB : w.heap.size ≤ B) : GRow w' ao g M C := by
  obtain ⟨h1, h2, h3⟩ := h
  refine ⟨h1, h2, ?_⟩
  rcases h3 with h3 | ⟨b, off, e, hl, hc⟩
  · exact .inl h3
  · exact .inr ⟨b, off, e, Nat.lt_of_lt_of_le hl hb.size, fun i hi => (hc i hi).below hb hB hl⟩

theorem GRow.at {w : World} {ao : Option Addr} {g : Nat} {M : List (List Nat)} {C : List Int} (h : GRow w ao g M C) {i : Nat} (hi : i < g) :
    ∃ b off, ao = some ⟨b, off, none⟩ ∧ b < w.heap.size ∧ ∀ i, i < g → GAt w b (off + i * 2) (M.getD i []) (C.getD i 0) := by
  rcases h.2.2 with h | h
  · omega
  · exact h

/-! ### phase one: the rows 'in', being built -/
/-- The row of n slices at block gi; slice j owns the numbers f j; no two slices share a block, none lies in gi. -/
def InSt (w0 w : World) (gi n : Nat) (f : Nat → List Nat) : Prop :=
  ∃ vs : List Value, vs.length = n ∧ Blk w gi 33 vs ∧
    (∀ j, j < n → ∃ v, vs[j]? = some v ∧ w.ownsRow w0.heap.size 3 1 v (f j).length ((ofN (f j)).map (Value.int .i64)) ∧ v.ownBlock ≠ some gi) ∧
    (∀ (i j : Nat) (v u : Value), i ≠ j → vs[i]? = some v → vs[j]? = some u → v.ownBlock = none ∨ v.ownBlock ≠ u.ownBlock) ∧ w0.heap.size ≤ gi ∧ Below w0.heap.size w0 w

theorem InSt.congr {w0 w : World} {gi n : Nat} {f f' : Nat → List Nat} (h : InSt w0 w gi n f) (e : ∀ j, j < n → f j = f' j) : InSt w0 w gi n f' := by
  obtain ⟨vs, h1, h2, h3, h4, h5⟩ := h
  refine ⟨vs, h1, h2, fun j hj => ?_, h4, h5⟩
  rw [← e j hj]
  exact h3 j hj

theorem grownBy_setCell (w : World) (g k : Nat) (u : Value) : w.grownBy (w.setCell ⟨g, k, none⟩ u) (some g) :=
  ⟨rfl, rfl, rfl, by simp [World.setCell], fun j _ hj => Below.heap_setCell _ _ _ _ (fun e => hj (by rw [e]))⟩

theorem InSt.alloc {w0 w : World} {gi n : Nat} {f : Nat → List Nat} (h : InSt w0 w gi n f) (o : Obj) : InSt w0 (w.alloc o) gi n f := by
  obtain ⟨vs, h1, h2, h3, h4, h5, h6⟩ := h
  refine ⟨vs, h1, h2.alloc o, fun j hj => ?_, h4, h5, h6.alloc h6.size o⟩
  obtain ⟨v, a, b, c⟩ := h3 j hj
  exact ⟨v, a, b.alloc o, c⟩

/-- 'in[p] = append(in[p], x)'. -/
theorem InSt.append {w0 w w1 : World} {gi n p x g cap : Nat} {f : Nat → List Nat} {vs : List Value} {v : Value} (hp : p < n) (hl : vs.length = n) (hblk : Blk w gi 33 vs)
    (hr : ∀ j, j < n → ∃ v, vs[j]? = some v ∧ w.ownsRow w0.heap.size 3 1 v (f j).length ((ofN (f j)).map (Value.int .i64)) ∧ v.ownBlock ≠ some gi)
    (hd : ∀ (i j : Nat) (v u : Value), i ≠ j → vs[i]? = some v → vs[j]? = some u → v.ownBlock = none ∨ v.ownBlock ≠ u.ownBlock) (hgi : w0.heap.size ≤ gi) (hb : Below w0.heap.size w0 w)
    (hv : vs[p]? = some v) (hown1 : w1.ownsRow w0.heap.size 3 1 (.slice (some ⟨g, 0, none⟩) ((f p).length + 1) cap) ((f p).length + 1) ((ofN (f p)).map (Value.int .i64) ++ [.int .i64 (x : Int)]))
    (hgrow : w.grownBy w1 v.ownBlock) (hat : v.ownBlock = some g ∨ g = w.heap.size) :
    InSt w0 (w1.setCell ⟨gi, p, none⟩ (.slice (some ⟨g, 0, none⟩) ((f p).length + 1) cap)) gi n (fun j => if j = p then f p ++ [x] else f j) := by
  obtain ⟨vp, hvp, _, hvgi⟩ := hr p hp
  have evp : vp = v := by rw [hv] at hvp; exact (Option.some.inj hvp).symm
  subst evp
  have hgi2 : gi < w.heap.size := hblk.lt
  have hggi : g ≠ gi := by
    rcases hat with h | h
    · intro e; rw [e] at h; exact hvgi h
    · omega
  have hblk1 : Blk w1 gi 33 vs := hblk.grown hgrow (fun e => hvgi e.symm)
  refine ⟨vs.set p (.slice (some ⟨g, 0, none⟩) ((f p).length + 1) cap), by rw [List.length_set]; exact hl, hblk1.store p _, fun j hj => ?_, ?_, hgi, ?_⟩
  · by_cases e : j = p
    · subst e
      refine ⟨.slice (some ⟨g, 0, none⟩) ((f j).length + 1) cap, by simp [hl, hp], ?_, by simp [Value.ownBlock]; exact hggi⟩
      simp only [if_true]
      have h1 := hown1.kept (grownBy_setCell w1 gi j (.slice (some ⟨g, 0, none⟩) ((f j).length + 1) cap)) (.inr (by simp [Value.ownBlock]; exact hggi))
      rw [ofN_append, List.map_append, List.length_append]
      exact h1
    · obtain ⟨u, a, b, c⟩ := hr j hj
      refine ⟨u, by rw [List.getElem?_set_ne (fun q => e q.symm)]; exact a, ?_, c⟩
      simp only [if_neg e]
      have hne : u.ownBlock = none ∨ u.ownBlock ≠ vp.ownBlock := hd j p u vp e a hv
      have h1 := b.kept hgrow hne
      refine h1.kept (grownBy_setCell w1 gi p _) ?_
      exact .inr c
  · intro i j v' u hij hi hj
    have other : ∀ t u', t ≠ p → vs[t]? = some u' → u'.ownBlock ≠ some g ∨ u'.ownBlock = none := by
      intro t u' ht hu'
      rcases hd t p u' vp ht hu' hv with q | q
      · exact .inr q
      · rcases hat with h | h
        · left; rw [← h]; exact q
        · by_cases hnn : u'.ownBlock = none
          · exact .inr hnn
          · left
            intro e
            have htn : t < n := by rw [← hl]; exact (List.getElem?_eq_some_iff.1 hu').1
            obtain ⟨u2, a2, b2, _⟩ := hr t htn
            have : u2 = u' := by rw [hu'] at a2; exact (Option.some.inj a2).symm
            subst this
            have := (b2.lt g e).2
            omega
    by_cases ei : i = p
    · subst ei
      have ev : v' = .slice (some ⟨g, 0, none⟩) ((f i).length + 1) cap := by
        rw [List.getElem?_set_self (by rw [hl]; exact hp)] at hi
        exact (Option.some.inj hi).symm
      subst ev
      rw [List.getElem?_set_ne hij] at hj
      rcases other j u (fun q => hij q.symm) hj with q | q
      · right; intro e; exact q (by rw [← e]; rfl)
      · right; rw [q]; simp [Value.ownBlock]
    · rw [List.getElem?_set_ne (fun q => ei q.symm)] at hi
      by_cases ej : j = p
      · subst ej
        have eu : u = .slice (some ⟨g, 0, none⟩) ((f j).length + 1) cap := by
          rw [List.getElem?_set_self (by rw [hl]; exact hp)] at hj
          exact (Option.some.inj hj).symm
        subst eu
        rcases other i v' ei hi with q | q
        · exact .inr q
        · exact .inl q
      · rw [List.getElem?_set_ne (fun q => ej q.symm)] at hj
        exact hd i j v' u hij hi hj
  · exact ((hb.grown hgrow hb.size (fun k hk => by
      obtain ⟨u2, a2, b2, _⟩ := hr p hp
      have : u2 = vp := by rw [hv] at a2; exact (Option.some.inj a2).symm
      subst this
      exact (b2.lt k hk).1))).setCell hgi _

/-! ### behind phase one: the rows 'in' are only read -/
def InR (w : World) (gi n : Nat) (I : Nat → List Nat) : Prop :=
  ∃ vs : List Value, vs.length = n ∧ Blk w gi 33 vs ∧ ∀ j, j < n → ∃ a m c, vs[j]? = some (.slice a m c) ∧ IRow w a m (ofN (I j))

theorem InR.below {w w' : World} {B gi n : Nat} {I : Nat → List Nat} (h : InR w gi n I) (hb : Below B w w') (hB : w.heap.size ≤ B) : InR w' gi n I := by
  obtain ⟨vs, h1, h2, h3⟩ := h
  refine ⟨vs, h1, h2.below hb (Nat.lt_of_lt_of_le h2.lt hB), fun j hj => ?_⟩
  obtain ⟨a, m, c, q1, q2⟩ := h3 j hj
  exact ⟨a, m, c, q1, q2.below hb hB⟩

theorem InR.at {w : World} {gi n : Nat} {I : Nat → List Nat} (h : InR w gi n I) {j : Nat} (hj : j < n) : ∃ a m c, w.cell? ⟨gi, j, none⟩ = some (.slice a m c) ∧ IRow w a m (ofN (I j)) := by
  obtain ⟨vs, h1, h2, h3⟩ := h
  obtain ⟨a, m, c, q1, q2⟩ := h3 j hj
  exact ⟨a, m, c, by rw [h2.cell j]; exact q1, q2⟩

/-- What the call owns can be read. -/
theorem IRow.ofOwns {w : World} {base n : Nat} {v : Value} {zs : List Int} (hn : (n : Int) ≤ 9223372036854775807) (h : w.ownsRow base 3 1 v n (zs.map (Value.int .i64))) :
    ∃ ao cap, v = .slice ao n cap ∧ IRow w ao n zs := by
  have h0 := h
  obtain ⟨hlen, hv⟩ := h
  have hl : zs.length = n := by simpa using hlen
  rcases hv with ⟨rfl, rfl⟩ | ⟨g, cap, cur, rfl, hg, hh, r⟩
  · exact ⟨none, 0, rfl, hl, hn, fun _ => rfl, .inl rfl⟩
  · refine ⟨some ⟨g, 0, none⟩, cap, rfl, hl, hn, (fun h => by cases h), .inr ⟨g, 0, rfl, ?_, fun k hk => ?_⟩⟩
    · exact (Array.getElem?_eq_some_iff.1 hh).1
    · have := h0.cellAt k (by omega)
      rw [Nat.zero_add, this]
      exact ints_at (by omega)

theorem InSt.done {w0 w : World} {gi n : Nat} {f : Nat → List Nat} (h : InSt w0 w gi n f) (hf : ∀ j, (f j).length ≤ 1048577) : InR w gi n f := by
  obtain ⟨vs, h1, h2, h3, _⟩ := h
  refine ⟨vs, h1, h2, fun j hj => ?_⟩
  obtain ⟨v, a, b, c⟩ := h3 j hj
  have := hf j
  obtain ⟨ao, cap, rfl, hr⟩ := IRow.ofOwns (by omega) b
  exact ⟨ao, _, cap, a, hr⟩

end Go.Proofs.Qxb6001441a
