/-
  Memory in the second and third phase of greedyCover (30).
-/
import Derived.Test.Qxb6001441aMem
namespace Go.Proofs.Qxb6001441a
open Go.RowKit
set_option linter.unusedVariables false

def lenOf : Value → Nat
  | .slice _ n _ => n
  | _ => 0

/-- 'covered' at block gc, 'taken' at block gt, 'chosen' in v. -/
structure P2 (w1 wr : World) (gc gt n : Nat) (ch : List Nat) (c : List Int) (v : Value) : Prop where
  bel : Below w1.heap.size w1 wr
  gcl : w1.heap.size ≤ gc
  gtl : w1.heap.size ≤ gt
  gne : gc ≠ gt
  cov : Blk wr gc 3 (c.map (Value.int .i64))
  tak : ∃ bs, Blk wr gt 4 (bs.map Value.bool) ∧ Marks n ch bs
  own : wr.ownsRow w1.heap.size 3 1 v ch.length ((ofN ch).map (Value.int .i64))
  vgc : v.ownBlock ≠ some gc
  vgt : v.ownBlock ≠ some gt
  vnil : ch = [] → v = .slice none 0 0

theorem P2.drewN {w1 wr : World} {gc gt n : Nat} {ch : List Nat} {c : List Int} {v : Value} (h : P2 w1 wr gc gt n ch c v) (q : Nat) : P2 w1 (wr.drewN q) gc gt n ch c v :=
  ⟨below_drawn h.bel q, h.gcl, h.gtl, h.gne, h.cov, h.tak, h.own, h.vgc, h.vgt, h.vnil⟩

theorem lenOf_owns {w : World} {base n : Nat} {v : Value} {xs : List Value} (h : w.ownsRow base 3 1 v n xs) : lenOf v = n := by
  rcases h.2 with ⟨rfl, rfl⟩ | ⟨g, cap, cur, rfl, _⟩
  · rfl
  · rfl

/-- A store into 'covered'. -/
theorem P2.bump {w1 wr : World} {gc gt n : Nat} {ch : List Nat} {c : List Int} {v : Value} (h : P2 w1 wr gc gt n ch c v) (i : Nat) (x : Int) : P2 w1 (wr.setCell ⟨gc, i, none⟩ (.int .i64 x)) gc gt n ch (c.set i x) v := by
  obtain ⟨bs, hb1, hb2⟩ := h.tak
  refine ⟨h.bel.setCell h.gcl _, h.gcl, h.gtl, h.gne, ?_, ⟨bs, hb1.other (fun e => h.gne e.symm) _ _, hb2⟩, ?_, h.vgc, h.vgt, h.vnil⟩
  · rw [List.map_set]
    exact h.cov.store i _
  · exact h.own.kept (grownBy_setCell wr gc i _) (.inr h.vgc)

/-- Someone is chosen: the append, and the mark. -/
theorem P2.take {w1 wr w5 : World} {o : Obj} {gc gt n p g cap : Nat} {ch : List Nat} {c : List Int} {v : Value} (h : P2 w1 wr gc gt n ch c v) (hp : p < n)
    (hown : w5.ownsRow w1.heap.size 3 1 (.slice (some ⟨g, 0, none⟩) (ch.length + 1) cap) (ch.length + 1) ((ofN ch).map (Value.int .i64) ++ [.int .i64 (p : Int)]))
    (hgrow : (wr.alloc o).grownBy w5 v.ownBlock) (hat : v.ownBlock = some g ∨ g = wr.heap.size + 1) :
    (∃ bs : List Bool, bs.length = n ∧ Blk w5 gt 4 (bs.map Value.bool)) ∧ Below w1.heap.size w1 w5 ∧ P2 w1 (w5.setCell ⟨gt, p, none⟩ (.bool true)) gc gt n (ch ++ [p]) c (.slice (some ⟨g, 0, none⟩) (ch.length + 1) cap) := by
  obtain ⟨bs, hb1, hb2⟩ := h.tak
  have l1 := h.cov.lt
  have l2 := hb1.lt
  have ggc : g ≠ gc := by
    rcases hat with q | q
    · intro e; rw [e] at q; exact h.vgc q
    · omega
  have ggt : g ≠ gt := by
    rcases hat with q | q
    · intro e; rw [e] at q; exact h.vgt q
    · omega
  have hcov : Blk w5 gc 3 (c.map (Value.int .i64)) := (h.cov.alloc o).grown hgrow (fun e => h.vgc e.symm)
  have htak : Blk w5 gt 4 (bs.map Value.bool) := (hb1.alloc o).grown hgrow (fun e => h.vgt e.symm)
  have hbel : Below w1.heap.size w1 w5 := (h.bel.alloc h.bel.size o).grown hgrow (by simp; have := h.bel.size; omega) (fun k hk => (h.own.lt k hk).1)
  refine ⟨⟨bs, hb2.1, htak⟩, hbel, hbel.setCell h.gtl _, h.gcl, h.gtl, h.gne, hcov.other h.gne _ _, ⟨bs.set p true, ?_, hb2.step p hp⟩, ?_, ?_, ?_, ?_⟩
  · rw [List.map_set]
    exact htak.store p _
  · have h1 := hown.kept (grownBy_setCell w5 gt p (.bool true)) (.inr (by simp [Value.ownBlock]; exact ggt))
    rw [ofN_append, List.map_append, List.length_append]
    exact h1
  · simp [Value.ownBlock]; exact ggc
  · simp [Value.ownBlock]; exact ggt
  · intro e; simp at e

/-- The search for the best: nobody yet, or somebody untaken. -/
def Best (C c : List Int) (I : Nat → List Nat) (ch : List Nat) (n j : Nat) (be bg : Value) : Prop :=
  (be = .int .i64 (-1) ∧ bg = .int .i64 0 ∧ ∀ j', j' < j → j' ∈ ch ∨ Pl.gain C c (I j') = 0) ∨
  ∃ p z : Nat, be = .int .i64 p ∧ bg = .int .i64 z ∧ p < n ∧ p ∉ ch ∧ 0 < z ∧ z ≤ 1048577

theorem Best.skip {C c : List Int} {I : Nat → List Nat} {ch : List Nat} {n j : Nat} {be bg : Value} (h : Best C c I ch n j be bg) (hj : j ∈ ch ∨ Pl.gain C c (I j) = 0) : Best C c I ch n (j + 1) be bg := by
  rcases h with ⟨a, b, d⟩ | h
  · refine .inl ⟨a, b, fun j' hj' => ?_⟩
    by_cases e : j' = j
    · subst e; exact hj
    · exact d j' (by omega)
  · exact .inr h

theorem Best.stay {C c : List Int} {I : Nat → List Nat} {ch : List Nat} {n j p z : Nat} (hp : p < n) (hc : p ∉ ch) (hz : 0 < z) (hz2 : z ≤ 1048577) : Best C c I ch n j (.int .i64 p) (.int .i64 z) :=
  .inr ⟨p, z, rfl, rfl, hp, hc, hz, hz2⟩

/-- A list without doubles of numbers below n is no longer than n. -/
theorem length_le_of_nodup (l : List Nat) (n : Nat) (h : l.Nodup) (hl : ∀ p ∈ l, p < n) : l.length ≤ n := by
  have h1 : l.countP (fun x => decide (x ∈ List.range n)) = l.length := List.countP_eq_length.2 (fun x hx => by simpa using hl x hx)
  have h2 := Pl.meet_comm l (List.range n) h List.nodup_range
  have h3 : (List.range n).countP (fun y => decide (y ∈ l)) ≤ (List.range n).length := List.countP_le_length
  rw [List.length_range] at h3
  omega

end Go.Proofs.Qxb6001441a
