/-
  Memory in the third phase of greedyCover (30): 'kept := chosen[:0]' shares the array of 'chosen'; the sort.
-/
import Derived.Test.Qxb6001441aMem2
import Derived.Test.Qxb6001441aShelf
import Derived.Sort.OwnSortedInts
namespace Go.Proofs.Qxb6001441a
open Go.RowKit
set_option linter.unusedVariables false

/-- 'append' within the capacity, the whole block known: nothing else turns. -/
theorem wpList_append_exact {P : Program} (w : World) {ops : Array Oper} {rest : List Oper} {o : Oper} {a : Act} {Q : Exit → Act → World → Prop}
    (hgd : o.guard = none) (s x : Operand) (t : TypeId) (hop : o.op = Op.call { callee := Callee.builtin Builtin.append, args := #[s, x], argTypes := #[t, t] })
    (e : TypeId) (i : TypeInfo) (h1 : P.underlying t = some (.slice e)) (h2 : P.info? e = some i) (h4 : i.size = 1)
    (g k cap : Nat) (vs : List Value) (hs : a.eval s = .slice (some ⟨g, 0, none⟩) k cap) (hblk : Blk w g e vs) (ad : Addr) (c : Nat) (u : Value) (hx : a.eval x = .slice (some ad) 1 c)
    (hc : ∀ j y, [u][j]? = some y → w.cell? (ad.add j) = some y) (h1c : u.oneCell' = true) (b1 : k + 1 ≤ cap) (b2 : k + 1 ≤ vs.length)
    (hK : ∀ w', Blk w' g e (vs.set k u) → w.grownBy w' (some g) → wpList P ops Q rest (a.put o.dst (.slice (some ⟨g, 0, none⟩) (k + 1) cap)) w') :
    wpList P ops Q (o :: rest) a w := by
  refine wpList_plain hgd fun K hK' => ?_
  have hg : w.heap[g]? = some (.cells vs.toArray e (0, 0)) := hblk
  have hrun := run_append_room (P := P) w t o.type e i h1 h2 g k cap vs.toArray hg ad 1 c [u] (by simp [h4]) hc (fun y hy => by simp at hy; subst hy; exact h1c) b1 (by simp [h4]; omega)
  unfold Oper.wp
  simp [execOp, hop, resolve, invoke, builtin, hs, hx, hrun, Result.andThen]
  refine hK' _ _ (hK _ ?_ ?_)
  · unfold Blk
    rw [setRow_heap w g vs.toArray _ e _ hg]
    congr 2
    rw [List.set_eq_take_append_cons_drop, if_pos (by omega), h4, Nat.mul_one]
  · exact ⟨rfl, rfl, rfl, by simp, fun j _ hj => setRow_other w g j _ (fun q => hj (by rw [q]))⟩

/-- 'covered' at gc; the array of 'chosen' at g: 'kept' at its head, the rest of 'chosen' from t on. -/
structure P3 (w1 wr : World) (gc g cap : Nat) (ch : List Nat) (t : Nat) (kept : List Nat) (c : List Int) : Prop where
  bel : Below w1.heap.size w1 wr
  gcl : w1.heap.size ≤ gc
  gl : w1.heap.size ≤ g
  gne : g ≠ gc
  cov : Blk wr gc 3 (c.map (Value.int .i64))
  row : ∃ vs : List Value, vs.length = cap ∧ Blk wr g 3 vs ∧ vs.take kept.length = (ofN kept).map (Value.int .i64) ∧ ∀ s, t ≤ s → s < ch.length → vs[s]? = some (.int .i64 (ch.getD s 0 : Nat))
  kl : kept.length ≤ t
  tl : t ≤ ch.length
  lc : ch.length ≤ cap

theorem P3.drewN {w1 wr : World} {gc g cap : Nat} {ch : List Nat} {t : Nat} {kept : List Nat} {c : List Int} (h : P3 w1 wr gc g cap ch t kept c) (q : Nat) : P3 w1 (wr.drewN q) gc g cap ch t kept c :=
  ⟨below_drawn h.bel q, h.gcl, h.gl, h.gne, h.cov, h.row, h.kl, h.tl, h.lc⟩

theorem P3.start {w1 wr : World} {gc gt n g cap : Nat} {ch : List Nat} {c : List Int} (h : P2 w1 wr gc gt n ch c (.slice (some ⟨g, 0, none⟩) ch.length cap)) : P3 w1 wr gc g cap ch 0 [] c := by
  have hown := h.own
  rcases hown.2 with ⟨h', _⟩ | ⟨g', cap', cur, h', hb, hg, hnc, hcm, hcs, htake⟩
  · simp at h'
  · simp only [Value.slice.injEq, Option.some.injEq, Addr.mk.injEq, and_true, true_and] at h'
    obtain ⟨rfl, rfl⟩ := h'
    have hgne : g ≠ gc := fun e => h.vgc (by rw [e]; rfl)
    refine ⟨h.bel, h.gcl, hb, hgne, h.cov, ⟨cur.toList, by rw [Array.length_toList, hcs, Nat.mul_one], by unfold Blk; rw [hg], by simp [ofN], ?_⟩, Nat.le_refl _, Nat.zero_le _, hnc⟩
    intro s _ hs
    have h1 : (cur.toList.take (ch.length * 1))[s]? = ((ofN ch).map (Value.int .i64))[s]? := by rw [htake]
    rw [List.getElem?_take_of_lt (by omega), ints_at (by rw [ofN_length]; exact hs), ofN_at ch s hs] at h1
    exact h1

/-- A store into 'covered'. -/
theorem P3.bump {w1 wr : World} {gc g cap : Nat} {ch : List Nat} {t : Nat} {kept : List Nat} {c : List Int} (h : P3 w1 wr gc g cap ch t kept c) (i : Nat) (x : Int) : P3 w1 (wr.setCell ⟨gc, i, none⟩ (.int .i64 x)) gc g cap ch t kept (c.set i x) := by
  obtain ⟨vs, h1, h2, h3, h4⟩ := h.row
  refine ⟨h.bel.setCell h.gcl _, h.gcl, h.gl, h.gne, ?_, ⟨vs, h1, h2.other h.gne _ _, h3, h4⟩, h.kl, h.tl, h.lc⟩
  rw [List.map_set]
  exact h.cov.store i _

/-- Someone is dropped. -/
theorem P3.skip {w1 wr : World} {gc g cap : Nat} {ch : List Nat} {t : Nat} {kept : List Nat} {c : List Int} (h : P3 w1 wr gc g cap ch t kept c) (ht : t < ch.length) : P3 w1 wr gc g cap ch (t + 1) kept c := by
  obtain ⟨vs, h1, h2, h3, h4⟩ := h.row
  exact ⟨h.bel, h.gcl, h.gl, h.gne, h.cov, ⟨vs, h1, h2, h3, fun s hs => h4 s (by omega)⟩, by have := h.kl; omega, by omega, h.lc⟩

/-- Someone is kept. -/
theorem P3.keep {w1 wr w5 : World} {o : Obj} {gc g cap : Nat} {ch : List Nat} {t j : Nat} {kept : List Nat} {c : List Int} {vs : List Value} (h : P3 w1 wr gc g cap ch t kept c) (ht : t < ch.length)
    (h1 : vs.length = cap) (h2 : Blk wr g 3 vs) (h3 : vs.take kept.length = (ofN kept).map (Value.int .i64)) (h4 : ∀ s, t ≤ s → s < ch.length → vs[s]? = some (.int .i64 (ch.getD s 0 : Nat)))
    (hblk : Blk w5 g 3 (vs.set kept.length (.int .i64 (j : Int)))) (hgrow : (wr.alloc o).grownBy w5 (some g)) : P3 w1 w5 gc g cap ch (t + 1) (kept ++ [j]) c := by
  have hkl := h.kl
  have hlc := h.lc
  have hbs := h.bel.size
  refine ⟨(h.bel.alloc hbs o).grown hgrow (by simp; omega) (fun k hk => by cases hk; exact h.gl), h.gcl, h.gl, h.gne, (h.cov.alloc o).grown hgrow (fun e => h.gne (Option.some.inj e).symm), ⟨_, by rw [List.length_set]; exact h1, hblk, ?_, ?_⟩, by rw [List.length_append]; simp; omega, by omega, h.lc⟩
  · rw [List.length_append, ofN_append, List.map_append, ← h3]
    have hl : kept.length < (vs.set kept.length (Value.int .i64 (j : Int))).length := by rw [List.length_set]; omega
    show (vs.set kept.length (Value.int .i64 (j : Int))).take (kept.length + 1) = _
    rw [List.take_succ_eq_append_getElem hl, List.getElem_set_self, List.take_set_of_le (Nat.le_refl _)]
    simp [ofN]
  · intro s hs hsl
    rw [List.getElem?_set_ne (by omega)]
    exact h4 s (by omega) hsl

/-! ### the sort, on lists -/
theorem sorted_nat (kept : List Nat) (hn : kept.Nodup) :
    ∃ l : List Nat, ofN l = (ofN kept).mergeSort (fun x y => decide (x ≤ y)) ∧ l.Perm kept ∧ l.Pairwise (· < ·) := by
  have hperm : ((ofN kept).mergeSort (fun x y => decide (x ≤ y))).Perm (ofN kept) := List.mergeSort_perm _ _
  have hsort : ((ofN kept).mergeSort (fun x y => decide (x ≤ y))).Pairwise (fun x y => decide (x ≤ y) = true) :=
    List.pairwise_mergeSort (fun a b c h1 h2 => by simp only [decide_eq_true_eq] at h1 h2 ⊢; omega) (fun a b => by simp only [Bool.or_eq_true, decide_eq_true_eq]; omega) _
  generalize (ofN kept).mergeSort (fun x y => decide (x ≤ y)) = S at *
  have hpos : ∀ x ∈ S, 0 ≤ x := by
    intro x hx
    have := hperm.mem_iff.1 hx
    simp only [ofN, List.mem_map] at this
    obtain ⟨k, _, rfl⟩ := this
    omega
  have e1 : ofN (S.map Int.toNat) = S := by
    unfold ofN
    rw [List.map_map]
    have : S.map ((fun (k : Nat) => (k : Int)) ∘ Int.toNat) = S.map id := by
      apply List.map_congr_left
      intro x hx
      have := hpos x hx
      simp only [Function.comp, id]
      omega
    rw [this, List.map_id]
  have hp2 : (S.map Int.toNat).Perm kept := by
    have := hperm.map Int.toNat
    have e2 : (ofN kept).map Int.toNat = kept := by
      unfold ofN
      rw [List.map_map]
      have : kept.map (Int.toNat ∘ fun (k : Nat) => (k : Int)) = kept.map id := by
        apply List.map_congr_left
        intro x _
        simp only [Function.comp, id]
        omega
      rw [this, List.map_id]
    rw [e2] at this
    exact this
  refine ⟨S.map Int.toNat, e1, hp2, ?_⟩
  have hnd : (S.map Int.toNat).Nodup := hp2.nodup_iff.2 hn
  rw [List.pairwise_map]
  rw [List.Nodup, List.pairwise_map] at hnd
  rw [List.pairwise_iff_getElem] at hsort hnd ⊢
  intro i j hi hj hij
  have h1 := hpos _ (List.getElem_mem hi)
  have h2 := hpos _ (List.getElem_mem hj)
  have h3 : S[i] ≤ S[j] := by simpa using hsort i j hi hj hij
  have h4 := hnd i j hi hj hij
  omega

theorem cv_perm {M : List (List Nat)} {a b : List Nat} (h : a.Perm b) (i : Nat) : Pl.cv M a i = Pl.cv M b i := h.countP_eq _

end Go.Proofs.Qxb6001441a
