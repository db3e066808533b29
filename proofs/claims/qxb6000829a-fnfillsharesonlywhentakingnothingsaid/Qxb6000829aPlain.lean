/-
  The plain part of seat b6000829a: what Fill and Estimate compute, on lists of integers. No Go in sight.
-/
namespace Go.Proofs.Qxb6000829a.Pl

/-- Entry k is taken from the other list. -/
def took (zs ys : List Int) (f k : Nat) : Bool :=
  decide (f ≤ k) && decide (k < zs.length) && decide (k < ys.length) && (zs.getD k 0 == -1) && !(ys.getD k 0 == -1)

/-- The list after the entries below k have been looked at. -/
def fillTo (zs ys : List Int) (f k : Nat) : List Int :=
  (List.range zs.length).map fun j => if j < k ∧ took zs ys f j = true then ys.getD j 0 else zs.getD j 0

theorem fillTo_length (zs ys : List Int) (f k : Nat) : (fillTo zs ys f k).length = zs.length := by simp [fillTo]

theorem fillTo_getD (zs ys : List Int) (f k j : Nat) (h : j < zs.length) :
    (fillTo zs ys f k).getD j 0 = if j < k ∧ took zs ys f j = true then ys.getD j 0 else zs.getD j 0 := by
  simp [fillTo, List.getD, h]

theorem getD_ext {a b : List Int} (hl : a.length = b.length) (h : ∀ j, j < a.length → a.getD j 0 = b.getD j 0) : a = b := by
  apply List.ext_getElem hl
  intro i h1 h2
  have := h i h1
  simpa [List.getD, h1, h2] using this

theorem fillTo_none (zs ys : List Int) (f k : Nat) (h : ∀ j, j < k → took zs ys f j = false) : fillTo zs ys f k = zs := by
  apply getD_ext (fillTo_length _ _ _ _)
  intro j hj
  rw [fillTo_length] at hj
  rw [fillTo_getD _ _ _ _ _ hj, if_neg]
  rintro ⟨a, b⟩
  rw [h j a] at b
  cases b

theorem fillTo_skip (zs ys : List Int) (f k : Nat) (h : took zs ys f k = false) : fillTo zs ys f (k + 1) = fillTo zs ys f k := by
  apply getD_ext (by simp [fillTo_length])
  intro j hj
  rw [fillTo_length] at hj
  rw [fillTo_getD _ _ _ _ _ hj, fillTo_getD _ _ _ _ _ hj]
  by_cases e : j = k
  · subst e; simp [h]
  · have : (j < k + 1) ↔ (j < k) := by omega
    simp [this]

theorem fillTo_take (zs ys : List Int) (f k : Nat) (h : took zs ys f k = true) (hk : k < zs.length) :
    fillTo zs ys f (k + 1) = (fillTo zs ys f k).set k (ys.getD k 0) := by
  apply getD_ext (by simp [fillTo_length])
  intro j hj
  rw [fillTo_length] at hj
  rw [fillTo_getD _ _ _ _ _ hj]
  by_cases e : j = k
  · subst e; simp [h, List.getD, fillTo_length, hk]
  · have e' : ¬ k = j := fun q => e q.symm
    have h1 : (j < k + 1) ↔ (j < k) := by omega
    have h2 := fillTo_getD zs ys f k j hj
    simp only [List.getD] at h2 ⊢
    rw [List.getElem?_set_ne e', h2]
    simp [h1]

/-- The estimate: known or not, and its value. -/
def known (zs : List Int) (d : Nat) : Bool := decide (d < zs.length) && !(zs.getD d 0 == -1)
def est (zs : List Int) (d : Nat) : Int := if known zs d = true then zs.getD d 0 else 0

/-- The whole result of Fill. -/
def fill (zs ys : List Int) (f : Nat) : List Int := fillTo zs ys f zs.length

theorem fill_length (zs ys : List Int) (f : Nat) : (fill zs ys f).length = zs.length := fillTo_length _ _ _ _

theorem fill_getD (zs ys : List Int) (f j : Nat) (h : j < zs.length) :
    (fill zs ys f).getD j 0 = if took zs ys f j = true then ys.getD j 0 else zs.getD j 0 := by
  unfold fill
  rw [fillTo_getD _ _ _ _ _ h]
  simp [h]

theorem took_parts {zs ys : List Int} {f k : Nat} (h : took zs ys f k = true) : f ≤ k ∧ k < zs.length ∧ k < ys.length ∧ zs.getD k 0 = -1 ∧ ys.getD k 0 ≠ -1 := by
  simp [took] at h ⊢
  obtain ⟨⟨⟨⟨a, b⟩, c⟩, d⟩, e⟩ := h
  exact ⟨a, b, c, d, e⟩

theorem took_mk {zs ys : List Int} {f k : Nat} (a : f ≤ k) (b : k < zs.length) (c : k < ys.length) (d : zs.getD k 0 = -1) (e : ys.getD k 0 ≠ -1) : took zs ys f k = true := by
  simp [took] at d e ⊢
  exact ⟨⟨⟨⟨a, b⟩, c⟩, d⟩, e⟩

theorem took_late {zs ys : List Int} {f k : Nat} (h : zs.length ≤ k ∨ ys.length ≤ k) : took zs ys f k = false := by
  cases e : took zs ys f k with
  | false => rfl
  | true => have := took_parts e; omega

theorem took_early {zs ys : List Int} {f k : Nat} (h : k < f) : took zs ys f k = false := by
  cases e : took zs ys f k with
  | false => rfl
  | true => have := took_parts e; omega

/-- Nothing is taken from k on: the list is done. -/
theorem fillTo_done (zs ys : List Int) (f k : Nat) (h : zs.length ≤ k ∨ ys.length ≤ k) : fillTo zs ys f k = fill zs ys f := by
  apply getD_ext (by simp [fillTo_length, fill_length])
  intro j hj
  rw [fillTo_length] at hj
  rw [fillTo_getD _ _ _ _ _ hj, fill_getD _ _ _ _ hj]
  by_cases e : j < k
  · simp [e]
  · rw [if_neg (by simp [e]), if_neg]
    intro t
    have := took_parts t
    omega

theorem known_true {zs : List Int} {d : Nat} (h : known zs d = true) : d < zs.length ∧ zs.getD d 0 ≠ -1 := by
  simp [known] at h ⊢
  exact h

theorem known_false {zs : List Int} {d : Nat} (h : known zs d = false) : zs.length ≤ d ∨ zs.getD d 0 = -1 := by
  simp [known] at h ⊢
  omega

/-- What c knows is kept. -/
theorem keeps {zs ys : List Int} {f d : Nat} (h : known zs d = true) : known (fill zs ys f) d = true ∧ est (fill zs ys f) d = est zs d := by
  obtain ⟨a, b⟩ := known_true h
  have t : took zs ys f d ≠ true := fun t => b (took_parts t).2.2.2.1
  have e := fill_getD zs ys f d a
  rw [if_neg t] at e
  have k : known (fill zs ys f) d = true := by
    unfold known
    rw [e, fill_length]
    exact h
  exact ⟨k, by unfold est; rw [if_pos k, if_pos h, e]⟩

/-- What c lacks is learnt where the other knows it. -/
theorem learns {zs ys : List Int} {f d : Nat} (h : known zs d = false) (a : d < zs.length) (b : f ≤ d) (o : known ys d = true) :
    known (fill zs ys f) d = true ∧ est (fill zs ys f) d = est ys d := by
  obtain ⟨c, n⟩ := known_true o
  have z : zs.getD d 0 = -1 := by rcases known_false h with q | q; omega; exact q
  have t : took zs ys f d = true := took_mk b a c z n
  have e := fill_getD zs ys f d a
  rw [if_pos t] at e
  have k : known (fill zs ys f) d = true := by
    unfold known at o ⊢
    rw [e, fill_length]
    simp only [Bool.and_eq_true] at o ⊢
    exact ⟨decide_eq_true a, o.2⟩
  exact ⟨k, by unfold est; rw [if_pos k, if_pos o, e]⟩

/-- Nothing else becomes known. -/
theorem nothing {zs ys : List Int} {f d : Nat} (h : known zs d = false) (o : ¬ (d < zs.length ∧ f ≤ d ∧ known ys d = true)) :
    known (fill zs ys f) d = false ∧ est (fill zs ys f) d = 0 := by
  have k : known (fill zs ys f) d = false := by
    cases e : known (fill zs ys f) d with
    | false => rfl
    | true =>
      exfalso
      obtain ⟨a, b⟩ := known_true e
      rw [fill_length] at a
      rw [fill_getD zs ys f d a] at b
      split at b
      · rename_i t
        obtain ⟨p1, p2, p3, p4, p5⟩ := took_parts t
        exact o ⟨a, p1, by simp [known] at p5 ⊢; exact ⟨p3, p5⟩⟩
      · rcases known_false h with q | q
        · omega
        · exact b q
  exact ⟨k, by unfold est; rw [if_neg (by rw [k]; simp)]⟩

end Go.Proofs.Qxb6000829a.Pl
