/-
  The plain part of seat b6001441a: the greedy cover on lists. No Go in sight.
-/
namespace Go.Proofs.Qxb6001441a.Pl

theorem getD_at (l : List Nat) (t : Nat) (h : t < l.length) : l.getD t 0 = l[t] := by
  simp only [List.getD, List.getElem?_eq_getElem h, Option.getD_some]

/-- Is person j in group i? -/
def has (M : List (List Nat)) (i j : Nat) : Bool := decide (j ∈ M.getD i [])

/-- Well-formed needs. -/
structure WF (M : List (List Nat)) (C : List Int) (n : Nat) : Prop where
  len : C.length = M.length
  cnt : ∀ i, i < M.length → 1 ≤ C.getD i 0 ∧ C.getD i 0 ≤ ((M.getD i []).length : Int)
  rng : ∀ i, i < M.length → ∀ p ∈ M.getD i [], p < n
  nod : ∀ i, i < M.length → (M.getD i []).Nodup

/-- The groups of person j among the first g. -/
def inOf (M : List (List Nat)) (g j : Nat) : List Nat := (List.range g).filter fun i => has M i j

theorem inOf_zero (M : List (List Nat)) (j : Nat) : inOf M 0 j = [] := rfl

theorem inOf_succ (M : List (List Nat)) (g j : Nat) : inOf M (g + 1) j = inOf M g j ++ (if has M g j = true then [g] else []) := by
  simp only [inOf, List.range_succ, List.filter_append, List.filter_cons, List.filter_nil]

theorem inOf_lt {M : List (List Nat)} {g j i : Nat} (h : i ∈ inOf M g j) : i < g ∧ has M i j = true := by
  simp only [inOf, List.mem_filter, List.mem_range] at h
  exact h

theorem inOf_length (M : List (List Nat)) (g j : Nat) : (inOf M g j).length ≤ g := by
  have := List.length_filter_le (fun i => has M i j) (List.range g)
  simpa [inOf] using this

theorem count_inOf (M : List (List Nat)) (g j i : Nat) : (inOf M g j).count i = if i < g ∧ has M i j = true then 1 else 0 := by
  induction g with
  | zero => simp [inOf_zero]
  | succ g ih =>
    rw [inOf_succ, List.count_append, ih]
    by_cases hg : i = g
    · subst hg
      by_cases hh : has M i j = true
      · simp [hh]
      · simp [hh]
    · have hlt : (i < g + 1 ∧ has M i j = true) ↔ (i < g ∧ has M i j = true) := by
        constructor
        · rintro ⟨a, b⟩; exact ⟨by omega, b⟩
        · rintro ⟨a, b⟩; exact ⟨by omega, b⟩
      have hz : List.count i (if has M g j = true then [g] else []) = 0 := by
        split
        · rw [List.count_eq_zero]; simpa using hg
        · rfl
      rw [hz, Nat.add_zero]
      simp only [hlt]

/-- Inside group i, the first t members looked at. -/
def inSt (M : List (List Nat)) (i t j : Nat) : List Nat := inOf M i j ++ (if j ∈ (M.getD i []).take t then [i] else [])

theorem inSt_start (M : List (List Nat)) (i j : Nat) : inSt M i 0 j = inOf M i j := by simp [inSt]

theorem inSt_end (M : List (List Nat)) (i j t : Nat) (h : (M.getD i []).length ≤ t) : inSt M i t j = inOf M (i + 1) j := by
  rw [inSt, inOf_succ, List.take_of_length_le h]
  simp only [has, decide_eq_true_eq]

theorem inSt_other (M : List (List Nat)) (i t j : Nat) (h : t < (M.getD i []).length) (hj : j ≠ (M.getD i []).getD t 0) : inSt M i (t + 1) j = inSt M i t j := by
  unfold inSt
  rw [List.take_succ_eq_append_getElem h]
  have hg := getD_at (M.getD i []) t h
  rw [hg] at hj
  simp only [List.mem_append, List.mem_singleton, hj, or_false]

theorem inSt_same (M : List (List Nat)) (i t : Nat) (h : t < (M.getD i []).length) (hn : (M.getD i []).Nodup) : inSt M i (t + 1) ((M.getD i []).getD t 0) = inSt M i t ((M.getD i []).getD t 0) ++ [i] := by
  unfold inSt
  have hg := getD_at (M.getD i []) t h
  rw [hg, List.take_succ_eq_append_getElem h]
  have hnot : (M.getD i [])[t] ∉ (M.getD i []).take t := by
    intro hm
    obtain ⟨s, hs, e⟩ := List.mem_take_iff_getElem.1 hm
    have hs' : s < (M.getD i []).length := by omega
    have := (List.getElem_inj hn (h₀ := hs') (h₁ := h)).1 e
    omega
  rw [if_neg hnot, if_pos (List.mem_append_right _ (List.mem_singleton.2 rfl)), List.append_nil]

theorem inSt_length (M : List (List Nat)) (i t j : Nat) : (inSt M i t j).length ≤ i + 1 := by
  unfold inSt
  have := inOf_length M i j
  rw [List.length_append]
  split
  · simp; omega
  · simp; omega

/-- Add d at each index of l. -/
def adj (d : Int) (c : List Int) (l : List Nat) : List Int := l.foldl (fun c i => c.set i (c.getD i 0 + d)) c

theorem adj_nil (d : Int) (c : List Int) : adj d c [] = c := rfl

theorem adj_snoc (d : Int) (c : List Int) (l : List Nat) (i : Nat) : adj d c (l ++ [i]) = (adj d c l).set i ((adj d c l).getD i 0 + d) := by
  simp [adj, List.foldl_append]

theorem adj_length (d : Int) (l : List Nat) : ∀ c : List Int, (adj d c l).length = c.length := by
  induction l with
  | nil => intro c; rfl
  | cons a r ih => intro c; simp only [adj, List.foldl_cons]; have := ih (c.set a (c.getD a 0 + d)); simp only [adj] at this; rw [this, List.length_set]

theorem getD_set (c : List Int) (a i : Nat) (v : Int) (h : i < c.length) : (c.set a v).getD i 0 = if a = i then v else c.getD i 0 := by
  by_cases e : a = i
  · subst e; simp [List.getD, h]
  · simp only [List.getD, List.getElem?_set_ne e, if_neg e]

theorem adj_at (d : Int) (l : List Nat) : ∀ (c : List Int) (i : Nat), i < c.length → (adj d c l).getD i 0 = c.getD i 0 + d * (l.count i : Int) := by
  induction l with
  | nil => intro c i _; simp [adj_nil]
  | cons a r ih =>
    intro c i h
    have h1 := ih (c.set a (c.getD a 0 + d)) i (by simpa using h)
    have h2 : adj d c (a :: r) = adj d (c.set a (c.getD a 0 + d)) r := rfl
    rw [h2, h1, getD_set c a i _ h, List.count_cons]
    by_cases e : a = i
    · subst e
      simp only [if_true, beq_self_eq_true, Int.natCast_add, Int.natCast_one, Int.mul_add, Int.mul_one]
      omega
    · have : (a == i) = false := by simpa using e
      simp only [if_neg e, this]
      simp

theorem adj_take (d : Int) (c : List Int) (l : List Nat) (t : Nat) (h : t < l.length) :
    adj d c (l.take (t + 1)) = (adj d c (l.take t)).set (l.getD t 0) ((adj d c (l.take t)).getD (l.getD t 0) 0 + d) := by
  have hg := getD_at l t h
  rw [List.take_succ_eq_append_getElem h, adj_snoc, hg]

/-- How many of l are in group i. -/
def cv (M : List (List Nat)) (l : List Nat) (i : Nat) : Nat := l.countP fun j => has M i j

theorem cv_append (M : List (List Nat)) (a b : List Nat) (i : Nat) : cv M (a ++ b) i = cv M a i + cv M b i := by simp [cv, List.countP_append]

theorem cv_one (M : List (List Nat)) (j i : Nat) : cv M [j] i = if has M i j = true then 1 else 0 := by
  simp only [cv, List.countP_cons, List.countP_nil]
  omega

theorem cv_le (M : List (List Nat)) (l : List Nat) (i : Nat) : cv M l i ≤ l.length := List.countP_le_length

/-- What 'covered' holds. -/
def CovIs (M : List (List Nat)) (l : List Nat) (c : List Int) : Prop := c.length = M.length ∧ ∀ i, i < M.length → c.getD i 0 = (cv M l i : Int)

theorem CovIs.add {M : List (List Nat)} {l : List Nat} {c : List Int} (h : CovIs M l c) (j : Nat) : CovIs M (l ++ [j]) (adj 1 c (inOf M M.length j)) := by
  refine ⟨by rw [adj_length]; exact h.1, fun i hi => ?_⟩
  rw [adj_at _ _ _ _ (by rw [h.1]; exact hi), h.2 i hi, count_inOf, cv_append, cv_one]
  by_cases q : has M i j = true
  · simp [q, hi]
  · simp [q]

theorem CovIs.sub {M : List (List Nat)} {a b : List Nat} {j : Nat} {c : List Int} (h : CovIs M (a ++ j :: b) c) : CovIs M (a ++ b) (adj (-1) c (inOf M M.length j)) := by
  refine ⟨by rw [adj_length]; exact h.1, fun i hi => ?_⟩
  have e : a ++ j :: b = a ++ ([j] ++ b) := rfl
  rw [adj_at _ _ _ _ (by rw [h.1]; exact hi), h.2 i hi, count_inOf, e, cv_append, cv_append, cv_one, cv_append]
  cases q : has M i j with
  | true => simp [hi]; omega
  | false => simp

/-- How many groups still ask. -/
def open_ (C c : List Int) (g : Nat) : Nat := (List.range g).countP fun i => decide (c.getD i 0 < C.getD i 0)

theorem countP_one (p q : Nat → Bool) (i0 : Nat) (h : ∀ i, i ≠ i0 → p i = q i) : ∀ g, i0 < g → (List.range g).countP p + (if q i0 = true then 1 else 0) = (List.range g).countP q + (if p i0 = true then 1 else 0) := by
  intro g
  induction g with
  | zero => intro h0; omega
  | succ g ih =>
    intro hg
    rw [List.range_succ, List.countP_append, List.countP_append]
    simp only [List.countP_cons, List.countP_nil, Nat.zero_add]
    by_cases e : i0 = g
    · subst e
      have hsame : (List.range i0).countP p = (List.range i0).countP q := by
        apply List.countP_congr
        intro i hi
        have : i < i0 := by simpa using hi
        rw [h i (by omega)]
      omega
    · have h1 := ih (by omega)
      have h2 := h g (by omega)
      rw [h2]
      omega

theorem open_step (C c : List Int) (g i0 : Nat) (h : i0 < g) (hl : c.length = g) : (open_ C (c.set i0 (c.getD i0 0 + 1)) g : Int) = (open_ C c g : Int) - (if c.getD i0 0 + 1 = C.getD i0 0 then 1 else 0) := by
  have h1 := countP_one (fun i => decide ((c.set i0 (c.getD i0 0 + 1)).getD i 0 < C.getD i 0)) (fun i => decide (c.getD i 0 < C.getD i 0)) i0 (fun i hi => by
    by_cases hlt : i < c.length
    · rw [getD_set c i0 i _ hlt, if_neg (fun e => hi e.symm)]
    · have e1 : (c.set i0 (c.getD i0 0 + 1)).getD i 0 = 0 := by simp only [List.getD]; rw [List.getElem?_eq_none (by simpa using Nat.le_of_not_lt hlt)]; rfl
      have e2 : c.getD i 0 = 0 := by simp only [List.getD]; rw [List.getElem?_eq_none (Nat.le_of_not_lt hlt)]; rfl
      rw [e1, e2]) g h
  have h2 : (c.set i0 (c.getD i0 0 + 1)).getD i0 0 = c.getD i0 0 + 1 := by rw [getD_set c i0 i0 _ (by omega), if_pos rfl]
  simp only [h2, decide_eq_true_eq] at h1
  unfold open_
  by_cases q : c.getD i0 0 + 1 = C.getD i0 0
  · rw [if_pos q]
    rw [if_pos (by omega), if_neg (by omega)] at h1
    omega
  · rw [if_neg q]
    by_cases q2 : c.getD i0 0 < C.getD i0 0
    · rw [if_pos q2, if_pos (by omega)] at h1
      omega
    · rw [if_neg q2, if_neg (by omega)] at h1
      omega

theorem open_pos {C c : List Int} {g : Nat} (h : 0 < open_ C c g) : ∃ i, i < g ∧ c.getD i 0 < C.getD i 0 := by
  unfold open_ at h
  rw [List.countP_pos_iff] at h
  obtain ⟨i, hi, hp⟩ := h
  exact ⟨i, by simpa using hi, by simpa using hp⟩

theorem open_none {C c : List Int} {g : Nat} (h : open_ C c g = 0) : ∀ i, i < g → C.getD i 0 ≤ c.getD i 0 := by
  intro i hi
  unfold open_ at h
  rw [List.countP_eq_zero] at h
  have := h i (by simpa using hi)
  simp at this
  simpa [List.getD] using this

theorem open_le (C c : List Int) (g : Nat) : open_ C c g ≤ g := by
  have := List.countP_le_length (p := fun i => decide (c.getD i 0 < C.getD i 0)) (l := List.range g)
  simpa [open_] using this

/-- Of two lists without doubles: as many of one in the other as of the other in the one. -/
theorem countP_or (p q : Nat → Bool) (l : List Nat) (h : ∀ x ∈ l, ¬ (p x = true ∧ q x = true)) : l.countP (fun x => p x || q x) = l.countP p + l.countP q := by
  induction l with
  | nil => rfl
  | cons a r ih =>
    have := ih (fun x hx => h x (List.mem_cons_of_mem _ hx))
    have ha := h a (List.mem_cons_self ..)
    simp only [List.countP_cons, this]
    cases hp : p a <;> cases hq : q a <;> simp_all <;> omega

theorem countP_eq_one (b : List Nat) (hb : b.Nodup) (x : Nat) : b.countP (fun y => decide (y = x)) = if x ∈ b then 1 else 0 := by
  induction b with
  | nil => simp
  | cons a r ih =>
    rw [List.nodup_cons] at hb
    have h1 := ih hb.2
    rw [List.countP_cons, h1]
    by_cases e : a = x
    · subst e
      simp [hb.1]
    · have e' : ¬ x = a := fun q => e q.symm
      simp [e, e']

theorem meet_comm (a b : List Nat) (ha : a.Nodup) (hb : b.Nodup) : a.countP (fun x => decide (x ∈ b)) = b.countP (fun y => decide (y ∈ a)) := by
  induction a with
  | nil => simp
  | cons x r ih =>
    rw [List.nodup_cons] at ha
    have h1 := ih ha.2
    have h2 : b.countP (fun y => decide (y ∈ x :: r)) = b.countP (fun y => decide (y = x) || decide (y ∈ r)) := by
      apply List.countP_congr
      intro y _
      simp
    rw [h2, countP_or _ _ _ (fun y _ => by
      simp only [decide_eq_true_eq]
      rintro ⟨rfl, h⟩
      exact ha.1 h), countP_eq_one b hb x, List.countP_cons, h1]
    simp only [decide_eq_true_eq]
    omega

/-- While a group asks there is someone untaken in it. -/
theorem someone {M : List (List Nat)} {C c : List Int} {n : Nat} {l : List Nat} (wf : WF M C n) (hc : CovIs M l c) (hn : l.Nodup) {i : Nat} (hi : i < M.length) (hlt : c.getD i 0 < C.getD i 0) :
    ∃ p, p < n ∧ p ∉ l ∧ i ∈ inOf M M.length p := by
  have h1 := hc.2 i hi
  have h2 := (wf.cnt i hi).2
  have h3 : cv M l i < (M.getD i []).length := by omega
  have h4 : cv M l i = (M.getD i []).countP (fun x => decide (x ∈ l)) := by
    unfold cv has
    exact meet_comm l (M.getD i []) hn (wf.nod i hi)
  rw [h4] at h3
  have h5 : ¬ ∀ x ∈ M.getD i [], decide (x ∈ l) = true := by
    intro hall
    have := (List.countP_eq_length (p := fun x => decide (x ∈ l)) (l := M.getD i [])).2 hall
    omega
  have h6 : ∃ p, p ∈ M.getD i [] ∧ p ∉ l := by
    apply Classical.byContradiction
    intro hno
    exact h5 (fun x hx => by
      apply Classical.byContradiction
      intro hx2
      exact hno ⟨x, hx, by simpa using hx2⟩)
  obtain ⟨p, hp1, hp2⟩ := h6
  refine ⟨p, wf.rng i hi p hp1, hp2, ?_⟩
  simp only [inOf, List.mem_filter, List.mem_range, has, decide_eq_true_eq]
  exact ⟨hi, hp1⟩

/-- The gain of taking someone whose groups are l. -/
def gain (C c : List Int) (l : List Nat) : Nat := l.countP fun i => decide (c.getD i 0 < C.getD i 0)

theorem gain_pos {C c : List Int} {l : List Nat} {i : Nat} (h : i ∈ l) (hlt : c.getD i 0 < C.getD i 0) : 0 < gain C c l := by
  unfold gain
  rw [List.countP_pos_iff]
  exact ⟨i, h, by simpa using hlt⟩

theorem gain_take (C c : List Int) (l : List Nat) (t : Nat) (h : t < l.length) : gain C c (l.take (t + 1)) = gain C c (l.take t) + (if c.getD (l.getD t 0) 0 < C.getD (l.getD t 0) 0 then 1 else 0) := by
  have hg := getD_at l t h
  rw [List.take_succ_eq_append_getElem h, gain, List.countP_append, hg]
  simp only [gain, List.countP_cons, List.countP_nil, Nat.zero_add, decide_eq_true_eq]

theorem gain_le (C c : List Int) (l : List Nat) : gain C c l ≤ l.length := List.countP_le_length

/-- Is a person needed? -/
def need (C c : List Int) (l : List Nat) : Bool := l.any fun i => decide (c.getD i 0 ≤ C.getD i 0)

theorem need_take (C c : List Int) (l : List Nat) (t : Nat) (h : t < l.length) : need C c (l.take (t + 1)) = (need C c (l.take t) || decide (c.getD (l.getD t 0) 0 ≤ C.getD (l.getD t 0) 0)) := by
  have hg := getD_at l t h
  rw [List.take_succ_eq_append_getElem h, need, List.any_append, hg]
  simp [need]

/-- Dropping someone who is not needed leaves every need met. -/
theorem drop_ok {M : List (List Nat)} {C c : List Int} {j : Nat} (h : ∀ i, i < M.length → C.getD i 0 ≤ c.getD i 0) (hl : c.length = M.length) (hn : need C c (inOf M M.length j) = false) :
    ∀ i, i < M.length → C.getD i 0 ≤ (adj (-1) c (inOf M M.length j)).getD i 0 := by
  intro i hi
  rw [adj_at _ _ _ _ (by rw [hl]; exact hi), count_inOf]
  have h1 := h i hi
  by_cases q : has M i j = true
  · have hm : i ∈ inOf M M.length j := by
      simp only [inOf, List.mem_filter, List.mem_range]
      exact ⟨hi, q⟩
    unfold need at hn
    rw [List.any_eq_false] at hn
    have := hn i hm
    simp only [decide_eq_true_eq] at this
    simp only [q, hi, and_self, if_true]
    omega
  · rw [if_neg (fun e => q e.2)]
    omega

end Go.Proofs.Qxb6001441a.Pl
