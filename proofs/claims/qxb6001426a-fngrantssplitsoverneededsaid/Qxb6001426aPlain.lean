/-
  The plain part of seat b6001426a: byte counts, and what 'grants' computes, on lists. No Go in sight.
-/
namespace Go.Proofs.Qxb6001426a.Pl

abbrev Strs := List ByteArray

/-- The bytes of a slice of strings, unbounded. -/
def tot : Strs → Nat
  | [] => 24
  | s :: r => tot r + (16 + s.size)

theorem tot_append (a b : Strs) : tot (a ++ b) + 24 = tot a + tot b := by
  induction a with
  | nil => simp [tot]; omega
  | cons s r ih => simp only [List.cons_append, tot]; omega

theorem tot_snoc (a : Strs) (s : ByteArray) : tot (a ++ [s]) = tot a + (16 + s.size) := by
  have := tot_append a [s]
  simp only [tot] at this
  omega

theorem tot_ge (a : Strs) : 24 + 16 * a.length ≤ tot a := by
  induction a with
  | nil => simp [tot]
  | cons s r ih => simp only [tot, List.length_cons]; omega

theorem take_snoc {α : Type} (l : List α) (k : Nat) (d : α) (h : k < l.length) : l.take (k + 1) = l.take k ++ [l.getD k d] := by
  rw [List.take_succ_eq_append_getElem h]
  simp [List.getD, h]

theorem tot_take (ss : Strs) (k : Nat) (h : k < ss.length) : tot (ss.take (k + 1)) = tot (ss.take k) + (16 + (ss.getD k ByteArray.empty).size) := by
  rw [take_snoc ss k ByteArray.empty h, tot_snoc]

theorem tot_take_le (ss : Strs) (k : Nat) : tot (ss.take k) ≤ tot ss := by
  have h := tot_append (ss.take k) (ss.drop k)
  rw [List.take_append_drop] at h
  have := tot_ge (ss.drop k)
  omega

def sb (ss : Strs) : Nat := if tot ss ≤ 1048576 then tot ss else 1048577

theorem sb_big (ss : Strs) (k : Nat) (h : 1048576 < tot (ss.take k)) : sb ss = 1048577 := by
  have := tot_take_le ss k
  unfold sb
  rw [if_neg (by omega)]

theorem sb_small (ss : Strs) (h : tot ss ≤ 1048576) : sb ss = tot ss := by unfold sb; rw [if_pos h]

theorem sb_le (ss : Strs) : 24 ≤ sb ss ∧ sb ss ≤ 1048577 := by
  have := tot_ge ss
  unfold sb
  split <;> omega

theorem sb_len (ss : Strs) (h : sb ss ≤ 1048576) : 16 * ss.length ≤ 1048576 := by
  have := tot_ge ss
  unfold sb at h
  split at h <;> omega

/-- The bytes of a slice of slices of strings. -/
def totN : List Strs → Nat
  | [] => 24
  | s :: r => totN r + sb s

theorem totN_append (a b : List Strs) : totN (a ++ b) + 24 = totN a + totN b := by
  induction a with
  | nil => simp [totN]; omega
  | cons s r ih => simp only [List.cons_append, totN]; omega

theorem totN_ge (a : List Strs) : 24 ≤ totN a := by
  induction a with
  | nil => simp [totN]
  | cons s r ih => simp only [totN]; omega

theorem totN_take (ss : List Strs) (k : Nat) (h : k < ss.length) : totN (ss.take (k + 1)) = totN (ss.take k) + sb (ss.getD k []) := by
  rw [take_snoc ss k [] h]
  have := totN_append (ss.take k) [ss.getD k []]
  simp only [totN] at this
  omega

theorem totN_take_le (ss : List Strs) (k : Nat) : totN (ss.take k) ≤ totN ss := by
  have h := totN_append (ss.take k) (ss.drop k)
  rw [List.take_append_drop] at h
  have := totN_ge (ss.drop k)
  omega

theorem totN_mem (ss : List Strs) (s : Strs) (h : s ∈ ss) : sb s ≤ totN ss := by
  induction ss with
  | nil => cases h
  | cons a r ih =>
    simp only [totN]
    cases h with
    | head => omega
    | tail _ h => have := ih h; omega

def nb (ss : List Strs) : Nat := if totN ss ≤ 1048576 then totN ss else 1048577

theorem nb_big (ss : List Strs) (k : Nat) (h : 1048576 < totN (ss.take k)) : nb ss = 1048577 := by
  have := totN_take_le ss k
  unfold nb
  rw [if_neg (by omega)]

theorem nb_small (ss : List Strs) (h : totN ss ≤ 1048576) : nb ss = totN ss := by unfold nb; rw [if_pos h]

theorem nb_le (ss : List Strs) : 24 ≤ nb ss ∧ nb ss ≤ 1048577 := by
  have := totN_ge ss
  unfold nb
  split <;> omega

/-- Every inner slice is short. -/
theorem nb_len (ss : List Strs) (h : nb ss ≤ 1048576) (s : Strs) (hs : s ∈ ss) : s.length ≤ 65536 := by
  have h1 : totN ss ≤ 1048576 := by
    unfold nb at h
    split at h <;> omega
  have h2 := totN_mem ss s hs
  have := sb_len s (by omega)
  omega

end Go.Proofs.Qxb6001426a.Pl
