/-
  What 'grants' computes, on lists; its laws. No Go in sight.
-/
import Derived.Test.Qxb6001426aPlain
namespace Go.Proofs.Qxb6001426a.Pl

structure Res where
  ty : ByteArray
  nm : ByteArray
  acts : Strs

def noRes : Res := ⟨ByteArray.empty, ByteArray.empty, []⟩

def eqs (a b : ByteArray) : Bool := a.toList == b.toList

theorem eqs_refl (a : ByteArray) : eqs a a = true := by simp [eqs]
theorem eqs_trans {a b c : ByteArray} (h : eqs a b = true) (k : eqs b c = true) : eqs a c = true := by
  simp [eqs] at h k ⊢
  rw [h, k]

/-- slices.Contains. -/
def has (ss : Strs) (x : ByteArray) : Bool := ss.any fun s => eqs x s

/-- The closure in 'grants'. -/
def fits (ty nm act : ByteArray) (r : Res) : Bool := eqs r.ty ty && (eqs r.nm nm && has r.acts act)

def covers (acc : List Res) (ty nm act : ByteArray) : Bool := acc.any (fits ty nm act)

def covered (acc : List Res) (nd : Res) : Bool := nd.acts.all (covers acc nd.ty nd.nm)

def grants (acc needed : List Res) : Bool := needed.all (covered acc)

theorem has_congr {ss : Strs} {x y : ByteArray} (h : eqs x y = true) (k : has ss y = true) : has ss x = true := by
  simp only [has, List.any_eq_true] at k ⊢
  obtain ⟨s, hs, e⟩ := k
  exact ⟨s, hs, eqs_trans h e⟩

theorem has_mem {ss : Strs} {x : ByteArray} (h : x ∈ ss) : has ss x = true := by
  simp only [has, List.any_eq_true]
  exact ⟨x, h, eqs_refl x⟩

/-- What is covered: some resource of that type and name with that action. -/
theorem covers_iff {acc : List Res} {ty nm act : ByteArray} : covers acc ty nm act = true ↔ ∃ r ∈ acc, eqs r.ty ty = true ∧ eqs r.nm nm = true ∧ has r.acts act = true := by
  simp [covers, fits]

theorem grants_iff {acc needed : List Res} : grants acc needed = true ↔ ∀ nd ∈ needed, ∀ a ∈ nd.acts, covers acc nd.ty nd.nm a = true := by
  simp [grants, covered]

theorem grants_refl (x : List Res) : grants x x = true := by
  rw [grants_iff]
  intro nd hnd a ha
  rw [covers_iff]
  exact ⟨nd, hnd, eqs_refl _, eqs_refl _, has_mem ha⟩

theorem grants_trans {x y z : List Res} (h : grants x y = true) (k : grants y z = true) : grants x z = true := by
  rw [grants_iff] at h k ⊢
  intro nd hnd a ha
  obtain ⟨r, hr, e1, e2, e3⟩ := covers_iff.1 (k nd hnd a ha)
  simp only [has, List.any_eq_true] at e3
  obtain ⟨s, hs, e3⟩ := e3
  obtain ⟨q, hq, f1, f2, f3⟩ := covers_iff.1 (h r hr s hs)
  exact covers_iff.2 ⟨q, hq, eqs_trans f1 e1, eqs_trans f2 e2, has_congr e3 f3⟩

theorem grants_append (acc x y : List Res) : grants acc (x ++ y) = (grants acc x && grants acc y) := by
  simp [grants, List.all_append]

theorem grants_nil (acc : List Res) : grants acc [] = true := rfl

/-- No resource names an action. -/
def noActs (x : List Res) : Bool := x.all fun r => r.acts.isEmpty

theorem grants_none (x : List Res) : grants [] x = noActs x := by
  unfold grants noActs
  congr 1
  funext nd
  unfold covered covers
  cases nd.acts with
  | nil => rfl
  | cons a r => rfl

/-- zzRes: as long as the shortest. -/
def mk (ts ns : Strs) (as : List Strs) : List Res := (List.range (min (min ts.length ns.length) as.length)).map fun i => ⟨ts.getD i ByteArray.empty, ns.getD i ByteArray.empty, as.getD i []⟩

theorem mk_length (ts ns : Strs) (as : List Strs) : (mk ts ns as).length = min (min ts.length ns.length) as.length := by simp [mk]

theorem mk_at (ts ns : Strs) (as : List Strs) (i : Nat) (h : i < min (min ts.length ns.length) as.length) : (mk ts ns as).getD i noRes = ⟨ts.getD i ByteArray.empty, ns.getD i ByteArray.empty, as.getD i []⟩ := by
  simp only [mk, List.getD, List.getElem?_map, List.getElem?_range h, Option.map_some, Option.getD_some]

end Go.Proofs.Qxb6001426a.Pl
