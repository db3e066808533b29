/-
  Contracts of the leaf functions: zzBytes (19, 20), zzCloneInts (10), Estimate (16), slices.Clone (22).
-/
import Derived.Test.Qxb6000829aRows
import Derived.WalkKit
import Derived.ProofKit
import Derived.Below
import Derived.WalkSpells
import Derived.Test.Qxb6000829aPlain
namespace Go.Proofs.Qxb6000829a
open Go.RowKit
set_option linter.unusedVariables false

/-- A slice of integers that can be read: its first 'len' elements are 'zs'. -/
def Row (w : World) (ao : Option Addr) (len : Nat) (zs : List Int) : Prop :=
  zs.length = len ∧ (len = 0 ∨ ∃ b off, ao = some ⟨b, off, none⟩ ∧ b < w.heap.size ∧ ∀ k, k < len → w.cell? ⟨b, off + k, none⟩ = some (.int .i64 (zs.getD k 0)))

theorem Row.below {w w' : World} {ao : Option Addr} {len : Nat} {zs : List Int} (h : Row w ao len zs) (hb : Below w.heap.size w w') : Row w' ao len zs := by
  obtain ⟨h1, h2⟩ := h
  refine ⟨h1, ?_⟩
  rcases h2 with h2 | ⟨b, off, e, hl, hc⟩
  · exact .inl h2
  · exact .inr ⟨b, off, e, Nat.lt_of_lt_of_le hl hb.size, fun k hk => (hb.cell (p := ⟨b, off + k, none⟩) hl).trans (hc k hk)⟩

/-- What the call owns can be read. -/
theorem Row.ofOwns {w : World} {base n : Nat} {v : Value} {zs : List Int} (h : w.ownsRow base 3 1 v n (zs.map (Value.int .i64))) :
    ∃ ao cap, v = .slice ao n cap ∧ Row w ao n zs := by
  have h0 := h
  obtain ⟨hlen, hv⟩ := h
  have hl : zs.length = n := by simpa using hlen
  rcases hv with ⟨rfl, rfl⟩ | ⟨g, cap, cur, rfl, hg, hh, r⟩
  · exact ⟨none, 0, rfl, hl, .inl rfl⟩
  · refine ⟨some ⟨g, 0, none⟩, cap, rfl, hl, .inr ⟨g, 0, rfl, ?_, fun k hk => ?_⟩⟩
    · exact (Array.getElem?_eq_some_iff.1 hh).1
    · have := h0.cellAt k (by omega)
      rw [Nat.zero_add, this]
      simp [List.getD, show k < zs.length by omega]

theorem Try.info3 : (Try.prog.info? 3).map (fun i => (i.zero, i.size, i.bytes)) = some (some (.int .i64 0), 1, 8) := by kernel_rfl

/-- zzBytes_FnFillEstimate: some answer, nothing turned. -/
theorem bytes19 (a0 a1 : Option Addr) (l0 c0 l1 c1 : Nat) (z : Int) (w : World) :
    Calls Try.prog 19 #[.slice a0 l0 c0, .slice a1 l1 c1, .int .i64 z] w fun e w' => (∃ b, e = .returned (.bool b)) ∧ w' = w := by
  go_enter Try.func19, Try.ntmps19
  go_wp2
  all_goals (go_ret; exact ⟨⟨_, rfl⟩, rfl⟩)

theorem bytes20 (a0 a1 : Option Addr) (l0 c0 l1 c1 : Nat) (z : Int) (w : World) :
    Calls Try.prog 20 #[.slice a0 l0 c0, .slice a1 l1 c1, .int .i64 z] w fun e w' => (∃ b, e = .returned (.bool b)) ∧ w' = w := by
  go_enter Try.func20, Try.ntmps20
  go_wp2
  all_goals (go_ret; exact ⟨⟨_, rfl⟩, rfl⟩)

/-- Estimate. -/
theorem estimate (ao : Option Addr) (n cap d : Nat) (zs : List Int) (w : World) (hn : n ≤ 65536) (hd : d ≤ 65536) (hr : Row w ao n zs) :
    Calls Try.prog 16 #[.slice ao n cap, .int .i64 d] w fun e w' => e = .returned (.tuple #[.int .i64 (Pl.est zs d), .bool (Pl.known zs d)]) ∧ w' = w := by
  obtain ⟨hl, hr⟩ := hr
  by_cases hlt : n ≤ d
  · have e1 : Pl.known zs d = false := by simp [Pl.known]; omega
    have e2 : Pl.est zs d = 0 := by simp [Pl.est, e1]
    rw [e1, e2]
    clear e1 e2
    go_enter Try.func16, Try.ntmps16
    go_wp2
    go_ret2
    exact ⟨rfl, rfl⟩
  · rcases hr with hr | ⟨b, off, rfl, hb, hc⟩
    · omega
    have hcd := hc d (by omega)
    clear hc
    by_cases hm : zs.getD d 0 = -1
    · have e1 : Pl.known zs d = false := by simp [Pl.known] at hm ⊢; omega
      have e2 : Pl.est zs d = 0 := by simp [Pl.est, e1]
      rw [e1, e2]
      clear e1 e2
      rw [hm] at hcd
      clear hm
      go_enter Try.func16, Try.ntmps16
      go_wp2
      go_ret2
      exact ⟨rfl, rfl⟩
    · have e1 : Pl.known zs d = true := by simp [Pl.known] at hm ⊢; omega
      have e2 : Pl.est zs d = zs.getD d 0 := by simp [Pl.est, e1]
      rw [e1, e2]
      clear e1 e2
      generalize zs.getD d 0 = x at *
      have hx : (x == -1) = false := by simpa using hm
      go_enter Try.func16, Try.ntmps16
      go_wp2
      go_ret2
      exact ⟨rfl, rfl⟩

end Go.Proofs.Qxb6000829a
