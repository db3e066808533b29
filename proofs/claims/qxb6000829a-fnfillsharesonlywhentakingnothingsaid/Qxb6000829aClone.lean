/-
  Contracts of zzCloneInts (10), slices.Clone (22), zzSameInts (12).
-/
import Derived.Test.Qxb6000829aLeaf
import Derived.Lib.SliceRun
import Derived.Deep.QuietTactic
import Derived.BigQuiet
namespace Go.Proofs.Qxb6000829a
open Go.RowKit
set_option linter.unusedVariables false

theorem ints_at {zs : List Int} {k : Nat} (h : k < zs.length) : (zs.map (Value.int .i64))[k]? = some (.int .i64 (zs.getD k 0)) := by
  simp [List.getD, h]

/-- The cells copied so far: the first k of zs, then noughts. -/
def copied (zs : List Int) (k : Nat) : List Int := (zs.take k) ++ List.replicate (zs.length - k) 0

theorem copied_step (zs : List Int) (k : Nat) (h : k < zs.length) :
    ((copied zs k).map (Value.int .i64)).set k (.int .i64 (zs.getD k 0)) = (copied zs (k + 1)).map (Value.int .i64) := by
  have e : (copied zs k).set k (zs.getD k 0) = copied zs (k + 1) := by
    unfold copied
    have hk : (zs.take k).length = k := by simp; omega
    rw [List.set_append_right _ _ (by omega), hk, Nat.sub_self]
    rw [show zs.length - k = (zs.length - (k + 1)) + 1 from by omega, List.replicate_succ, List.set_cons_zero]
    rw [List.take_succ_eq_append_getElem h]
    simp only [List.getD, List.getElem?_eq_getElem h, Option.getD_some, List.append_assoc, List.singleton_append]
  rw [← e, List.map_set]

set_option maxHeartbeats 400000 in
/-- zzCloneInts: a copy in memory of the call's own. -/
theorem clone (ao : Option Addr) (n cap : Nat) (zs : List Int) (w : World) (hn : n ≤ 65536) (hr : Row w ao n zs) (h0 : ao = none → n = 0) :
    Calls Try.prog 10 #[.slice ao n cap] w fun e w' => ∃ v, e = .returned v ∧ w'.ownsRow w.heap.size 3 1 v n (zs.map (Value.int .i64)) ∧ Below w.heap.size w w' := by
  have hq : ∀ (w : World) (a : Option Addr) (n c n' c' : Nat), (binOp .eql 22 (.slice a n c) (.slice none n' c')).run Try.prog w = .ok (.bool a.isNone) w := fun w a n c n' c' => Lib.run_eql_slice_nil w _ _ a n c n' c' Try.underlying22
  obtain ⟨hl, hr⟩ := hr
  obtain ⟨i0, hi, hz0, hz1, hz2⟩ := info_parts Try.info3
  cases ao with
  | none =>
    have hn0 := h0 rfl
    subst hn0
    have hz : zs = [] := List.length_eq_zero_iff.1 hl
    subst hz
    go_enter Try.func10, Try.ntmps10
    go_wp2
    go_ret
    exact ⟨_, rfl, World.ownsRow_nil _ _ _ _, Below.refl _ _⟩
  | some a =>
    have hr' : ∀ k, k < n → ∃ b off, a = ⟨b, off, none⟩ ∧ b < w.heap.size ∧ ∀ k, k < n → w.cell? ⟨b, off + k, none⟩ = some (.int .i64 (zs.getD k 0)) := by
      intro k hk
      rcases hr with h | ⟨b, off, e, h1, h2⟩
      · omega
      · exact ⟨b, off, Option.some.inj e, h1, h2⟩
    clear hr h0
    have HR : Hid (∀ k, k < n → ∃ b off, a = ⟨b, off, none⟩ ∧ b < w.heap.size ∧ ∀ k, k < n → w.cell? ⟨b, off + k, none⟩ = some (.int .i64 (zs.getD k 0))) := hr'
    clear hr'
    have HL : Hid (zs.length = n) := hl
    clear hl
    go_enter Try.func10, Try.ntmps10
    go_wp2_with (at_make; refine wpList_make_full _ rfl _ _ 22 rfl w.heap.size 3 i0 (.int .i64 0) 1 Try.underlying22 hi hz0 hz1 _ _ _ _ n rfl rfl rfl rfl ?b2 ?b3 (Nat.le_refl _) ?_)
    case b2 => rw [hz2]; omega
    case b3 => unfold maxLen; omega
    intro w0 hown0 hgrow0
    go_wp2
    go_loopw [4] (fun i wr => ∃ k : Nat, k ≤ n ∧ i = .int .i64 k ∧ wr.ownsRow w.heap.size 3 1 (.slice (some ⟨w.heap.size, 0, none⟩) n n) n ((copied zs k).map (Value.int .i64)) ∧ Below w.heap.size w wr)
      (fun i _ => n - (intOf i).toNat)
    case atStart =>
      refine ⟨0, Nat.zero_le _, rfl, ?_, (Below.refl _ _).grown hgrow0 (Nat.le_refl _) (fun k h => by cases h)⟩
      have e : (madeCells #[Value.int .i64 0] n).toList = (copied zs 0).map (Value.int .i64) := by
        rw [toList_madeCells_one]
        simp [copied, HL.out]
      rw [← e]
      exact hown0
    case round =>
      obtain ⟨k, hk, rfl, hown, hnx⟩ := hrel
      by_cases hlt : k < n
      · obtain ⟨b, off, rfl, hb, hc⟩ := HR.out k hlt
        have hcx : wr.cell? ⟨b, off + k, none⟩ = some (.int .i64 (zs.getD k 0)) := (hnx.cell (p := ⟨b, off + k, none⟩) hb).trans (hc k hlt)
        have hcell : wr.cell? ⟨w.heap.size, k, none⟩ = some (.int .i64 ((copied zs k).getD k 0)) := by
          rw [hown.cellAt k (by omega)]
          exact ints_at (by have := HL.out; simp [copied]; omega)
        have hfz : wr.frozen? ⟨w.heap.size, k, none⟩ = false := hown.frozenAt k
        have hst := hown.stored k (.int .i64 (zs.getD k 0))
        rw [copied_step zs k (by have := HL.out; omega)] at hst
        have HS := (show Hid _ from hst)
        clear hst hc
        go_wp2
        go_roundw
        case rel =>
          exact ⟨k + 1, by omega, by go_num, HS.out.1, hnx.grown HS.out.2 hnx.size (fun j hj => by cases hj; exact Nat.le_refl _)⟩
        case measure => simp [intOf]; omega
      · have hkn : k = n := by omega
        subst hkn
        go_wp2
        go_ret
        have e : copied zs k = zs := by
          have := HL.out
          simp [copied, ← this]
        rw [e] at hown
        exact ⟨_, rfl, hown, hnx⟩

set_option maxHeartbeats 400000 in
/-- slices.Clone, of a slice that is not nil. -/
theorem clone22 (b off n cap : Nat) (zs : List Int) (w : World) (hl : zs.length = n) (hn : n ≤ 65536) (hc : ∀ k, k < n → w.cell? ⟨b, off + k, none⟩ = some (.int .i64 (zs.getD k 0))) :
    Calls Try.prog 22 #[.slice (some ⟨b, off, none⟩) n cap] w fun e w' => ∃ g c', e = .returned (.slice (some ⟨g, 0, none⟩) n c') ∧ w'.ownsRow w.heap.size 3 1 (.slice (some ⟨g, 0, none⟩) n c') n (zs.map (Value.int .i64)) ∧ Below w.heap.size w w' := by
  have hq : ∀ (w : World) (a : Option Addr) (n c n' c' : Nat), (binOp .eql 25 (.slice a n c) (.slice none n' c')).run Try.prog w = .ok (.bool a.isNone) w := fun w a n c n' c' => Lib.run_eql_slice_nil w _ _ a n c n' c' Try.underlying25
  obtain ⟨i0, hi, hz0, hz1, hz2⟩ := info_parts Try.info3
  have HC : Hid (∀ k, k < n → w.cell? ⟨b, off + k, none⟩ = some (.int .i64 (zs.getD k 0))) := hc
  have HL : Hid (zs.length = n) := hl
  clear hc hl
  go_enter Try.func22, Try.ntmps22
  go_wp2_with (at_builtin; refine wpList_append_own _ rfl _ _ 25 rfl w.heap.size 3 i0 (.int .i64 0) 1 8 Try.underlying25 hi hz0 hz1 hz2 rfl (by decide) _ _ _ rfl (World.ownsRow_made w #[] 0 (Nat.le_refl _) (Nat.zero_le _) rfl) ⟨b, off, none⟩ n cap (zs.map (Value.int .i64)) rfl ?qc1 ?qc2 ?qc3 ?qc4 ?qc5 ?qc6 ?_)
  case qc1 => have := HL.out; simp; omega
  case qc2 =>
    intro j u hj
    have hjn : j < zs.length := by
      have := (List.getElem?_eq_some_iff.1 hj).1
      simpa using this
    rw [Addr.add_lit]
    refine Lib.cell?_alloc_some _ ?_
    rw [HC.out j (by have := HL.out; omega)]
    rw [ints_at hjn] at hj
    exact hj
  case qc3 => intro u hu; obtain ⟨x, _, rfl⟩ := List.mem_map.1 hu; rfl
  case qc4 => unfold maxLen; omega
  case qc5 => omega
  case qc6 => simp
  intro v' w1 hown hgrow hnil
  go_wp2
  go_ret
  have hown' : w1.ownsRow w.heap.size 3 1 v' n (zs.map (Value.int .i64)) := by simpa using hown
  have hb : Below w.heap.size w w1 := ((Below.refl _ w).alloc (Nat.le_refl _) _).grown hgrow (by simp) (by intro k hk; simp [Value.ownBlock] at hk; omega)
  rcases hown'.2 with ⟨h1, h2⟩ | ⟨g, cap', cur, h1, h2⟩
  · exact absurd h1 hnil
  · subst h1
    exact ⟨g, cap', rfl, hown', hb⟩

/-- The first place where two lists part, as a test. -/
def same (a b : List Int) : Bool := a == b

theorem same_true {zs ys : List Int} (hl : zs.length = ys.length) (h : ∀ j, j < zs.length → zs.getD j 0 = ys.getD j 0) : same zs ys = true := by
  have := Pl.getD_ext hl h
  simp [same, this]
theorem same_false {zs ys : List Int} {k : Nat} (hk : k < zs.length) (h : (zs[k]?.getD 0 != ys[k]?.getD 0) = true) : same zs ys = false := by
  cases e : same zs ys with
  | false => rfl
  | true =>
    have : zs = ys := by simpa [same] using e
    subst this
    simp at h
theorem same_step {zs ys : List Int} {k : Nat} (h : ∀ j, j < k → zs.getD j 0 = ys.getD j 0) (e : (zs[k]?.getD 0 != ys[k]?.getD 0) = false) : ∀ j, j < k + 1 → zs.getD j 0 = ys.getD j 0 := by
  intro j hj
  by_cases q : j = k
  · subst q; simpa [List.getD] using e
  · exact h j (by omega)

set_option maxHeartbeats 400000 in
/-- zzSameInts at two slices of one length. -/
theorem sameInts (ao bo : Option Addr) (n c1 c2 : Nat) (zs ys : List Int) (w : World) (hn : n ≤ 65536) (hr : Row w ao n zs) (hs : Row w bo n ys) :
    Calls Try.prog 12 #[.slice ao n c1, .slice bo n c2] w fun e w' => e = .returned (.bool (same zs ys)) ∧ ∃ q, w' = w.drewN q := by
  obtain ⟨hl1, hr⟩ := hr
  obtain ⟨hl2, hs⟩ := hs
  by_cases h0 : n = 0
  · subst h0
    have e1 : zs = [] := List.length_eq_zero_iff.1 hl1
    have e2 : ys = [] := List.length_eq_zero_iff.1 hl2
    subst e1; subst e2
    go_enter Try.func12, Try.ntmps12
    go_wp2
    go_loopw [5] (fun i wr => i = .int .i64 0 ∧ wr = w) (fun _ _ => 0)
    case atStart => exact ⟨rfl, rfl⟩
    case round =>
      obtain ⟨rfl, rfl⟩ := hrel
      go_wp2
      go_ret
      exact ⟨rfl, 0, rfl⟩
  · rcases hr with hr | ⟨b, off, rfl, hb, hc⟩
    · omega
    rcases hs with hs | ⟨b', off', rfl, hb', hc'⟩
    · omega
    have HC : Hid (∀ k, k < n → w.cell? ⟨b, off + k, none⟩ = some (.int .i64 (zs.getD k 0))) := hc
    have HC' : Hid (∀ k, k < n → w.cell? ⟨b', off' + k, none⟩ = some (.int .i64 (ys.getD k 0))) := hc'
    have HL1 : Hid (zs.length = n) := hl1
    have HL2 : Hid (ys.length = n) := hl2
    clear hc hc' hl1 hl2 h0
    go_enter Try.func12, Try.ntmps12
    go_wp2
    go_loopw [5] (fun i wr => ∃ k : Nat, k ≤ n ∧ i = .int .i64 k ∧ (∀ j, j < k → zs.getD j 0 = ys.getD j 0) ∧ ∃ q, wr = w.drewN q) (fun i _ => n - (intOf i).toNat)
    case atStart => exact ⟨0, Nat.zero_le _, rfl, fun j h => by omega, 0, rfl⟩
    case round =>
      obtain ⟨k, hk, rfl, heq, q, rfl⟩ := hrel
      have HE : Hid (∀ j, j < k → zs.getD j 0 = ys.getD j 0) := heq
      clear heq
      by_cases hlt : k < n
      · have g1 := HC.out k hlt
        have g2 := HC'.out k hlt
        have hki : (k : Int) < (n : Int) := by omega
        go_wp2
        go_quiet (fail)
        go_wp2
        · go_ret
          exact ⟨by rw [same_false (k := k) (by have := HL1.out; omega) (by assumption)]; rfl, q + nq, by simp⟩
        · go_roundw
          case rel =>
            refine ⟨k + 1, by omega, by go_num, ?_, q + nq, rfl⟩
            exact same_step HE.out (by assumption)
          case measure => simp [intOf]; omega
      · go_wp2
        go_ret
        exact ⟨by rw [same_true (by rw [HL1.out, HL2.out]) (fun j hj => HE.out j (by have := HL1.out; omega))]; rfl, q, rfl⟩

end Go.Proofs.Qxb6000829a
