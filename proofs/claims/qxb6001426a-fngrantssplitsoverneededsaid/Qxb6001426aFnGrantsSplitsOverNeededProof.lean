/-
  The proof of 'Rows.FnGrantsSplitsOverNeededSaid': the row's step, after the guide's own frame; the walk lies in Qxb6001426aWalk7.
-/
import Derived.Test.Qxb6001426aRows
import Derived.WalkKit
import Derived.ProofKit
import Derived.OpenShut
import Derived.ShutString
import Derived.ChangeOld
import Derived.Below
import Derived.Test.Qxb6001426aFrame
import Derived.Test.Qxb6001426aWalk7
namespace Go.Proofs.Qxb6001426a.fnGrantsSplitsOverNeeded
open Go.ChangeShapes Go.WideShapes Go.ChangeAt Go.RowKit
open Go.ChangeMaps (open_string shut_string)
set_option linter.unusedVariables false

theorem own : ownKnob Try.prog.godebug = none := by kernel_rfl
theorem laidOut : laidOutB Try.prog = true := by kernel_rfl

set_option maxHeartbeats 2000000 in
set_option maxRecDepth 100000 in
theorem lifted (os : Os) (started : os.Started) (H : Type) (enc : TypeId × Value → H) :
    ReturnsInHanded {} Try.checked os 7 .any (Rows.fnGrantsSplitsOverNeededSpec.pre6 enc Try.prog Try.f7 Rows.fnGrantsSplitsOverNeededRow.domain false) (Rows.fnGrantsSplitsOverNeededSpec.post enc Try.prog Try.f7 false true false false) := by
  refine returnsInHanded_of_change (C := Try.checked) own started (by kernel_rfl) Try.func7
    (ChangeSpec.witness6 (enc := enc) (C := Try.checked) false ⟨#[], #[.slice none 0 0, .slice none 0 0, .slice none 0 0, .slice none 0 0, .slice none 0 0, .slice none 0 0, .slice none 0 0, .slice none 0 0, .slice none 0 0], []⟩ 8 (by kernel_rfl) (by kernel_rfl) (by kernel_rfl) (by kernel_rfl)) ?_
  intro W base args ds gs before hval0 hW hcnd _
  have hval : ∀ (j : Nat) t v, Try.f7.params[j]? = some t → args[j]? = some v → Value.okWide Try.prog W .any base t v := hval0
  have hW' := hW
  obtain ⟨p, q, hA0, hV, rfl, hfz, hnd⟩ := hW
  have hA : DataW.TrodAll enc Try.prog W 0 (fun _ => true) true Try.f7.params.toList args.toList ds p := hA0
  rw [Try.params7] at hA hval
  obtain ⟨v0, vs0, d0, ds0, p0, q0, hargs, rfl, rfl, h0, r0⟩ := trodAll_cons hA
  obtain ⟨v1, vs1, d1, ds1, p1, q1, rfl, rfl, rfl, h1, r1⟩ := trodAll_cons r0
  obtain ⟨v2, vs2, d2, ds2, p2, q2, rfl, rfl, rfl, h2, r2⟩ := trodAll_cons r1
  obtain ⟨v3, vs3, d3, ds3, p3, q3, rfl, rfl, rfl, h3, r3⟩ := trodAll_cons r2
  obtain ⟨v4, vs4, d4, ds4, p4, q4, rfl, rfl, rfl, h4, r4⟩ := trodAll_cons r3
  obtain ⟨v5, vs5, d5, ds5, p5, q5, rfl, rfl, rfl, h5, r5⟩ := trodAll_cons r4
  obtain ⟨v6, vs6, d6, ds6, p6, q6, rfl, rfl, rfl, h6, r6⟩ := trodAll_cons r5
  obtain ⟨v7, vs7, d7, ds7, p7, q7, rfl, rfl, rfl, h7, r7⟩ := trodAll_cons r6
  obtain ⟨v8, vs8, d8, ds8, p8, q8, rfl, rfl, rfl, h8, r8⟩ := trodAll_cons r7
  obtain ⟨rfl, rfl, rfl⟩ := trodAll_nil r8
  obtain rfl : args = #[v0, v1, v2, v3, v4, v5, v6, v7, v8] := by cases args; simp_all
  obtain ⟨rfl, rfl⟩ := trodVars_none hV
  obtain ⟨a0, n0, c0, rfl⟩ := okWide_slice Try.underlying22 (hval 0 22 v0 rfl rfl)
  have k0 := h0
  have lt0 : ∀ x ∈ p0, x.block < W.heap.size := by obtain ⟨m, hm⟩ := k0; exact DataW.trod_lt m _ _ _ hm
  obtain ⟨z0, w0⟩ : ∃ zs, SRow W a0 n0 zs := by
    obtain ⟨fuel, hf⟩ := h0
    obtain ⟨a, n, c, ss, e, hs⟩ := srow_of (v := .slice a0 n0 c0) (by simpa [Value.cells] using hf)
    cases e
    exact ⟨ss, hs⟩
  obtain ⟨a1, n1, c1, rfl⟩ := okWide_slice Try.underlying22 (hval 1 22 v1 rfl rfl)
  have k1 := h1
  have lt1 : ∀ x ∈ p1, x.block < W.heap.size := by obtain ⟨m, hm⟩ := k1; exact DataW.trod_lt m _ _ _ hm
  obtain ⟨z1, w1⟩ : ∃ zs, SRow W a1 n1 zs := by
    obtain ⟨fuel, hf⟩ := h1
    obtain ⟨a, n, c, ss, e, hs⟩ := srow_of (v := .slice a1 n1 c1) (by simpa [Value.cells] using hf)
    cases e
    exact ⟨ss, hs⟩
  obtain ⟨a2, n2, c2, rfl⟩ := okWide_slice Try.underlying32 (hval 2 32 v2 rfl rfl)
  have k2 := h2
  have lt2 : ∀ x ∈ p2, x.block < W.heap.size := by obtain ⟨m, hm⟩ := k2; exact DataW.trod_lt m _ _ _ hm
  obtain ⟨z2, w2⟩ : ∃ zs, NRow W a2 n2 zs := by
    obtain ⟨fuel, hf⟩ := h2
    obtain ⟨a, n, c, ss, e, hs⟩ := nrow_of (v := .slice a2 n2 c2) (by simpa [Value.cells] using hf)
    cases e
    exact ⟨ss, hs⟩
  obtain ⟨a3, n3, c3, rfl⟩ := okWide_slice Try.underlying22 (hval 3 22 v3 rfl rfl)
  have k3 := h3
  have lt3 : ∀ x ∈ p3, x.block < W.heap.size := by obtain ⟨m, hm⟩ := k3; exact DataW.trod_lt m _ _ _ hm
  obtain ⟨z3, w3⟩ : ∃ zs, SRow W a3 n3 zs := by
    obtain ⟨fuel, hf⟩ := h3
    obtain ⟨a, n, c, ss, e, hs⟩ := srow_of (v := .slice a3 n3 c3) (by simpa [Value.cells] using hf)
    cases e
    exact ⟨ss, hs⟩
  obtain ⟨a4, n4, c4, rfl⟩ := okWide_slice Try.underlying22 (hval 4 22 v4 rfl rfl)
  have k4 := h4
  have lt4 : ∀ x ∈ p4, x.block < W.heap.size := by obtain ⟨m, hm⟩ := k4; exact DataW.trod_lt m _ _ _ hm
  obtain ⟨z4, w4⟩ : ∃ zs, SRow W a4 n4 zs := by
    obtain ⟨fuel, hf⟩ := h4
    obtain ⟨a, n, c, ss, e, hs⟩ := srow_of (v := .slice a4 n4 c4) (by simpa [Value.cells] using hf)
    cases e
    exact ⟨ss, hs⟩
  obtain ⟨a5, n5, c5, rfl⟩ := okWide_slice Try.underlying32 (hval 5 32 v5 rfl rfl)
  have k5 := h5
  have lt5 : ∀ x ∈ p5, x.block < W.heap.size := by obtain ⟨m, hm⟩ := k5; exact DataW.trod_lt m _ _ _ hm
  obtain ⟨z5, w5⟩ : ∃ zs, NRow W a5 n5 zs := by
    obtain ⟨fuel, hf⟩ := h5
    obtain ⟨a, n, c, ss, e, hs⟩ := nrow_of (v := .slice a5 n5 c5) (by simpa [Value.cells] using hf)
    cases e
    exact ⟨ss, hs⟩
  obtain ⟨a6, n6, c6, rfl⟩ := okWide_slice Try.underlying22 (hval 6 22 v6 rfl rfl)
  have k6 := h6
  have lt6 : ∀ x ∈ p6, x.block < W.heap.size := by obtain ⟨m, hm⟩ := k6; exact DataW.trod_lt m _ _ _ hm
  obtain ⟨z6, w6⟩ : ∃ zs, SRow W a6 n6 zs := by
    obtain ⟨fuel, hf⟩ := h6
    obtain ⟨a, n, c, ss, e, hs⟩ := srow_of (v := .slice a6 n6 c6) (by simpa [Value.cells] using hf)
    cases e
    exact ⟨ss, hs⟩
  obtain ⟨a7, n7, c7, rfl⟩ := okWide_slice Try.underlying22 (hval 7 22 v7 rfl rfl)
  have k7 := h7
  have lt7 : ∀ x ∈ p7, x.block < W.heap.size := by obtain ⟨m, hm⟩ := k7; exact DataW.trod_lt m _ _ _ hm
  obtain ⟨z7, w7⟩ : ∃ zs, SRow W a7 n7 zs := by
    obtain ⟨fuel, hf⟩ := h7
    obtain ⟨a, n, c, ss, e, hs⟩ := srow_of (v := .slice a7 n7 c7) (by simpa [Value.cells] using hf)
    cases e
    exact ⟨ss, hs⟩
  obtain ⟨a8, n8, c8, rfl⟩ := okWide_slice Try.underlying32 (hval 8 32 v8 rfl rfl)
  have k8 := h8
  have lt8 : ∀ x ∈ p8, x.block < W.heap.size := by obtain ⟨m, hm⟩ := k8; exact DataW.trod_lt m _ _ _ hm
  obtain ⟨z8, w8⟩ : ∃ zs, NRow W a8 n8 zs := by
    obtain ⟨fuel, hf⟩ := h8
    obtain ⟨a, n, c, ss, e, hs⟩ := nrow_of (v := .slice a8 n8 c8) (by simpa [Value.cells] using hf)
    cases e
    exact ⟨ss, hs⟩
  clear hA0 hval0
  refine (main7 a0 a1 a2 a3 a4 a5 a6 a7 a8 n0 n1 n2 n3 n4 n5 n6 n7 n8 c0 c1 c2 c3 c4 c5 c6 c7 c8 z0 z1 z2 z3 z4 z5 z6 z7 z8 W w0 w1 w2 w3 w4 w5 w6 w7 w8).mono fun e W' ⟨he, bel⟩ => ?_
  subst he
  exact ⟨_, rfl, _, _, _, [], _, [], hW', trodAll_mk1 (shut_bool Try.underlying4 _), (trodAll_cons_mk (Below.trod laidOut (by kernel_rfl) (of_decide_eq_true (by kernel_rfl)) k0 bel lt0) (trodAll_cons_mk (Below.trod laidOut (by kernel_rfl) (of_decide_eq_true (by kernel_rfl)) k1 bel lt1) (trodAll_cons_mk (Below.trod laidOut (by kernel_rfl) (of_decide_eq_true (by kernel_rfl)) k2 bel lt2) (trodAll_cons_mk (Below.trod laidOut (by kernel_rfl) (of_decide_eq_true (by kernel_rfl)) k3 bel lt3) (trodAll_cons_mk (Below.trod laidOut (by kernel_rfl) (of_decide_eq_true (by kernel_rfl)) k4 bel lt4) (trodAll_cons_mk (Below.trod laidOut (by kernel_rfl) (of_decide_eq_true (by kernel_rfl)) k5 bel lt5) (trodAll_cons_mk (Below.trod laidOut (by kernel_rfl) (of_decide_eq_true (by kernel_rfl)) k6 bel lt6) (trodAll_cons_mk (Below.trod laidOut (by kernel_rfl) (of_decide_eq_true (by kernel_rfl)) k7 bel lt7) (trodAll_cons_mk (Below.trod laidOut (by kernel_rfl) (of_decide_eq_true (by kernel_rfl)) k8 bel lt8) trodAll_mk0))))))))), rfl, bel.frame _, fun h => by cases h⟩

theorem over : Rows.fnGrantsSplitsOverNeededRow.holds Try.pinned (OpenSpec.ofChange Rows.fnGrantsSplitsOverNeededSpec) :=
  OpenClaim.holds_of_wide 7 Try.f7 rfl rfl rfl rfl rfl rfl rfl ⟨rfl, rfl, rfl, rfl, rfl⟩ rfl rfl rfl rfl rfl (by kernel_rfl) Try.func7 (by kernel_rfl)
    (of_decide_eq_true (by kernel_rfl)) (by unfold Func.isWrapper; first | (rw [if_pos (by decide +kernel)]; kernel_rfl) | (rw [if_neg (by decide +kernel)]; exact ⟨rfl, rfl⟩))
    (fun os started H enc _ => lifted os started H enc)

/-- THE STATEMENT -/
theorem proved : Rows.FnGrantsSplitsOverNeededSaid := over
end Go.Proofs.Qxb6001426a.fnGrantsSplitsOverNeeded
