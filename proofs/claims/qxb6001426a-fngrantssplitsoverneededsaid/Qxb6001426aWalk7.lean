/-
  The walk of FnGrantsSplitsOverNeeded (7).
-/
import Derived.Test.Qxb6001426aBytes23
import Derived.Test.Qxb6001426aGrants2
import Derived.Test.Qxb6001426aCat
namespace Go.Proofs.Qxb6001426a
open Go.RowKit
set_option linter.unusedVariables false

/-- true; nothing old has turned. -/
def TruePost (w : World) (e : Ending) (w' : World) : Prop := e = .returned (.bool true) ∧ Below w.heap.size w w'

theorem below_step {w w1 w2 : World} (h : Below w.heap.size w w1) (k : Below w1.heap.size w1 w2) : Below w.heap.size w w2 := h.trans (k.mono h.size)

set_option maxHeartbeats 8000000 in
set_option maxRecDepth 100000 in
theorem main7 (a0 a1 a2 a3 a4 a5 a6 a7 a8 : Option Addr) (n0 n1 n2 n3 n4 n5 n6 n7 n8 c0 c1 c2 c3 c4 c5 c6 c7 c8 : Nat) (s0 : Pl.Strs) (s1 : Pl.Strs) (s2 : List Pl.Strs) (s3 : Pl.Strs) (s4 : Pl.Strs) (s5 : List Pl.Strs) (s6 : Pl.Strs) (s7 : Pl.Strs) (s8 : List Pl.Strs) (w : World)
    (h0 : SRow w a0 n0 s0) (h1 : SRow w a1 n1 s1) (h2 : NRow w a2 n2 s2) (h3 : SRow w a3 n3 s3) (h4 : SRow w a4 n4 s4) (h5 : NRow w a5 n5 s5) (h6 : SRow w a6 n6 s6) (h7 : SRow w a7 n7 s7) (h8 : NRow w a8 n8 s8) :
    Calls Try.prog 7 #[.slice a0 n0 c0, .slice a1 n1 c1, .slice a2 n2 c2, .slice a3 n3 c3, .slice a4 n4 c4, .slice a5 n5 c5, .slice a6 n6 c6, .slice a7 n7 c7, .slice a8 n8 c8] w (TruePost w) := by
  have H0 : Hid (SRow w a0 n0 s0) := h0
  have hb0 := Pl.sb_le s0
  have H1 : Hid (SRow w a1 n1 s1) := h1
  have hb1 := Pl.sb_le s1
  have H2 : Hid (NRow w a2 n2 s2) := h2
  have hb2 := Pl.nb_le s2
  have H3 : Hid (SRow w a3 n3 s3) := h3
  have hb3 := Pl.sb_le s3
  have H4 : Hid (SRow w a4 n4 s4) := h4
  have hb4 := Pl.sb_le s4
  have H5 : Hid (NRow w a5 n5 s5) := h5
  have hb5 := Pl.nb_le s5
  have H6 : Hid (SRow w a6 n6 s6) := h6
  have hb6 := Pl.sb_le s6
  have H7 : Hid (SRow w a7 n7 s7) := h7
  have hb7 := Pl.sb_le s7
  have H8 : Hid (NRow w a8 n8 s8) := h8
  have hb8 := Pl.nb_le s8
  have HT : Hid (TruePost w (.returned (.bool true)) w) := ⟨rfl, Below.refl _ _⟩
  clear h0 h1 h2 h3 h4 h5 h6 h7 h8
  go_enter Try.func7, Try.ntmps7
  go_wp2_with fail
  refine (bytes23 a0 a1 a2 a3 a4 a5 a6 a7 a8 n0 n1 n2 n3 n4 n5 n6 n7 n8 c0 c1 c2 c3 c4 c5 c6 c7 c8 s0 s1 s2 s3 s4 s5 s6 s7 s8 w H0.out H1.out H2.out H3.out H4.out H5.out H6.out H7.out H8.out).mono ?_
  rintro e w' ⟨⟨b, rfl⟩, ew⟩
  subst w'
  cases b
  case false => go_wp2_with fail; go_ret; exact HT.out
  go_wp2_with fail
  refine (tooBig a0 a1 a2 n0 n1 n2 c0 c1 c2 s0 s1 s2 w H0.out H1.out H2.out).mono ?_
  rintro e w' ⟨b, rfl, ew, hA⟩
  subst w'
  cases b
  case true => go_wp2_with fail; go_ret; exact HT.out
  obtain ⟨x0, x1, x2, y0⟩ := hA rfl
  clear hA
  go_wp2_with fail
  refine (tooBig a3 a4 a5 n3 n4 n5 c3 c4 c5 s3 s4 s5 w H3.out H4.out H5.out).mono ?_
  rintro e w' ⟨b, rfl, ew, hA⟩
  subst w'
  cases b
  case true => go_wp2_with fail; go_ret; exact HT.out
  obtain ⟨x3, x4, x5, y1⟩ := hA rfl
  clear hA
  go_wp2_with fail
  refine (tooBig a6 a7 a8 n6 n7 n8 c6 c7 c8 s6 s7 s8 w H6.out H7.out H8.out).mono ?_
  rintro e w' ⟨b, rfl, ew, hA⟩
  subst w'
  cases b
  case true => go_wp2_with fail; go_ret; exact HT.out
  obtain ⟨x6, x7, x8, y2⟩ := hA rfl
  clear hA
  by_cases hsum : Pl.sb s0 + Pl.sb s1 + Pl.nb s2 + Pl.sb s3 + Pl.sb s4 + Pl.nb s5 + Pl.sb s6 + Pl.sb s7 + Pl.nb s8 ≤ 1048576
  case neg =>
    go_wp2_with fail
    refine (strBytes a0 n0 c0 s0 w H0.out).mono ?_
    rintro e w' ⟨rfl, ew⟩
    subst w'
    go_wp2_with fail
    refine (strBytes a1 n1 c1 s1 w H1.out).mono ?_
    rintro e w' ⟨rfl, ew⟩
    subst w'
    go_wp2_with fail
    refine (nestBytes a2 n2 c2 s2 w H2.out).mono ?_
    rintro e w' ⟨rfl, ew⟩
    subst w'
    go_wp2_with fail
    refine (strBytes a3 n3 c3 s3 w H3.out).mono ?_
    rintro e w' ⟨rfl, ew⟩
    subst w'
    go_wp2_with fail
    refine (strBytes a4 n4 c4 s4 w H4.out).mono ?_
    rintro e w' ⟨rfl, ew⟩
    subst w'
    go_wp2_with fail
    refine (nestBytes a5 n5 c5 s5 w H5.out).mono ?_
    rintro e w' ⟨rfl, ew⟩
    subst w'
    go_wp2_with fail
    refine (strBytes a6 n6 c6 s6 w H6.out).mono ?_
    rintro e w' ⟨rfl, ew⟩
    subst w'
    go_wp2_with fail
    refine (strBytes a7 n7 c7 s7 w H7.out).mono ?_
    rintro e w' ⟨rfl, ew⟩
    subst w'
    go_wp2_with fail
    refine (nestBytes a8 n8 c8 s8 w H8.out).mono ?_
    rintro e w' ⟨rfl, ew⟩
    subst w'
    go_wp2_with fail
    go_ret
    exact HT.out
  go_wp2_with fail
  refine (strBytes a0 n0 c0 s0 w H0.out).mono ?_
  rintro e w' ⟨rfl, ew⟩
  subst w'
  go_wp2_with fail
  refine (strBytes a1 n1 c1 s1 w H1.out).mono ?_
  rintro e w' ⟨rfl, ew⟩
  subst w'
  go_wp2_with fail
  refine (nestBytes a2 n2 c2 s2 w H2.out).mono ?_
  rintro e w' ⟨rfl, ew⟩
  subst w'
  go_wp2_with fail
  refine (strBytes a3 n3 c3 s3 w H3.out).mono ?_
  rintro e w' ⟨rfl, ew⟩
  subst w'
  go_wp2_with fail
  refine (strBytes a4 n4 c4 s4 w H4.out).mono ?_
  rintro e w' ⟨rfl, ew⟩
  subst w'
  go_wp2_with fail
  refine (nestBytes a5 n5 c5 s5 w H5.out).mono ?_
  rintro e w' ⟨rfl, ew⟩
  subst w'
  go_wp2_with fail
  refine (strBytes a6 n6 c6 s6 w H6.out).mono ?_
  rintro e w' ⟨rfl, ew⟩
  subst w'
  go_wp2_with fail
  refine (strBytes a7 n7 c7 s7 w H7.out).mono ?_
  rintro e w' ⟨rfl, ew⟩
  subst w'
  go_wp2_with fail
  refine (nestBytes a8 n8 c8 s8 w H8.out).mono ?_
  rintro e w' ⟨rfl, ew⟩
  subst w'
  go_wp2_with fail
  clear hsum hb0 hb1 hb2 hb3 hb4 hb5 hb6 hb7 hb8
  have B0 : Hid (Below w.heap.size w w) := Below.refl _ _
  refine (cloneStrs a0 n0 c0 s0 w (by omega) (H0.out.below B0.out (Nat.le_refl _))).mono ?_
  rintro e w1 ⟨d0, e0, rfl, hs, hg, hb⟩
  have B1 : Hid (Below w.heap.size w w1) := below_step B0.out hb
  have R0 : Hid (SRow w1 d0 n0 s0) := hs
  clear hs hb H0 hg
  go_wp2_with fail
  refine (cloneStrs a1 n1 c1 s1 w1 (by omega) (H1.out.below B1.out (Nat.le_refl _))).mono ?_
  rintro e w2 ⟨d1, e1, rfl, hs, hg, hb⟩
  have B2 : Hid (Below w.heap.size w w2) := below_step B1.out hb
  replace R0 : Hid (SRow w2 d0 n0 s0) := R0.out.below hb (Nat.le_refl _)
  have R1 : Hid (SRow w2 d1 n1 s1) := hs
  clear hs hb H1 hg
  go_wp2_with fail
  refine (cloneNest a2 n2 c2 s2 w2 (by omega) (Pl.nb_len s2 y0) (H2.out.below B2.out (Nat.le_refl _))).mono ?_
  rintro e w3 ⟨d2, e2, rfl, hs, hb⟩
  have B3 : Hid (Below w.heap.size w w3) := below_step B2.out hb
  replace R0 : Hid (SRow w3 d0 n0 s0) := R0.out.below hb (Nat.le_refl _)
  replace R1 : Hid (SRow w3 d1 n1 s1) := R1.out.below hb (Nat.le_refl _)
  have R2 : Hid (NRow w3 d2 n2 s2) := hs
  clear hs hb H2
  go_wp2_with fail
  refine (cloneStrs a3 n3 c3 s3 w3 (by omega) (H3.out.below B3.out (Nat.le_refl _))).mono ?_
  rintro e w4 ⟨d3, e3, rfl, hs, hg, hb⟩
  have B4 : Hid (Below w.heap.size w w4) := below_step B3.out hb
  replace R0 : Hid (SRow w4 d0 n0 s0) := R0.out.below hb (Nat.le_refl _)
  replace R1 : Hid (SRow w4 d1 n1 s1) := R1.out.below hb (Nat.le_refl _)
  replace R2 : Hid (NRow w4 d2 n2 s2) := R2.out.below hb (Nat.le_refl _)
  have R3 : Hid (SRow w4 d3 n3 s3) := hs
  clear hs hb H3 hg
  go_wp2_with fail
  refine (cloneStrs a4 n4 c4 s4 w4 (by omega) (H4.out.below B4.out (Nat.le_refl _))).mono ?_
  rintro e w5 ⟨d4, e4, rfl, hs, hg, hb⟩
  have B5 : Hid (Below w.heap.size w w5) := below_step B4.out hb
  replace R0 : Hid (SRow w5 d0 n0 s0) := R0.out.below hb (Nat.le_refl _)
  replace R1 : Hid (SRow w5 d1 n1 s1) := R1.out.below hb (Nat.le_refl _)
  replace R2 : Hid (NRow w5 d2 n2 s2) := R2.out.below hb (Nat.le_refl _)
  replace R3 : Hid (SRow w5 d3 n3 s3) := R3.out.below hb (Nat.le_refl _)
  have R4 : Hid (SRow w5 d4 n4 s4) := hs
  clear hs hb H4 hg
  go_wp2_with fail
  refine (cloneNest a5 n5 c5 s5 w5 (by omega) (Pl.nb_len s5 y1) (H5.out.below B5.out (Nat.le_refl _))).mono ?_
  rintro e w6 ⟨d5, e5, rfl, hs, hb⟩
  have B6 : Hid (Below w.heap.size w w6) := below_step B5.out hb
  replace R0 : Hid (SRow w6 d0 n0 s0) := R0.out.below hb (Nat.le_refl _)
  replace R1 : Hid (SRow w6 d1 n1 s1) := R1.out.below hb (Nat.le_refl _)
  replace R2 : Hid (NRow w6 d2 n2 s2) := R2.out.below hb (Nat.le_refl _)
  replace R3 : Hid (SRow w6 d3 n3 s3) := R3.out.below hb (Nat.le_refl _)
  replace R4 : Hid (SRow w6 d4 n4 s4) := R4.out.below hb (Nat.le_refl _)
  have R5 : Hid (NRow w6 d5 n5 s5) := hs
  clear hs hb H5
  go_wp2_with fail
  refine (cloneStrs a6 n6 c6 s6 w6 (by omega) (H6.out.below B6.out (Nat.le_refl _))).mono ?_
  rintro e w7 ⟨d6, e6, rfl, hs, hg, hb⟩
  have B7 : Hid (Below w.heap.size w w7) := below_step B6.out hb
  replace R0 : Hid (SRow w7 d0 n0 s0) := R0.out.below hb (Nat.le_refl _)
  replace R1 : Hid (SRow w7 d1 n1 s1) := R1.out.below hb (Nat.le_refl _)
  replace R2 : Hid (NRow w7 d2 n2 s2) := R2.out.below hb (Nat.le_refl _)
  replace R3 : Hid (SRow w7 d3 n3 s3) := R3.out.below hb (Nat.le_refl _)
  replace R4 : Hid (SRow w7 d4 n4 s4) := R4.out.below hb (Nat.le_refl _)
  replace R5 : Hid (NRow w7 d5 n5 s5) := R5.out.below hb (Nat.le_refl _)
  have R6 : Hid (SRow w7 d6 n6 s6) := hs
  clear hs hb H6 hg
  go_wp2_with fail
  refine (cloneStrs a7 n7 c7 s7 w7 (by omega) (H7.out.below B7.out (Nat.le_refl _))).mono ?_
  rintro e w8 ⟨d7, e7, rfl, hs, hg, hb⟩
  have B8 : Hid (Below w.heap.size w w8) := below_step B7.out hb
  replace R0 : Hid (SRow w8 d0 n0 s0) := R0.out.below hb (Nat.le_refl _)
  replace R1 : Hid (SRow w8 d1 n1 s1) := R1.out.below hb (Nat.le_refl _)
  replace R2 : Hid (NRow w8 d2 n2 s2) := R2.out.below hb (Nat.le_refl _)
  replace R3 : Hid (SRow w8 d3 n3 s3) := R3.out.below hb (Nat.le_refl _)
  replace R4 : Hid (SRow w8 d4 n4 s4) := R4.out.below hb (Nat.le_refl _)
  replace R5 : Hid (NRow w8 d5 n5 s5) := R5.out.below hb (Nat.le_refl _)
  replace R6 : Hid (SRow w8 d6 n6 s6) := R6.out.below hb (Nat.le_refl _)
  have R7 : Hid (SRow w8 d7 n7 s7) := hs
  clear hs hb H7 hg
  go_wp2_with fail
  refine (cloneNest a8 n8 c8 s8 w8 (by omega) (Pl.nb_len s8 y2) (H8.out.below B8.out (Nat.le_refl _))).mono ?_
  rintro e w9 ⟨d8, e8, rfl, hs, hb⟩
  have B9 : Hid (Below w.heap.size w w9) := below_step B8.out hb
  replace R0 : Hid (SRow w9 d0 n0 s0) := R0.out.below hb (Nat.le_refl _)
  replace R1 : Hid (SRow w9 d1 n1 s1) := R1.out.below hb (Nat.le_refl _)
  replace R2 : Hid (NRow w9 d2 n2 s2) := R2.out.below hb (Nat.le_refl _)
  replace R3 : Hid (SRow w9 d3 n3 s3) := R3.out.below hb (Nat.le_refl _)
  replace R4 : Hid (SRow w9 d4 n4 s4) := R4.out.below hb (Nat.le_refl _)
  replace R5 : Hid (NRow w9 d5 n5 s5) := R5.out.below hb (Nat.le_refl _)
  replace R6 : Hid (SRow w9 d6 n6 s6) := R6.out.below hb (Nat.le_refl _)
  replace R7 : Hid (SRow w9 d7 n7 s7) := R7.out.below hb (Nat.le_refl _)
  have R8 : Hid (NRow w9 d8 n8 s8) := hs
  clear hs hb H8
  obtain ⟨NX, eN⟩ : ∃ N, N = min (min n0 n1) n2 := ⟨_, rfl⟩
  have EX : Hid (NX = min (min n0 n1) n2) := eN
  clear eN
  go_wp2_with fail
  refine (res21 d0 d1 d2 n0 n1 n2 e0 e1 e2 s0 s1 s2 w9 x0 x1 x2 (Pl.nb_len s2 y0) R0.out R1.out R2.out NX EX.out).mono ?_
  rintro e w10 ⟨uX, kX, rfl, hr, hb⟩
  have B10 : Hid (Below w.heap.size w w10) := below_step B9.out hb
  replace R0 : Hid (SRow w10 d0 n0 s0) := R0.out.below hb (Nat.le_refl _)
  replace R1 : Hid (SRow w10 d1 n1 s1) := R1.out.below hb (Nat.le_refl _)
  replace R2 : Hid (NRow w10 d2 n2 s2) := R2.out.below hb (Nat.le_refl _)
  replace R3 : Hid (SRow w10 d3 n3 s3) := R3.out.below hb (Nat.le_refl _)
  replace R4 : Hid (SRow w10 d4 n4 s4) := R4.out.below hb (Nat.le_refl _)
  replace R5 : Hid (NRow w10 d5 n5 s5) := R5.out.below hb (Nat.le_refl _)
  replace R6 : Hid (SRow w10 d6 n6 s6) := R6.out.below hb (Nat.le_refl _)
  replace R7 : Hid (SRow w10 d7 n7 s7) := R7.out.below hb (Nat.le_refl _)
  replace R8 : Hid (NRow w10 d8 n8 s8) := R8.out.below hb (Nat.le_refl _)
  have RX : Hid (RRow w10 uX NX (Pl.mk s0 s1 s2)) := hr
  clear hr hb
  obtain ⟨NY, eN⟩ : ∃ N, N = min (min n3 n4) n5 := ⟨_, rfl⟩
  have EY : Hid (NY = min (min n3 n4) n5) := eN
  clear eN
  go_wp2_with fail
  refine (res21 d3 d4 d5 n3 n4 n5 e3 e4 e5 s3 s4 s5 w10 x3 x4 x5 (Pl.nb_len s5 y1) R3.out R4.out R5.out NY EY.out).mono ?_
  rintro e w11 ⟨uY, kY, rfl, hr, hb⟩
  have B11 : Hid (Below w.heap.size w w11) := below_step B10.out hb
  replace R0 : Hid (SRow w11 d0 n0 s0) := R0.out.below hb (Nat.le_refl _)
  replace R1 : Hid (SRow w11 d1 n1 s1) := R1.out.below hb (Nat.le_refl _)
  replace R2 : Hid (NRow w11 d2 n2 s2) := R2.out.below hb (Nat.le_refl _)
  replace R3 : Hid (SRow w11 d3 n3 s3) := R3.out.below hb (Nat.le_refl _)
  replace R4 : Hid (SRow w11 d4 n4 s4) := R4.out.below hb (Nat.le_refl _)
  replace R5 : Hid (NRow w11 d5 n5 s5) := R5.out.below hb (Nat.le_refl _)
  replace R6 : Hid (SRow w11 d6 n6 s6) := R6.out.below hb (Nat.le_refl _)
  replace R7 : Hid (SRow w11 d7 n7 s7) := R7.out.below hb (Nat.le_refl _)
  replace R8 : Hid (NRow w11 d8 n8 s8) := R8.out.below hb (Nat.le_refl _)
  replace RX : Hid (RRow w11 uX NX (Pl.mk s0 s1 s2)) := RX.out.below hb (Nat.le_refl _)
  have RY : Hid (RRow w11 uY NY (Pl.mk s3 s4 s5)) := hr
  clear hr hb
  obtain ⟨NZ, eN⟩ : ∃ N, N = min (min n6 n7) n8 := ⟨_, rfl⟩
  have EZ : Hid (NZ = min (min n6 n7) n8) := eN
  clear eN
  go_wp2_with fail
  refine (res21 d6 d7 d8 n6 n7 n8 e6 e7 e8 s6 s7 s8 w11 x6 x7 x8 (Pl.nb_len s8 y2) R6.out R7.out R8.out NZ EZ.out).mono ?_
  rintro e w12 ⟨uZ, kZ, rfl, hr, hb⟩
  have B12 : Hid (Below w.heap.size w w12) := below_step B11.out hb
  replace R0 : Hid (SRow w12 d0 n0 s0) := R0.out.below hb (Nat.le_refl _)
  replace R1 : Hid (SRow w12 d1 n1 s1) := R1.out.below hb (Nat.le_refl _)
  replace R2 : Hid (NRow w12 d2 n2 s2) := R2.out.below hb (Nat.le_refl _)
  replace R3 : Hid (SRow w12 d3 n3 s3) := R3.out.below hb (Nat.le_refl _)
  replace R4 : Hid (SRow w12 d4 n4 s4) := R4.out.below hb (Nat.le_refl _)
  replace R5 : Hid (NRow w12 d5 n5 s5) := R5.out.below hb (Nat.le_refl _)
  replace R6 : Hid (SRow w12 d6 n6 s6) := R6.out.below hb (Nat.le_refl _)
  replace R7 : Hid (SRow w12 d7 n7 s7) := R7.out.below hb (Nat.le_refl _)
  replace R8 : Hid (NRow w12 d8 n8 s8) := R8.out.below hb (Nat.le_refl _)
  replace RX : Hid (RRow w12 uX NX (Pl.mk s0 s1 s2)) := RX.out.below hb (Nat.le_refl _)
  replace RY : Hid (RRow w12 uY NY (Pl.mk s3 s4 s5)) := RY.out.below hb (Nat.le_refl _)
  have RZ : Hid (RRow w12 uZ NZ (Pl.mk s6 s7 s8)) := hr
  clear hr hb
  have bX : NX ≤ 4096 := by have := EX.out; omega
  have bY : NY ≤ 4096 := by have := EY.out; omega
  have bZ : NZ ≤ 4096 := by have := EZ.out; omega
  clear EX EY EZ R0 R1 R2 R3 R4 R5 R6 R7 R8
  generalize Pl.mk s0 s1 s2 = rX at *
  generalize Pl.mk s3 s4 s5 = rY at *
  generalize Pl.mk s6 s7 s8 = rZ at *
  have happ := Pl.grants_append rX rY rZ
  have HAP : Hid (Pl.grants rX (rY ++ rZ) = (Pl.grants rX rY && Pl.grants rX rZ)) := happ
  clear happ
  go_wp2_with fail
  refine (catRes24 uY uZ NY NZ kY kZ rY rZ _ RY.out RZ.out (by omega)).mono ?_
  rintro e w13 ⟨uC, kC, rfl, hr, hb⟩
  have B13 : Hid (Below w.heap.size w w13) := below_step B12.out hb
  replace RX : Hid (RRow w13 uX NX (rX)) := RX.out.below hb (Nat.le_refl _)
  replace RY : Hid (RRow w13 uY NY (rY)) := RY.out.below hb (Nat.le_refl _)
  replace RZ : Hid (RRow w13 uZ NZ (rZ)) := RZ.out.below hb (Nat.le_refl _)
  have RC : Hid (RRow w13 uC (NY + NZ) (rY ++ rZ)) := hr
  clear hr hb
  go_wp2_with fail
  refine (zzGrants22 uX uC NX (NY + NZ) kX kC rX (rY ++ rZ) _ RX.out RC.out).mono ?_
  rintro e w14 ⟨rfl, hb⟩
  have B14 : Hid (Below w.heap.size w w14) := below_step B13.out hb
  replace RX : Hid (RRow w14 uX NX (rX)) := RX.out.below hb (Nat.le_refl _)
  replace RY : Hid (RRow w14 uY NY (rY)) := RY.out.below hb (Nat.le_refl _)
  replace RZ : Hid (RRow w14 uZ NZ (rZ)) := RZ.out.below hb (Nat.le_refl _)
  clear hb RC
  have hnil := Pl.grants_nil rX
  have hnone := Pl.grants_none rY
  cases hp : Pl.grants rX rY
  case false =>
    have hall : Pl.grants rX (rY ++ rZ) = false := by rw [HAP.out, hp]; rfl
    go_wp2_with fail
    refine (zzGrants22 uX uY NX NY kX kY rX rY _ RX.out RY.out).mono ?_
    rintro e w15 ⟨rfl, hb⟩
    have B15 : Hid (Below w.heap.size w w15) := below_step B14.out hb
    replace RX : Hid (RRow w15 uX NX (rX)) := RX.out.below hb (Nat.le_refl _)
    replace RY : Hid (RRow w15 uY NY (rY)) := RY.out.below hb (Nat.le_refl _)
    replace RZ : Hid (RRow w15 uZ NZ (rZ)) := RZ.out.below hb (Nat.le_refl _)
    clear hb
    go_wp2_with fail
    refine (zzGrants22 uX none NX 0 kX 0 rX [] _ RX.out ⟨rfl, by omega, .inl rfl⟩).mono ?_
    rintro e w16 ⟨rfl, hb⟩
    have B16 : Hid (Below w.heap.size w w16) := below_step B15.out hb
    replace RX : Hid (RRow w16 uX NX (rX)) := RX.out.below hb (Nat.le_refl _)
    replace RY : Hid (RRow w16 uY NY (rY)) := RY.out.below hb (Nat.le_refl _)
    replace RZ : Hid (RRow w16 uZ NZ (rZ)) := RZ.out.below hb (Nat.le_refl _)
    clear hb
    go_wp2_with fail
    have hba : Below w16.heap.size w16 (w16.alloc (.cells #[] 48)) := (Below.refl _ _).alloc (Nat.le_refl _) _
    refine (zzGrants22 uX (some ⟨w16.heap.size, 0, none⟩) NX 0 kX 0 rX [] _ (RX.out.below hba (Nat.le_refl _)) ⟨rfl, by omega, .inl rfl⟩).mono ?_
    rintro e w17 ⟨rfl, hb⟩
    replace hb : Below w16.heap.size w16 w17 := below_step hba hb
    have B17 : Hid (Below w.heap.size w w17) := below_step B16.out hb
    replace RX : Hid (RRow w17 uX NX (rX)) := RX.out.below hb (Nat.le_refl _)
    replace RY : Hid (RRow w17 uY NY (rY)) := RY.out.below hb (Nat.le_refl _)
    replace RZ : Hid (RRow w17 uZ NZ (rZ)) := RZ.out.below hb (Nat.le_refl _)
    clear hb hba
    go_wp2_with fail
    refine (zzGrants22 none uY 0 NY 0 kY [] rY _ ⟨rfl, by omega, .inl rfl⟩ RY.out).mono ?_
    rintro e w18 ⟨rfl, hb⟩
    have B18 : Hid (Below w.heap.size w w18) := below_step B17.out hb
    replace RX : Hid (RRow w18 uX NX (rX)) := RX.out.below hb (Nat.le_refl _)
    replace RY : Hid (RRow w18 uY NY (rY)) := RY.out.below hb (Nat.le_refl _)
    replace RZ : Hid (RRow w18 uZ NZ (rZ)) := RZ.out.below hb (Nat.le_refl _)
    clear hb
    go_wp2_with fail
    refine (noActions25 uY NY kY rY _ RY.out).mono ?_
    rintro e wz ⟨rfl, ew⟩
    subst wz
    go_wp2_with fail
    go_ret
    exact ⟨by first | rfl | simp, B18.out⟩
  case true =>
    cases hq : Pl.grants rX rZ
    case false =>
      have hall : Pl.grants rX (rY ++ rZ) = false := by rw [HAP.out, hp, hq]; rfl
      go_wp2_with fail
      refine (zzGrants22 uX uY NX NY kX kY rX rY _ RX.out RY.out).mono ?_
      rintro e w15 ⟨rfl, hb⟩
      have B15 : Hid (Below w.heap.size w w15) := below_step B14.out hb
      replace RX : Hid (RRow w15 uX NX (rX)) := RX.out.below hb (Nat.le_refl _)
      replace RY : Hid (RRow w15 uY NY (rY)) := RY.out.below hb (Nat.le_refl _)
      replace RZ : Hid (RRow w15 uZ NZ (rZ)) := RZ.out.below hb (Nat.le_refl _)
      clear hb
      go_wp2_with fail
      refine (zzGrants22 uX uZ NX NZ kX kZ rX rZ _ RX.out RZ.out).mono ?_
      rintro e w16 ⟨rfl, hb⟩
      have B16 : Hid (Below w.heap.size w w16) := below_step B15.out hb
      replace RX : Hid (RRow w16 uX NX (rX)) := RX.out.below hb (Nat.le_refl _)
      replace RY : Hid (RRow w16 uY NY (rY)) := RY.out.below hb (Nat.le_refl _)
      replace RZ : Hid (RRow w16 uZ NZ (rZ)) := RZ.out.below hb (Nat.le_refl _)
      clear hb
      go_wp2_with fail
      refine (zzGrants22 uX none NX 0 kX 0 rX [] _ RX.out ⟨rfl, by omega, .inl rfl⟩).mono ?_
      rintro e w17 ⟨rfl, hb⟩
      have B17 : Hid (Below w.heap.size w w17) := below_step B16.out hb
      replace RX : Hid (RRow w17 uX NX (rX)) := RX.out.below hb (Nat.le_refl _)
      replace RY : Hid (RRow w17 uY NY (rY)) := RY.out.below hb (Nat.le_refl _)
      replace RZ : Hid (RRow w17 uZ NZ (rZ)) := RZ.out.below hb (Nat.le_refl _)
      clear hb
      go_wp2_with fail
      have hba : Below w17.heap.size w17 (w17.alloc (.cells #[] 48)) := (Below.refl _ _).alloc (Nat.le_refl _) _
      refine (zzGrants22 uX (some ⟨w17.heap.size, 0, none⟩) NX 0 kX 0 rX [] _ (RX.out.below hba (Nat.le_refl _)) ⟨rfl, by omega, .inl rfl⟩).mono ?_
      rintro e w18 ⟨rfl, hb⟩
      replace hb : Below w17.heap.size w17 w18 := below_step hba hb
      have B18 : Hid (Below w.heap.size w w18) := below_step B17.out hb
      replace RX : Hid (RRow w18 uX NX (rX)) := RX.out.below hb (Nat.le_refl _)
      replace RY : Hid (RRow w18 uY NY (rY)) := RY.out.below hb (Nat.le_refl _)
      replace RZ : Hid (RRow w18 uZ NZ (rZ)) := RZ.out.below hb (Nat.le_refl _)
      clear hb hba
      go_wp2_with fail
      refine (zzGrants22 none uY 0 NY 0 kY [] rY _ ⟨rfl, by omega, .inl rfl⟩ RY.out).mono ?_
      rintro e w19 ⟨rfl, hb⟩
      have B19 : Hid (Below w.heap.size w w19) := below_step B18.out hb
      replace RX : Hid (RRow w19 uX NX (rX)) := RX.out.below hb (Nat.le_refl _)
      replace RY : Hid (RRow w19 uY NY (rY)) := RY.out.below hb (Nat.le_refl _)
      replace RZ : Hid (RRow w19 uZ NZ (rZ)) := RZ.out.below hb (Nat.le_refl _)
      clear hb
      go_wp2_with fail
      refine (noActions25 uY NY kY rY _ RY.out).mono ?_
      rintro e wz ⟨rfl, ew⟩
      subst wz
      go_wp2_with fail
      go_ret
      exact ⟨by first | rfl | simp, B19.out⟩
    case true =>
      have hall : Pl.grants rX (rY ++ rZ) = true := by rw [HAP.out, hp, hq]; rfl
      go_wp2_with fail
      refine (zzGrants22 uX uY NX NY kX kY rX rY _ RX.out RY.out).mono ?_
      rintro e w15 ⟨rfl, hb⟩
      have B15 : Hid (Below w.heap.size w w15) := below_step B14.out hb
      replace RX : Hid (RRow w15 uX NX (rX)) := RX.out.below hb (Nat.le_refl _)
      replace RY : Hid (RRow w15 uY NY (rY)) := RY.out.below hb (Nat.le_refl _)
      replace RZ : Hid (RRow w15 uZ NZ (rZ)) := RZ.out.below hb (Nat.le_refl _)
      clear hb
      go_wp2_with fail
      refine (zzGrants22 uX uZ NX NZ kX kZ rX rZ _ RX.out RZ.out).mono ?_
      rintro e w16 ⟨rfl, hb⟩
      have B16 : Hid (Below w.heap.size w w16) := below_step B15.out hb
      replace RX : Hid (RRow w16 uX NX (rX)) := RX.out.below hb (Nat.le_refl _)
      replace RY : Hid (RRow w16 uY NY (rY)) := RY.out.below hb (Nat.le_refl _)
      replace RZ : Hid (RRow w16 uZ NZ (rZ)) := RZ.out.below hb (Nat.le_refl _)
      clear hb
      go_wp2_with fail
      refine (zzGrants22 uX none NX 0 kX 0 rX [] _ RX.out ⟨rfl, by omega, .inl rfl⟩).mono ?_
      rintro e w17 ⟨rfl, hb⟩
      have B17 : Hid (Below w.heap.size w w17) := below_step B16.out hb
      replace RX : Hid (RRow w17 uX NX (rX)) := RX.out.below hb (Nat.le_refl _)
      replace RY : Hid (RRow w17 uY NY (rY)) := RY.out.below hb (Nat.le_refl _)
      replace RZ : Hid (RRow w17 uZ NZ (rZ)) := RZ.out.below hb (Nat.le_refl _)
      clear hb
      go_wp2_with fail
      have hba : Below w17.heap.size w17 (w17.alloc (.cells #[] 48)) := (Below.refl _ _).alloc (Nat.le_refl _) _
      refine (zzGrants22 uX (some ⟨w17.heap.size, 0, none⟩) NX 0 kX 0 rX [] _ (RX.out.below hba (Nat.le_refl _)) ⟨rfl, by omega, .inl rfl⟩).mono ?_
      rintro e w18 ⟨rfl, hb⟩
      replace hb : Below w17.heap.size w17 w18 := below_step hba hb
      have B18 : Hid (Below w.heap.size w w18) := below_step B17.out hb
      replace RX : Hid (RRow w18 uX NX (rX)) := RX.out.below hb (Nat.le_refl _)
      replace RY : Hid (RRow w18 uY NY (rY)) := RY.out.below hb (Nat.le_refl _)
      replace RZ : Hid (RRow w18 uZ NZ (rZ)) := RZ.out.below hb (Nat.le_refl _)
      clear hb hba
      go_wp2_with fail
      refine (zzGrants22 none uY 0 NY 0 kY [] rY _ ⟨rfl, by omega, .inl rfl⟩ RY.out).mono ?_
      rintro e w19 ⟨rfl, hb⟩
      have B19 : Hid (Below w.heap.size w w19) := below_step B18.out hb
      replace RX : Hid (RRow w19 uX NX (rX)) := RX.out.below hb (Nat.le_refl _)
      replace RY : Hid (RRow w19 uY NY (rY)) := RY.out.below hb (Nat.le_refl _)
      replace RZ : Hid (RRow w19 uZ NZ (rZ)) := RZ.out.below hb (Nat.le_refl _)
      clear hb
      go_wp2_with fail
      refine (noActions25 uY NY kY rY _ RY.out).mono ?_
      rintro e wz ⟨rfl, ew⟩
      subst wz
      go_wp2_with fail
      go_ret
      exact ⟨by first | rfl | simp, B19.out⟩

end Go.Proofs.Qxb6001426a
