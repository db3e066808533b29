/-
  The walk of FnFillSharesOnlyWhenTakingNothing (7).
-/
import Derived.Test.Qxb6000829aFill
namespace Go.Proofs.Qxb6000829a
open Go.RowKit
set_option linter.unusedVariables false

/-- x ^ 1 is another number than x. -/
theorem xor_one_ne (x : Int) : (bits BinOp.xor IntKind.i64 x 1 != x) = true := by
  have h : bits BinOp.xor IntKind.i64 x 1 ≠ x := by
    have h1 : (BitVec.ofInt 64 x).toNat = (x % 18446744073709551616).toNat := by simp [BitVec.toNat_ofInt]
    have h2 : (BitVec.ofInt 64 1).toNat = 1 := by decide
    have h3 : bits BinOp.xor IntKind.i64 x 1 = IntKind.i64.wrap ((BitVec.ofInt 64 x ^^^ BitVec.ofInt 64 1).toNat : Int) := rfl
    rw [h3, BitVec.toNat_xor, h1, h2, IntKind.wrap_i64]
    have h4 : ((x % 18446744073709551616).toNat ^^^ 1) % 2 = ((x % 18446744073709551616).toNat + 1) % 2 := by
      have e := Nat.xor_mod_two_pow (a := (x % 18446744073709551616).toNat) (b := 1) (n := 1)
      rw [Nat.pow_one] at e
      rw [e]
      rcases Nat.mod_two_eq_zero_or_one (x % 18446744073709551616).toNat with q | q
      · rw [q, Nat.add_mod, q]; decide
      · rw [q, Nat.add_mod, q]; decide
    generalize (x % 18446744073709551616).toNat ^^^ 1 = y at *
    omega
  simpa using h

theorem Row.drewN {w : World} {ao : Option Addr} {n : Nat} {zs : List Int} (h : Row w ao n zs) (q : Nat) : Row (w.drewN q) ao n zs := h

theorem below_drawn {B : Nat} {w w' : World} (h : Below B w w') (q : Nat) : Below B w (w'.drewN q) := ⟨h.os, h.tape, h.output, h.size, h.block⟩

theorem owns_some {w : World} {base n : Nat} {v : Value} {zs : List Int} (h : w.ownsRow base 3 1 v n (zs.map (Value.int .i64))) (h0 : 0 < n) :
    ∃ g c', v = .slice (some ⟨g, 0, none⟩) n c' ∧ base ≤ g ∧ g < w.heap.size ∧ (∀ k, w.frozen? ⟨g, k, none⟩ = false) ∧ (∀ k, k < n → w.cell? ⟨g, k, none⟩ = some (.int .i64 (zs.getD k 0))) := by
  have h0' := h
  obtain ⟨hlen, hv⟩ := h
  have hl : zs.length = n := by simpa using hlen
  rcases hv with ⟨_, h2⟩ | ⟨g, cap, cur, rfl, hg, hh, r⟩
  · omega
  · refine ⟨g, cap, rfl, hg, (Array.getElem?_eq_some_iff.1 hh).1, fun k => h0'.frozenAt k, fun k hk => ?_⟩
    rw [h0'.cellAt k (by omega)]
    exact ints_at (by omega)

set_option maxHeartbeats 1000000 in
theorem main7_empty (ao bo : Option Addr) (m c1 c2 f : Nat) (ys : List Int) (w : World) (hm : m ≤ 65536) (hf : (f : Int) ≤ 9223372036854775807)
    (hs : Row w bo m ys) (hb : bo = none → m = 0) :
    Calls Try.prog 7 #[.slice ao 0 c1, .slice bo m c2, .int .i64 f] w fun e w' => e = .returned (.bool true) ∧ Below w.heap.size w w' := by
  have HS : Hid (Row w bo m ys) := hs
  have HB : Hid (bo = none → m = 0) := hb
  clear hs hb
  go_enter Try.func7, Try.ntmps7
  go_wp2_with fail
  refine (bytes20 _ _ _ _ _ _ _ _).mono ?_
  rintro e w' ⟨⟨b, rfl⟩, rfl⟩
  cases b with
  | false =>
    go_wp2_with fail
    go_ret
    exact ⟨rfl, Below.refl _ _⟩
  | true =>
    go_wp2_with fail
    refine (clone ao 0 c1 [] _ (by omega) ⟨rfl, .inl rfl⟩ (fun _ => rfl)).mono ?_
    rintro e w1 ⟨v1, rfl, hown1, hb1⟩
    obtain ⟨ao1, cc1, hv1, hrow1⟩ := Row.ofOwns hown1
    rw [hv1]
    clear hown1 hv1 v1
    go_wp2_with fail
    refine (clone bo m c2 ys _ hm (HS.out.below hb1) HB.out).mono ?_
    rintro e w2 ⟨v2, rfl, hown2, hb2⟩
    obtain ⟨ao2, cc2, hv2, hrow2⟩ := Row.ofOwns hown2
    rw [hv2]
    clear hown2 hv2 v2
    have RB : Hid (Below w'.heap.size w' w2) := hb1.trans (hb2.mono hb1.size)
    clear hrow1 hrow2 hb1 hb2 HS HB
    go_wp2_with fail
    go_ret
    exact ⟨rfl, RB.out⟩

set_option maxHeartbeats 1000000 in
theorem main7 (ao bo : Option Addr) (n m c1 c2 f : Nat) (zs ys : List Int) (w : World) (hn0 : 0 < n) (hn : n ≤ 65536) (hm : m ≤ 65536) (hf : (f : Int) ≤ 9223372036854775807)
    (hr : Row w ao n zs) (hs : Row w bo m ys) (ha : ao = none → n = 0) (hb : bo = none → m = 0) :
    Calls Try.prog 7 #[.slice ao n c1, .slice bo m c2, .int .i64 f] w fun e w' => e = .returned (.bool true) ∧ Below w.heap.size w w' := by
  have HR : Hid (Row w ao n zs) := hr
  have HS : Hid (Row w bo m ys) := hs
  have HA : Hid (ao = none → n = 0) := ha
  have HB : Hid (bo = none → m = 0) := hb
  clear hr hs ha hb
  go_enter Try.func7, Try.ntmps7
  go_wp2_with fail
  refine (bytes20 _ _ _ _ _ _ _ _).mono ?_
  rintro e w' ⟨⟨b, rfl⟩, rfl⟩
  cases b with
  | false =>
    go_wp2_with fail
    go_ret
    exact ⟨rfl, Below.refl _ _⟩
  | true =>
    go_wp2_with fail
    refine (clone ao n c1 zs _ hn HR.out HA.out).mono ?_
    rintro e w1 ⟨v1, rfl, hown1, hb1⟩
    obtain ⟨g1, cc1, hv1, hg1, hg1', hfz1, hc1⟩ := owns_some hown1 hn0
    have hrow1 : Row w1 (some ⟨g1, 0, none⟩) n zs := ⟨HR.out.1, .inr ⟨g1, 0, rfl, hg1', fun k hk => by rw [Nat.zero_add]; exact hc1 k hk⟩⟩
    have HRow1 : Hid (Row w1 (some ⟨g1, 0, none⟩) n zs) := hrow1
    have HFz1 : Hid (∀ k, w1.frozen? ⟨g1, k, none⟩ = false) := hfz1
    have HC1 : Hid (∀ k, k < n → w1.cell? ⟨g1, k, none⟩ = some (.int .i64 (zs.getD k 0))) := hc1
    rw [hv1]
    clear hown1 hv1 v1 hfz1 hc1 hrow1
    go_wp2_with fail
    refine (clone bo m c2 ys _ hm (HS.out.below hb1) HB.out).mono ?_
    rintro e w2 ⟨v2, rfl, hown2, hb2⟩
    obtain ⟨ao2, cc2, hv2, hrow2⟩ := Row.ofOwns hown2
    have HRow2 : Hid (Row w2 ao2 m ys) := hrow2
    rw [hv2]
    clear hown2 hv2 v2 hrow2
    go_wp2_with fail
    refine (clone (some ⟨g1, 0, none⟩) n cc1 zs _ hn (HRow1.out.below hb2) (fun h => by cases h)).mono ?_
    rintro e w3 ⟨v3, rfl, hown3, hb3⟩
    obtain ⟨ao3, cc3, hv3, hrow3⟩ := Row.ofOwns hown3
    have HRow3 : Hid (Row w3 ao3 n zs) := hrow3
    rw [hv3]
    clear hown3 hv3 v3 hrow3
    go_wp2_with fail
    refine (fill18 (some ⟨g1, 0, none⟩) ao2 n m cc1 cc2 f zs ys _ hn hm hf ((HRow1.out.below hb2).below hb3) (HRow2.out.below hb3)).mono ?_
    rintro e w4 hF
    have hb13 : Below w1.heap.size w1 w3 := hb2.trans (hb3.mono hb2.size)
    have hb03 : Below w'.heap.size w' w3 := hb1.trans (hb13.mono hb1.size)
    rcases hF with ⟨rfl, rfl, hno⟩ | ⟨g4, cc4, rfl, hown4, hb4, ht⟩
    · have R1 : Row w4 (some ⟨g1, 0, none⟩) n zs := HRow1.out.below hb13
      have hF0 : w4.frozen? ⟨g1, 0, none⟩ = false := (hb13.frozen (p := ⟨g1, 0, none⟩) hg1').trans (HFz1.out 0)
      have hC0 : w4.cell? ⟨g1, 0, none⟩ = some (.int .i64 (zs.getD 0 0)) := (hb13.cell (p := ⟨g1, 0, none⟩) hg1').trans (HC1.out 0 hn0)
      have HR1 : Hid (Row w4 (some ⟨g1, 0, none⟩) n zs) := R1
      have HB3 : Hid (Below w'.heap.size w' w4) := hb03
      clear R1 hno hb13 hb03 hb1 hb2 hb3 HR HS HA HB HRow1 HRow2 HC1 HFz1
      go_wp2_with fail
      refine (sameInts _ _ _ _ _ _ _ _ hn HR1.out HRow3.out).mono ?_
      rintro e w5 ⟨rfl, q, rfl⟩
      have hsame : same zs zs = true := by simp [same]
      rw [hsame]
      go_wp2_with fail
      refine (sameInts _ _ _ _ _ zs zs _ hn (HR1.out.drewN q) (HR1.out.drewN q)).mono ?_
      rintro e w5 ⟨rfl, q2, rfl⟩
      rw [hsame]
      go_wp2_with fail
      go_ret
      refine ⟨?_, ?_⟩
      · show Ending.returned (.bool (bits BinOp.xor IntKind.i64 (zs[0]?.getD 0) 1 != zs[0]?.getD 0)) = _
        rw [xor_one_ne]
      · exact (below_drawn HB3.out _).setCell hg1 _
    · have hne : same (Pl.fill zs ys f) zs = false := by
        obtain ⟨j, hj⟩ := ht
        obtain ⟨p1, p2, p3, p4, p5⟩ := Pl.took_parts hj
        refine same_false (k := j) (by rw [Pl.fill_length]; exact p2) ?_
        have e := Pl.fill_getD zs ys f j p2
        rw [if_pos hj] at e
        simp only [List.getD] at e p4 p5
        rw [e, p4]
        simpa using p5
      have hsame : same zs zs = true := by simp [same]
      have hb34 : Below w3.heap.size w3 w4 := hb4
      have hb14 : Below w1.heap.size w1 w4 := hb13.trans (hb4.mono hb13.size)
      have R1 : Row w4 (some ⟨g1, 0, none⟩) n zs := HRow1.out.below hb14
      have R3 : Row w4 ao3 n zs := HRow3.out.below hb4
      obtain ⟨ao4, cc4', e4, R4⟩ := Row.ofOwns hown4
      cases e4
      have hC0 : w4.cell? ⟨g1, 0, none⟩ = some (.int .i64 (zs.getD 0 0)) := (hb14.cell (p := ⟨g1, 0, none⟩) hg1').trans (HC1.out 0 hn0)
      have hg4 : w3.heap.size ≤ g4 := owns_ge hown4
      have hne4 : g1 < g4 := Nat.lt_of_lt_of_le (Nat.lt_of_lt_of_le hg1' hb13.size) hg4
      have hF4 : w4.frozen? ⟨g4, 0, none⟩ = false := hown4.frozenAt 0
      have hC4 : w4.cell? ⟨g4, 0, none⟩ = some (.int .i64 ((Pl.fill zs ys f).getD 0 0)) := by
        rw [hown4.cellAt 0 (by omega)]
        exact ints_at (by rw [Pl.fill_length, HR.out.1]; exact hn0)
      have HR1 : Hid (Row w4 (some ⟨g1, 0, none⟩) n zs) := R1
      have HR3 : Hid (Row w4 ao3 n zs) := R3
      have HR4 : Hid (Row w4 (some ⟨g4, 0, none⟩) n (Pl.fill zs ys f)) := R4
      have HB4 : Hid (Below w'.heap.size w' w4) := hb03.trans (hb4.mono hb03.size)
      have HG4 : Hid (w'.heap.size ≤ g4) := Nat.le_trans hb03.size hg4
      obtain ⟨z, ez⟩ : ∃ z, z = zs.getD 0 0 := ⟨_, rfl⟩
      rw [← ez] at hC0
      clear R1 R3 R4 hb34 hb13 hb03 hb1 hb2 hb3 hb4 hb14 HR HS HA HB HRow1 HRow2 HRow3 HC1 HFz1 hown4 ht ez hg4
      go_wp2_with fail
      refine (sameInts _ _ _ _ _ _ _ _ hn HR1.out HR3.out).mono ?_
      rintro e w5 ⟨rfl, q, rfl⟩
      rw [hsame]
      go_wp2_with fail
      refine (sameInts _ _ _ _ _ (Pl.fill zs ys f) zs _ hn (HR4.out.drewN q) (HR1.out.drewN q)).mono ?_
      rintro e w5 ⟨rfl, q2, rfl⟩
      rw [hne]
      go_wp2_with fail
      go_ret
      exact ⟨rfl, (below_drawn HB4.out _).setCell HG4.out _⟩

end Go.Proofs.Qxb6000829a
