/-
  Contract: zzRes (21).
-/
import Derived.Test.Qxb6001426aGrants
import Derived.Deep.RegionHeld3
namespace Go.Proofs.Qxb6001426a
open Go.RowKit
set_option linter.unusedVariables false

theorem Try.info48 : (Try.prog.info? 48).map (fun i => (i.zero, i.size, i.bytes)) = some (some (.agg #[.string ByteArray.empty, .string ByteArray.empty, .slice none 0 0]), 3, 56) := by kernel_rfl

/-- One resource among the cells of an owned row; its actions lie in blocks behind g. -/
def RIn (w : World) (g : Nat) (vs : List Value) (j : Nat) (r : Pl.Res) : Prop :=
  vs[j * 3]? = some (.string r.ty) ∧ vs[j * 3 + 1]? = some (.string r.nm) ∧ ∃ a m c, vs[j * 3 + 2]? = some (.slice a m c) ∧ m ≤ 65536 ∧ SRow w a m r.acts ∧ ∀ b off, a = some ⟨b, off, none⟩ → g < b

/-- The loop's relation. -/
def ResRel (w : World) (n k : Nat) (rs : List Pl.Res) (wr : World) : Prop :=
  ∃ vs : List Value, wr.ownsRow w.heap.size 48 3 (.slice (some ⟨w.heap.size, 0, none⟩) n n) n vs ∧ (∀ j, j < k → RIn wr w.heap.size vs j (rs.getD j Pl.noRes)) ∧ Below w.heap.size w wr

/-- Three stores into block g leave the other blocks as they are. -/
abbrev put3 (wc : World) (g k : Nat) (x0 x1 x2 : Value) : World := ((wc.setCell ⟨g, k * 3, none⟩ x0).setCell ⟨g, k * 3 + 1, none⟩ x1).setCell ⟨g, k * 3 + 2, none⟩ x2

theorem far1 {wc : World} {b g o i : Nat} {x : Value} (h : b ≠ g) : (wc.setCell ⟨g, i, none⟩ x).cell? ⟨b, o, none⟩ = wc.cell? ⟨b, o, none⟩ :=
  World.cell?_of_block (Below.heap_setCell _ _ _ _ h)

theorem far3 {wc : World} {b g o k : Nat} {x y z : Value} (h : b ≠ g) : (put3 wc g k x y z).cell? ⟨b, o, none⟩ = wc.cell? ⟨b, o, none⟩ := by
  rw [far1 h, far1 h, far1 h]

theorem RIn.keep {w w' : World} {g : Nat} {vs vs' : List Value} {j : Nat} {r : Pl.Res} (h : RIn w g vs j r) (hv : ∀ i, i < 3 → vs'[j * 3 + i]? = vs[j * 3 + i]?) (hs : ∀ a m ss, SRow w a m ss → (∀ b off, a = some ⟨b, off, none⟩ → g < b) → SRow w' a m ss) : RIn w' g vs' j r := by
  obtain ⟨h1, h2, a, m, c, h3, hm, h4, h5⟩ := h
  exact ⟨(hv 0 (by omega)).trans h1, (hv 1 (by omega)).trans h2, a, m, c, (hv 2 (by omega)).trans h3, hm, hs _ _ _ h4 h5, h5⟩

theorem ResRel.step {w wr wc : World} {N k m c : Nat} {rs : List Pl.Res} {a : Option Addr} {x0 x1 : ByteArray} {acts : Pl.Strs} (h : ResRel w N k rs wr) (hlt : k < N) (hm : m ≤ 65536) (hb : Below wr.heap.size wr wc) (hs : SRow wc a m acts)
    (hg : ∀ b off, a = some ⟨b, off, none⟩ → wr.heap.size ≤ b) (er : rs.getD k Pl.noRes = ⟨x0, x1, acts⟩) : ResRel w N (k + 1) rs (put3 wc w.heap.size k (.string x0) (.string x1) (.slice a m c)) := by
  obtain ⟨vs, hown, hin, hbel⟩ := h
  have hlt1 := (hown.lt w.heap.size rfl).2
  have hl : vs.length = N * 3 := by simpa using hown.1
  have hown1 : wc.ownsRow w.heap.size 48 3 (.slice (some ⟨w.heap.size, 0, none⟩) N N) N vs := hown.kept (row := none) ⟨hb.os, hb.tape, hb.output, hb.size, fun k hk _ => hb.block k hk⟩ (.inr (by simp [Value.ownBlock]))
  obtain ⟨o1, r1⟩ := hown1.stored (k * 3) (.string x0)
  obtain ⟨o2, r2⟩ := o1.stored (k * 3 + 1) (.string x1)
  obtain ⟨o3, r3⟩ := o2.stored (k * 3 + 2) (.slice a m c)
  have hgg : ∀ b off, a = some ⟨b, off, none⟩ → w.heap.size < b := fun b off e => Nat.lt_of_lt_of_le hlt1 (hg b off e)
  have hB : Below w.heap.size w wc := hbel.trans (hb.mono hbel.size)
  refine ⟨_, o3, fun j hj => ?_, ?_⟩
  · by_cases e : j = k
    · subst e
      rw [er]
      refine ⟨?_, ?_, a, m, c, ?_, hm, ((hs.stored hgg _).stored hgg _).stored hgg _, hgg⟩
      · rw [List.getElem?_set_ne (by omega), List.getElem?_set_ne (by omega), List.getElem?_set_self (by rw [hl]; omega)]
      · rw [List.getElem?_set_ne (by omega), List.getElem?_set_self (by rw [List.length_set, hl]; omega)]
      · rw [List.getElem?_set_self (by rw [List.length_set, List.length_set, hl]; omega)]
    · refine (hin j (by omega)).keep (fun i hi => ?_) (fun a' m' ss q1 q2 => ((((q1.below hb (Nat.le_refl _)).stored q2 _).stored q2 _).stored q2 _))
      rw [List.getElem?_set_ne (by omega), List.getElem?_set_ne (by omega), List.getElem?_set_ne (by omega)]
  · exact ((hB.setCell (Nat.le_refl _) _).setCell (Nat.le_refl _) _).setCell (Nat.le_refl _) _

theorem ResRel.done {w wr : World} {N : Nat} {rs : List Pl.Res} (h : ResRel w N N rs wr) (hl : rs.length = N) (hn : N ≤ 65536) : RRow wr (some ⟨w.heap.size, 0, none⟩) N rs := by
  obtain ⟨vs, hown, hin, hbel⟩ := h
  refine ⟨hl, hn, .inr ⟨w.heap.size, 0, rfl, (hown.lt w.heap.size rfl).2, fun k hk => ?_⟩⟩
  obtain ⟨h1, h2, a, m, c, h3, hm, h4, h5⟩ := hin k hk
  rw [Nat.zero_add]
  exact ⟨by rw [hown.cellAt _ (by omega)]; exact h1, by rw [hown.cellAt _ (by omega)]; exact h2, a, m, c, by rw [hown.cellAt _ (by omega)]; exact h3, hm, h4⟩

/-- The answer. -/
def ResPost (n : Nat) (rs : List Pl.Res) (w : World) (e : Ending) (w' : World) : Prop :=
  ∃ ao cap, e = .returned (.slice ao n cap) ∧ RRow w' ao n rs ∧ Below w.heap.size w w'

set_option maxHeartbeats 1000000 in
theorem res21A (a0 a1 a2 : Option Addr) (n0 n1 n2 c0 c1 c2 : Nat) (s0 s1 : Pl.Strs) (s2 : List Pl.Strs) (w : World) (q0 : n0 ≤ 4096) (q1 : n1 ≤ 4096) (q2 : n2 ≤ 4096) (hin : ∀ s ∈ s2, s.length ≤ 65536)
    (h0 : SRow w a0 n0 s0) (h1 : SRow w a1 n1 s1) (h2 : NRow w a2 n2 s2) (N : Nat) (hN : N = min (min n0 n1) n2) (t1 : n1 < n0) (t2 : n2 < n1) :
    Calls Try.prog 21 #[.slice a0 n0 c0, .slice a1 n1 c1, .slice a2 n2 c2] w (ResPost N (Pl.mk s0 s1 s2) w) := by
  have H0 : Hid (SRow w a0 n0 s0) := h0
  have H1 : Hid (SRow w a1 n1 s1) := h1
  have H2 : Hid (NRow w a2 n2 s2) := h2
  have HI : Hid (∀ s ∈ s2, s.length ≤ 65536) := hin
  have HLen : Hid ((Pl.mk s0 s1 s2).length = N) := by show _ = _; rw [Pl.mk_length, h0.1, h1.1, h2.1, hN]
  have HAt : Hid (∀ k, k < N → (Pl.mk s0 s1 s2).getD k Pl.noRes = ⟨s0.getD k ByteArray.empty, s1.getD k ByteArray.empty, s2.getD k []⟩) := fun k hk => Pl.mk_at _ _ _ _ (by rw [h0.1, h1.1, h2.1]; omega)
  clear h0 h1 h2 hin
  obtain ⟨i0, hi, hz0, hz1, hz2⟩ := info_parts Try.info48
  have l0 : N ≤ n0 := by omega
  have l1 : N ≤ n1 := by omega
  have l2 : N ≤ n2 := by omega
  obtain rfl : N = n2 := by omega
  clear hN
  go_enter Try.func21, Try.ntmps21
  go_wp2_with (at_make; refine wpList_make_full _ rfl _ _ 37 rfl w.heap.size 48 i0 (.agg #[.string ByteArray.empty, .string ByteArray.empty, .slice none 0 0]) 3 Try.underlying37 hi hz0 hz1 _ _ _ _ N rfl rfl rfl rfl ?b2 ?b3 (Nat.le_refl _) ?_)
  case b2 => rw [hz2]; omega
  case b3 => unfold maxLen; omega
  intro w0 hown0 hgrow0
  go_wp2_with fail
  go_loopw [9] (fun i wr => ∃ k : Nat, k ≤ N ∧ i = .int .i64 k ∧ ResRel w N k (Pl.mk s0 s1 s2) wr) (fun i _ => N - (intOf i).toNat)
  case atStart => exact ⟨0, Nat.zero_le _, rfl, _, hown0, (fun j h => by omega), (Below.refl _ _).grown hgrow0 (Nat.le_refl _) (fun k h => by cases h)⟩
  case round =>
    obtain ⟨k, hk, rfl, hrel⟩ := hrel
    have HR : Hid (ResRel w N k (Pl.mk s0 s1 s2) wr) := hrel
    clear hrel
    by_cases hlt : k < N
    · obtain ⟨vs, hown, hins, hbel⟩ := HR.out
      obtain ⟨b0, o0, rfl, hb0, hc0⟩ := H0.out.at (k := k) (by omega)
      obtain ⟨b1, o1, rfl, hb1, hc1⟩ := H1.out.at (k := k) (by omega)
      obtain ⟨b2, o2, rfl, hb2, hc2⟩ := H2.out.at (k := k) (by omega)
      have g0 : wr.cell? ⟨b0, o0 + k, none⟩ = some (.string (s0.getD k ByteArray.empty)) := (hbel.cell (p := ⟨b0, o0 + k, none⟩) hb0).trans (hc0 k (by omega))
      have g1 : wr.cell? ⟨b1, o1 + k, none⟩ = some (.string (s1.getD k ByteArray.empty)) := (hbel.cell (p := ⟨b1, o1 + k, none⟩) hb1).trans (hc1 k (by omega))
      obtain ⟨a, m, c', g2', hs⟩ := hc2 k (by omega)
      have g2 : wr.cell? ⟨b2, o2 + k, none⟩ = some (.slice a m c') := (hbel.cell (p := ⟨b2, o2 + k, none⟩) hb2).trans g2'
      have HS : Hid (SRow wr a m (s2.getD k [])) := hs.below hbel (Nat.le_refl _)
      have hm : m ≤ 65536 := by
        rw [← hs.1]
        refine HI.out _ ?_
        have : k < s2.length := by rw [H2.out.1]; omega
        simp [List.getD, this]
      have hl : vs.length = N * 3 := by simpa using hown.1
      have hlt1 : w.heap.size < wr.heap.size := (hown.lt w.heap.size rfl).2
      have hfz : ∀ j, wr.frozen? ⟨w.heap.size, j, none⟩ = false := fun j => hown.frozenAt j
      have hcell : ∀ j, j < N * 3 → ∃ v, wr.cell? ⟨w.heap.size, j, none⟩ = some v := fun j hj => ⟨vs[j], by rw [hown.cellAt j hj]; simp [hl, hj]⟩
      have HF : Hid (∀ j, wr.frozen? ⟨w.heap.size, j, none⟩ = false) := hfz
      have HC : Hid (∀ j, j < N * 3 → ∃ v, wr.cell? ⟨w.heap.size, j, none⟩ = some v) := hcell
      clear hc0 hc1 hc2 hs hown hins hbel hfz hcell hl g2'
      obtain ⟨x0, ex0⟩ : ∃ x, x = s0.getD k ByteArray.empty := ⟨_, rfl⟩
      obtain ⟨x1, ex1⟩ : ∃ x, x = s1.getD k ByteArray.empty := ⟨_, rfl⟩
      rw [← ex0] at g0
      rw [← ex1] at g1
      have HAk : Hid ((Pl.mk s0 s1 s2).getD k Pl.noRes = ⟨x0, x1, s2.getD k []⟩) := by show _ = _; rw [HAt.out k hlt, ex0, ex1]
      clear ex0 ex1
      have e0 : b0 ≠ w.heap.size := by omega
      have e1 : b1 ≠ w.heap.size := by omega
      have e2 : b2 ≠ w.heap.size := by omega
      have m0 : b0 < wr.heap.size := by omega
      have m1 : b1 < wr.heap.size := by omega
      have m2 : b2 < wr.heap.size := by omega
      have k0 : (k : Int) < (n0 : Int) := by omega
      have k1 : (k : Int) < (n1 : Int) := by omega
      have k2 : (k : Int) < (N : Int) := by omega
      go_wp2_with fail
      go_region_held3 (fun w' => w'.cell? ⟨b0, o0 + k, none⟩ = some (.string x0) ∧ w'.cell? ⟨b1, o1 + k, none⟩ = some (.string x1) ∧ w'.cell? ⟨b2, o2 + k, none⟩ = some (.slice a m c'))
        (first | exact ⟨g0, g1, g2⟩ | exact ⟨(hbc.cell (p := ⟨b0, o0 + k, none⟩) m0).trans g0, (hbc.cell (p := ⟨b1, o1 + k, none⟩) m1).trans g1, (hbc.cell (p := ⟨b2, o2 + k, none⟩) m2).trans g2⟩ | exact ⟨(far3 e0).trans ((hbc.cell (p := ⟨b0, o0 + k, none⟩) m0).trans g0), (far3 e1).trans ((hbc.cell (p := ⟨b1, o1 + k, none⟩) m1).trans g1), (far3 e2).trans ((hbc.cell (p := ⟨b2, o2 + k, none⟩) m2).trans g2)⟩)
        (first
          | (go_at_call 11; refine (cloneStrs a m c' (s2.getD k []) wr.drew hm HS.out).mono ?_; rintro e wc ⟨ac, cc, rfl, hsc, hgc, hbc⟩; have f0 : wc.frozen? ⟨w.heap.size, k * 3, none⟩ = false := (hbc.frozen (p := ⟨w.heap.size, k * 3, none⟩) hlt1).trans (HF.out _); have f1 : wc.frozen? ⟨w.heap.size, k * 3 + 1, none⟩ = false := (hbc.frozen (p := ⟨w.heap.size, k * 3 + 1, none⟩) hlt1).trans (HF.out _); have f2 : wc.frozen? ⟨w.heap.size, k * 3 + 2, none⟩ = false := (hbc.frozen (p := ⟨w.heap.size, k * 3 + 2, none⟩) hlt1).trans (HF.out _); obtain ⟨y0, p0⟩ := HC.out (k * 3) (by omega); obtain ⟨y1, p1⟩ := HC.out (k * 3 + 1) (by omega); obtain ⟨y2, p2⟩ := HC.out (k * 3 + 2) (by omega); have r0 : wc.cell? ⟨w.heap.size, k * 3, none⟩ = some y0 := (hbc.cell (p := ⟨w.heap.size, k * 3, none⟩) hlt1).trans p0; have r1 : wc.cell? ⟨w.heap.size, k * 3 + 1, none⟩ = some y1 := (hbc.cell (p := ⟨w.heap.size, k * 3 + 1, none⟩) hlt1).trans p1; have r2 : wc.cell? ⟨w.heap.size, k * 3 + 2, none⟩ = some y2 := (hbc.cell (p := ⟨w.heap.size, k * 3 + 2, none⟩) hlt1).trans p2; clear p0 p1 p2))
      have HR2 : Hid (ResRel w N (k + 1) (Pl.mk s0 s1 s2) (put3 wc w.heap.size k (.string x0) (.string x1) (.slice ac m cc))) := ResRel.step (wr := wr) HR.out hlt hm ⟨hbc.os, hbc.tape, hbc.output, hbc.size, hbc.block⟩ hsc hgc HAk.out
      clear hsc hgc hbc
      go_wp2_with fail
      go_roundw
      case rel => exact ⟨k + 1, by omega, by go_num, HR2.out⟩
      case measure => simp [intOf]; omega
    · have hkn : k = N := by omega
      subst hkn
      go_wp2_with fail
      go_ret
      exact ⟨_, _, rfl, HR.out.done HLen.out (by omega), HR.out.choose_spec.2.2⟩

set_option maxHeartbeats 1000000 in
theorem res21B (a0 a1 a2 : Option Addr) (n0 n1 n2 c0 c1 c2 : Nat) (s0 s1 : Pl.Strs) (s2 : List Pl.Strs) (w : World) (q0 : n0 ≤ 4096) (q1 : n1 ≤ 4096) (q2 : n2 ≤ 4096) (hin : ∀ s ∈ s2, s.length ≤ 65536)
    (h0 : SRow w a0 n0 s0) (h1 : SRow w a1 n1 s1) (h2 : NRow w a2 n2 s2) (N : Nat) (hN : N = min (min n0 n1) n2) (t1 : n1 < n0) (t2 : ¬ n2 < n1) :
    Calls Try.prog 21 #[.slice a0 n0 c0, .slice a1 n1 c1, .slice a2 n2 c2] w (ResPost N (Pl.mk s0 s1 s2) w) := by
  have H0 : Hid (SRow w a0 n0 s0) := h0
  have H1 : Hid (SRow w a1 n1 s1) := h1
  have H2 : Hid (NRow w a2 n2 s2) := h2
  have HI : Hid (∀ s ∈ s2, s.length ≤ 65536) := hin
  have HLen : Hid ((Pl.mk s0 s1 s2).length = N) := by show _ = _; rw [Pl.mk_length, h0.1, h1.1, h2.1, hN]
  have HAt : Hid (∀ k, k < N → (Pl.mk s0 s1 s2).getD k Pl.noRes = ⟨s0.getD k ByteArray.empty, s1.getD k ByteArray.empty, s2.getD k []⟩) := fun k hk => Pl.mk_at _ _ _ _ (by rw [h0.1, h1.1, h2.1]; omega)
  clear h0 h1 h2 hin
  obtain ⟨i0, hi, hz0, hz1, hz2⟩ := info_parts Try.info48
  have l0 : N ≤ n0 := by omega
  have l1 : N ≤ n1 := by omega
  have l2 : N ≤ n2 := by omega
  obtain rfl : N = n1 := by omega
  clear hN
  go_enter Try.func21, Try.ntmps21
  go_wp2_with (at_make; refine wpList_make_full _ rfl _ _ 37 rfl w.heap.size 48 i0 (.agg #[.string ByteArray.empty, .string ByteArray.empty, .slice none 0 0]) 3 Try.underlying37 hi hz0 hz1 _ _ _ _ N rfl rfl rfl rfl ?b2 ?b3 (Nat.le_refl _) ?_)
  case b2 => rw [hz2]; omega
  case b3 => unfold maxLen; omega
  intro w0 hown0 hgrow0
  go_wp2_with fail
  go_loopw [9] (fun i wr => ∃ k : Nat, k ≤ N ∧ i = .int .i64 k ∧ ResRel w N k (Pl.mk s0 s1 s2) wr) (fun i _ => N - (intOf i).toNat)
  case atStart => exact ⟨0, Nat.zero_le _, rfl, _, hown0, (fun j h => by omega), (Below.refl _ _).grown hgrow0 (Nat.le_refl _) (fun k h => by cases h)⟩
  case round =>
    obtain ⟨k, hk, rfl, hrel⟩ := hrel
    have HR : Hid (ResRel w N k (Pl.mk s0 s1 s2) wr) := hrel
    clear hrel
    by_cases hlt : k < N
    · obtain ⟨vs, hown, hins, hbel⟩ := HR.out
      obtain ⟨b0, o0, rfl, hb0, hc0⟩ := H0.out.at (k := k) (by omega)
      obtain ⟨b1, o1, rfl, hb1, hc1⟩ := H1.out.at (k := k) (by omega)
      obtain ⟨b2, o2, rfl, hb2, hc2⟩ := H2.out.at (k := k) (by omega)
      have g0 : wr.cell? ⟨b0, o0 + k, none⟩ = some (.string (s0.getD k ByteArray.empty)) := (hbel.cell (p := ⟨b0, o0 + k, none⟩) hb0).trans (hc0 k (by omega))
      have g1 : wr.cell? ⟨b1, o1 + k, none⟩ = some (.string (s1.getD k ByteArray.empty)) := (hbel.cell (p := ⟨b1, o1 + k, none⟩) hb1).trans (hc1 k (by omega))
      obtain ⟨a, m, c', g2', hs⟩ := hc2 k (by omega)
      have g2 : wr.cell? ⟨b2, o2 + k, none⟩ = some (.slice a m c') := (hbel.cell (p := ⟨b2, o2 + k, none⟩) hb2).trans g2'
      have HS : Hid (SRow wr a m (s2.getD k [])) := hs.below hbel (Nat.le_refl _)
      have hm : m ≤ 65536 := by
        rw [← hs.1]
        refine HI.out _ ?_
        have : k < s2.length := by rw [H2.out.1]; omega
        simp [List.getD, this]
      have hl : vs.length = N * 3 := by simpa using hown.1
      have hlt1 : w.heap.size < wr.heap.size := (hown.lt w.heap.size rfl).2
      have hfz : ∀ j, wr.frozen? ⟨w.heap.size, j, none⟩ = false := fun j => hown.frozenAt j
      have hcell : ∀ j, j < N * 3 → ∃ v, wr.cell? ⟨w.heap.size, j, none⟩ = some v := fun j hj => ⟨vs[j], by rw [hown.cellAt j hj]; simp [hl, hj]⟩
      have HF : Hid (∀ j, wr.frozen? ⟨w.heap.size, j, none⟩ = false) := hfz
      have HC : Hid (∀ j, j < N * 3 → ∃ v, wr.cell? ⟨w.heap.size, j, none⟩ = some v) := hcell
      clear hc0 hc1 hc2 hs hown hins hbel hfz hcell hl g2'
      obtain ⟨x0, ex0⟩ : ∃ x, x = s0.getD k ByteArray.empty := ⟨_, rfl⟩
      obtain ⟨x1, ex1⟩ : ∃ x, x = s1.getD k ByteArray.empty := ⟨_, rfl⟩
      rw [← ex0] at g0
      rw [← ex1] at g1
      have HAk : Hid ((Pl.mk s0 s1 s2).getD k Pl.noRes = ⟨x0, x1, s2.getD k []⟩) := by show _ = _; rw [HAt.out k hlt, ex0, ex1]
      clear ex0 ex1
      have e0 : b0 ≠ w.heap.size := by omega
      have e1 : b1 ≠ w.heap.size := by omega
      have e2 : b2 ≠ w.heap.size := by omega
      have m0 : b0 < wr.heap.size := by omega
      have m1 : b1 < wr.heap.size := by omega
      have m2 : b2 < wr.heap.size := by omega
      have k0 : (k : Int) < (n0 : Int) := by omega
      have k1 : (k : Int) < (N : Int) := by omega
      have k2 : (k : Int) < (n2 : Int) := by omega
      go_wp2_with fail
      go_region_held3 (fun w' => w'.cell? ⟨b0, o0 + k, none⟩ = some (.string x0) ∧ w'.cell? ⟨b1, o1 + k, none⟩ = some (.string x1) ∧ w'.cell? ⟨b2, o2 + k, none⟩ = some (.slice a m c'))
        (first | exact ⟨g0, g1, g2⟩ | exact ⟨(hbc.cell (p := ⟨b0, o0 + k, none⟩) m0).trans g0, (hbc.cell (p := ⟨b1, o1 + k, none⟩) m1).trans g1, (hbc.cell (p := ⟨b2, o2 + k, none⟩) m2).trans g2⟩ | exact ⟨(far3 e0).trans ((hbc.cell (p := ⟨b0, o0 + k, none⟩) m0).trans g0), (far3 e1).trans ((hbc.cell (p := ⟨b1, o1 + k, none⟩) m1).trans g1), (far3 e2).trans ((hbc.cell (p := ⟨b2, o2 + k, none⟩) m2).trans g2)⟩)
        (first
          | (go_at_call 11; refine (cloneStrs a m c' (s2.getD k []) wr.drew hm HS.out).mono ?_; rintro e wc ⟨ac, cc, rfl, hsc, hgc, hbc⟩; have f0 : wc.frozen? ⟨w.heap.size, k * 3, none⟩ = false := (hbc.frozen (p := ⟨w.heap.size, k * 3, none⟩) hlt1).trans (HF.out _); have f1 : wc.frozen? ⟨w.heap.size, k * 3 + 1, none⟩ = false := (hbc.frozen (p := ⟨w.heap.size, k * 3 + 1, none⟩) hlt1).trans (HF.out _); have f2 : wc.frozen? ⟨w.heap.size, k * 3 + 2, none⟩ = false := (hbc.frozen (p := ⟨w.heap.size, k * 3 + 2, none⟩) hlt1).trans (HF.out _); obtain ⟨y0, p0⟩ := HC.out (k * 3) (by omega); obtain ⟨y1, p1⟩ := HC.out (k * 3 + 1) (by omega); obtain ⟨y2, p2⟩ := HC.out (k * 3 + 2) (by omega); have r0 : wc.cell? ⟨w.heap.size, k * 3, none⟩ = some y0 := (hbc.cell (p := ⟨w.heap.size, k * 3, none⟩) hlt1).trans p0; have r1 : wc.cell? ⟨w.heap.size, k * 3 + 1, none⟩ = some y1 := (hbc.cell (p := ⟨w.heap.size, k * 3 + 1, none⟩) hlt1).trans p1; have r2 : wc.cell? ⟨w.heap.size, k * 3 + 2, none⟩ = some y2 := (hbc.cell (p := ⟨w.heap.size, k * 3 + 2, none⟩) hlt1).trans p2; clear p0 p1 p2))
      have HR2 : Hid (ResRel w N (k + 1) (Pl.mk s0 s1 s2) (put3 wc w.heap.size k (.string x0) (.string x1) (.slice ac m cc))) := ResRel.step (wr := wr) HR.out hlt hm ⟨hbc.os, hbc.tape, hbc.output, hbc.size, hbc.block⟩ hsc hgc HAk.out
      clear hsc hgc hbc
      go_wp2_with fail
      go_roundw
      case rel => exact ⟨k + 1, by omega, by go_num, HR2.out⟩
      case measure => simp [intOf]; omega
    · have hkn : k = N := by omega
      subst hkn
      go_wp2_with fail
      go_ret
      exact ⟨_, _, rfl, HR.out.done HLen.out (by omega), HR.out.choose_spec.2.2⟩

set_option maxHeartbeats 1000000 in
theorem res21C (a0 a1 a2 : Option Addr) (n0 n1 n2 c0 c1 c2 : Nat) (s0 s1 : Pl.Strs) (s2 : List Pl.Strs) (w : World) (q0 : n0 ≤ 4096) (q1 : n1 ≤ 4096) (q2 : n2 ≤ 4096) (hin : ∀ s ∈ s2, s.length ≤ 65536)
    (h0 : SRow w a0 n0 s0) (h1 : SRow w a1 n1 s1) (h2 : NRow w a2 n2 s2) (N : Nat) (hN : N = min (min n0 n1) n2) (t1 : ¬ n1 < n0) (t2 : n2 < n0) :
    Calls Try.prog 21 #[.slice a0 n0 c0, .slice a1 n1 c1, .slice a2 n2 c2] w (ResPost N (Pl.mk s0 s1 s2) w) := by
  have H0 : Hid (SRow w a0 n0 s0) := h0
  have H1 : Hid (SRow w a1 n1 s1) := h1
  have H2 : Hid (NRow w a2 n2 s2) := h2
  have HI : Hid (∀ s ∈ s2, s.length ≤ 65536) := hin
  have HLen : Hid ((Pl.mk s0 s1 s2).length = N) := by show _ = _; rw [Pl.mk_length, h0.1, h1.1, h2.1, hN]
  have HAt : Hid (∀ k, k < N → (Pl.mk s0 s1 s2).getD k Pl.noRes = ⟨s0.getD k ByteArray.empty, s1.getD k ByteArray.empty, s2.getD k []⟩) := fun k hk => Pl.mk_at _ _ _ _ (by rw [h0.1, h1.1, h2.1]; omega)
  clear h0 h1 h2 hin
  obtain ⟨i0, hi, hz0, hz1, hz2⟩ := info_parts Try.info48
  have l0 : N ≤ n0 := by omega
  have l1 : N ≤ n1 := by omega
  have l2 : N ≤ n2 := by omega
  obtain rfl : N = n2 := by omega
  clear hN
  go_enter Try.func21, Try.ntmps21
  go_wp2_with (at_make; refine wpList_make_full _ rfl _ _ 37 rfl w.heap.size 48 i0 (.agg #[.string ByteArray.empty, .string ByteArray.empty, .slice none 0 0]) 3 Try.underlying37 hi hz0 hz1 _ _ _ _ N rfl rfl rfl rfl ?b2 ?b3 (Nat.le_refl _) ?_)
  case b2 => rw [hz2]; omega
  case b3 => unfold maxLen; omega
  intro w0 hown0 hgrow0
  go_wp2_with fail
  go_loopw [9] (fun i wr => ∃ k : Nat, k ≤ N ∧ i = .int .i64 k ∧ ResRel w N k (Pl.mk s0 s1 s2) wr) (fun i _ => N - (intOf i).toNat)
  case atStart => exact ⟨0, Nat.zero_le _, rfl, _, hown0, (fun j h => by omega), (Below.refl _ _).grown hgrow0 (Nat.le_refl _) (fun k h => by cases h)⟩
  case round =>
    obtain ⟨k, hk, rfl, hrel⟩ := hrel
    have HR : Hid (ResRel w N k (Pl.mk s0 s1 s2) wr) := hrel
    clear hrel
    by_cases hlt : k < N
    · obtain ⟨vs, hown, hins, hbel⟩ := HR.out
      obtain ⟨b0, o0, rfl, hb0, hc0⟩ := H0.out.at (k := k) (by omega)
      obtain ⟨b1, o1, rfl, hb1, hc1⟩ := H1.out.at (k := k) (by omega)
      obtain ⟨b2, o2, rfl, hb2, hc2⟩ := H2.out.at (k := k) (by omega)
      have g0 : wr.cell? ⟨b0, o0 + k, none⟩ = some (.string (s0.getD k ByteArray.empty)) := (hbel.cell (p := ⟨b0, o0 + k, none⟩) hb0).trans (hc0 k (by omega))
      have g1 : wr.cell? ⟨b1, o1 + k, none⟩ = some (.string (s1.getD k ByteArray.empty)) := (hbel.cell (p := ⟨b1, o1 + k, none⟩) hb1).trans (hc1 k (by omega))
      obtain ⟨a, m, c', g2', hs⟩ := hc2 k (by omega)
      have g2 : wr.cell? ⟨b2, o2 + k, none⟩ = some (.slice a m c') := (hbel.cell (p := ⟨b2, o2 + k, none⟩) hb2).trans g2'
      have HS : Hid (SRow wr a m (s2.getD k [])) := hs.below hbel (Nat.le_refl _)
      have hm : m ≤ 65536 := by
        rw [← hs.1]
        refine HI.out _ ?_
        have : k < s2.length := by rw [H2.out.1]; omega
        simp [List.getD, this]
      have hl : vs.length = N * 3 := by simpa using hown.1
      have hlt1 : w.heap.size < wr.heap.size := (hown.lt w.heap.size rfl).2
      have hfz : ∀ j, wr.frozen? ⟨w.heap.size, j, none⟩ = false := fun j => hown.frozenAt j
      have hcell : ∀ j, j < N * 3 → ∃ v, wr.cell? ⟨w.heap.size, j, none⟩ = some v := fun j hj => ⟨vs[j], by rw [hown.cellAt j hj]; simp [hl, hj]⟩
      have HF : Hid (∀ j, wr.frozen? ⟨w.heap.size, j, none⟩ = false) := hfz
      have HC : Hid (∀ j, j < N * 3 → ∃ v, wr.cell? ⟨w.heap.size, j, none⟩ = some v) := hcell
      clear hc0 hc1 hc2 hs hown hins hbel hfz hcell hl g2'
      obtain ⟨x0, ex0⟩ : ∃ x, x = s0.getD k ByteArray.empty := ⟨_, rfl⟩
      obtain ⟨x1, ex1⟩ : ∃ x, x = s1.getD k ByteArray.empty := ⟨_, rfl⟩
      rw [← ex0] at g0
      rw [← ex1] at g1
      have HAk : Hid ((Pl.mk s0 s1 s2).getD k Pl.noRes = ⟨x0, x1, s2.getD k []⟩) := by show _ = _; rw [HAt.out k hlt, ex0, ex1]
      clear ex0 ex1
      have e0 : b0 ≠ w.heap.size := by omega
      have e1 : b1 ≠ w.heap.size := by omega
      have e2 : b2 ≠ w.heap.size := by omega
      have m0 : b0 < wr.heap.size := by omega
      have m1 : b1 < wr.heap.size := by omega
      have m2 : b2 < wr.heap.size := by omega
      have k0 : (k : Int) < (n0 : Int) := by omega
      have k1 : (k : Int) < (n1 : Int) := by omega
      have k2 : (k : Int) < (N : Int) := by omega
      go_wp2_with fail
      go_region_held3 (fun w' => w'.cell? ⟨b0, o0 + k, none⟩ = some (.string x0) ∧ w'.cell? ⟨b1, o1 + k, none⟩ = some (.string x1) ∧ w'.cell? ⟨b2, o2 + k, none⟩ = some (.slice a m c'))
        (first | exact ⟨g0, g1, g2⟩ | exact ⟨(hbc.cell (p := ⟨b0, o0 + k, none⟩) m0).trans g0, (hbc.cell (p := ⟨b1, o1 + k, none⟩) m1).trans g1, (hbc.cell (p := ⟨b2, o2 + k, none⟩) m2).trans g2⟩ | exact ⟨(far3 e0).trans ((hbc.cell (p := ⟨b0, o0 + k, none⟩) m0).trans g0), (far3 e1).trans ((hbc.cell (p := ⟨b1, o1 + k, none⟩) m1).trans g1), (far3 e2).trans ((hbc.cell (p := ⟨b2, o2 + k, none⟩) m2).trans g2)⟩)
        (first
          | (go_at_call 11; refine (cloneStrs a m c' (s2.getD k []) wr.drew hm HS.out).mono ?_; rintro e wc ⟨ac, cc, rfl, hsc, hgc, hbc⟩; have f0 : wc.frozen? ⟨w.heap.size, k * 3, none⟩ = false := (hbc.frozen (p := ⟨w.heap.size, k * 3, none⟩) hlt1).trans (HF.out _); have f1 : wc.frozen? ⟨w.heap.size, k * 3 + 1, none⟩ = false := (hbc.frozen (p := ⟨w.heap.size, k * 3 + 1, none⟩) hlt1).trans (HF.out _); have f2 : wc.frozen? ⟨w.heap.size, k * 3 + 2, none⟩ = false := (hbc.frozen (p := ⟨w.heap.size, k * 3 + 2, none⟩) hlt1).trans (HF.out _); obtain ⟨y0, p0⟩ := HC.out (k * 3) (by omega); obtain ⟨y1, p1⟩ := HC.out (k * 3 + 1) (by omega); obtain ⟨y2, p2⟩ := HC.out (k * 3 + 2) (by omega); have r0 : wc.cell? ⟨w.heap.size, k * 3, none⟩ = some y0 := (hbc.cell (p := ⟨w.heap.size, k * 3, none⟩) hlt1).trans p0; have r1 : wc.cell? ⟨w.heap.size, k * 3 + 1, none⟩ = some y1 := (hbc.cell (p := ⟨w.heap.size, k * 3 + 1, none⟩) hlt1).trans p1; have r2 : wc.cell? ⟨w.heap.size, k * 3 + 2, none⟩ = some y2 := (hbc.cell (p := ⟨w.heap.size, k * 3 + 2, none⟩) hlt1).trans p2; clear p0 p1 p2))
      have HR2 : Hid (ResRel w N (k + 1) (Pl.mk s0 s1 s2) (put3 wc w.heap.size k (.string x0) (.string x1) (.slice ac m cc))) := ResRel.step (wr := wr) HR.out hlt hm ⟨hbc.os, hbc.tape, hbc.output, hbc.size, hbc.block⟩ hsc hgc HAk.out
      clear hsc hgc hbc
      go_wp2_with fail
      go_roundw
      case rel => exact ⟨k + 1, by omega, by go_num, HR2.out⟩
      case measure => simp [intOf]; omega
    · have hkn : k = N := by omega
      subst hkn
      go_wp2_with fail
      go_ret
      exact ⟨_, _, rfl, HR.out.done HLen.out (by omega), HR.out.choose_spec.2.2⟩

set_option maxHeartbeats 1000000 in
theorem res21D (a0 a1 a2 : Option Addr) (n0 n1 n2 c0 c1 c2 : Nat) (s0 s1 : Pl.Strs) (s2 : List Pl.Strs) (w : World) (q0 : n0 ≤ 4096) (q1 : n1 ≤ 4096) (q2 : n2 ≤ 4096) (hin : ∀ s ∈ s2, s.length ≤ 65536)
    (h0 : SRow w a0 n0 s0) (h1 : SRow w a1 n1 s1) (h2 : NRow w a2 n2 s2) (N : Nat) (hN : N = min (min n0 n1) n2) (t1 : ¬ n1 < n0) (t2 : ¬ n2 < n0) :
    Calls Try.prog 21 #[.slice a0 n0 c0, .slice a1 n1 c1, .slice a2 n2 c2] w (ResPost N (Pl.mk s0 s1 s2) w) := by
  have H0 : Hid (SRow w a0 n0 s0) := h0
  have H1 : Hid (SRow w a1 n1 s1) := h1
  have H2 : Hid (NRow w a2 n2 s2) := h2
  have HI : Hid (∀ s ∈ s2, s.length ≤ 65536) := hin
  have HLen : Hid ((Pl.mk s0 s1 s2).length = N) := by show _ = _; rw [Pl.mk_length, h0.1, h1.1, h2.1, hN]
  have HAt : Hid (∀ k, k < N → (Pl.mk s0 s1 s2).getD k Pl.noRes = ⟨s0.getD k ByteArray.empty, s1.getD k ByteArray.empty, s2.getD k []⟩) := fun k hk => Pl.mk_at _ _ _ _ (by rw [h0.1, h1.1, h2.1]; omega)
  clear h0 h1 h2 hin
  obtain ⟨i0, hi, hz0, hz1, hz2⟩ := info_parts Try.info48
  have l0 : N ≤ n0 := by omega
  have l1 : N ≤ n1 := by omega
  have l2 : N ≤ n2 := by omega
  obtain rfl : N = n0 := by omega
  clear hN
  go_enter Try.func21, Try.ntmps21
  go_wp2_with (at_make; refine wpList_make_full _ rfl _ _ 37 rfl w.heap.size 48 i0 (.agg #[.string ByteArray.empty, .string ByteArray.empty, .slice none 0 0]) 3 Try.underlying37 hi hz0 hz1 _ _ _ _ N rfl rfl rfl rfl ?b2 ?b3 (Nat.le_refl _) ?_)
  case b2 => rw [hz2]; omega
  case b3 => unfold maxLen; omega
  intro w0 hown0 hgrow0
  go_wp2_with fail
  go_loopw [9] (fun i wr => ∃ k : Nat, k ≤ N ∧ i = .int .i64 k ∧ ResRel w N k (Pl.mk s0 s1 s2) wr) (fun i _ => N - (intOf i).toNat)
  case atStart => exact ⟨0, Nat.zero_le _, rfl, _, hown0, (fun j h => by omega), (Below.refl _ _).grown hgrow0 (Nat.le_refl _) (fun k h => by cases h)⟩
  case round =>
    obtain ⟨k, hk, rfl, hrel⟩ := hrel
    have HR : Hid (ResRel w N k (Pl.mk s0 s1 s2) wr) := hrel
    clear hrel
    by_cases hlt : k < N
    · obtain ⟨vs, hown, hins, hbel⟩ := HR.out
      obtain ⟨b0, o0, rfl, hb0, hc0⟩ := H0.out.at (k := k) (by omega)
      obtain ⟨b1, o1, rfl, hb1, hc1⟩ := H1.out.at (k := k) (by omega)
      obtain ⟨b2, o2, rfl, hb2, hc2⟩ := H2.out.at (k := k) (by omega)
      have g0 : wr.cell? ⟨b0, o0 + k, none⟩ = some (.string (s0.getD k ByteArray.empty)) := (hbel.cell (p := ⟨b0, o0 + k, none⟩) hb0).trans (hc0 k (by omega))
      have g1 : wr.cell? ⟨b1, o1 + k, none⟩ = some (.string (s1.getD k ByteArray.empty)) := (hbel.cell (p := ⟨b1, o1 + k, none⟩) hb1).trans (hc1 k (by omega))
      obtain ⟨a, m, c', g2', hs⟩ := hc2 k (by omega)
      have g2 : wr.cell? ⟨b2, o2 + k, none⟩ = some (.slice a m c') := (hbel.cell (p := ⟨b2, o2 + k, none⟩) hb2).trans g2'
      have HS : Hid (SRow wr a m (s2.getD k [])) := hs.below hbel (Nat.le_refl _)
      have hm : m ≤ 65536 := by
        rw [← hs.1]
        refine HI.out _ ?_
        have : k < s2.length := by rw [H2.out.1]; omega
        simp [List.getD, this]
      have hl : vs.length = N * 3 := by simpa using hown.1
      have hlt1 : w.heap.size < wr.heap.size := (hown.lt w.heap.size rfl).2
      have hfz : ∀ j, wr.frozen? ⟨w.heap.size, j, none⟩ = false := fun j => hown.frozenAt j
      have hcell : ∀ j, j < N * 3 → ∃ v, wr.cell? ⟨w.heap.size, j, none⟩ = some v := fun j hj => ⟨vs[j], by rw [hown.cellAt j hj]; simp [hl, hj]⟩
      have HF : Hid (∀ j, wr.frozen? ⟨w.heap.size, j, none⟩ = false) := hfz
      have HC : Hid (∀ j, j < N * 3 → ∃ v, wr.cell? ⟨w.heap.size, j, none⟩ = some v) := hcell
      clear hc0 hc1 hc2 hs hown hins hbel hfz hcell hl g2'
      obtain ⟨x0, ex0⟩ : ∃ x, x = s0.getD k ByteArray.empty := ⟨_, rfl⟩
      obtain ⟨x1, ex1⟩ : ∃ x, x = s1.getD k ByteArray.empty := ⟨_, rfl⟩
      rw [← ex0] at g0
      rw [← ex1] at g1
      have HAk : Hid ((Pl.mk s0 s1 s2).getD k Pl.noRes = ⟨x0, x1, s2.getD k []⟩) := by show _ = _; rw [HAt.out k hlt, ex0, ex1]
      clear ex0 ex1
      have e0 : b0 ≠ w.heap.size := by omega
      have e1 : b1 ≠ w.heap.size := by omega
      have e2 : b2 ≠ w.heap.size := by omega
      have m0 : b0 < wr.heap.size := by omega
      have m1 : b1 < wr.heap.size := by omega
      have m2 : b2 < wr.heap.size := by omega
      have k0 : (k : Int) < (N : Int) := by omega
      have k1 : (k : Int) < (n1 : Int) := by omega
      have k2 : (k : Int) < (n2 : Int) := by omega
      go_wp2_with fail
      go_region_held3 (fun w' => w'.cell? ⟨b0, o0 + k, none⟩ = some (.string x0) ∧ w'.cell? ⟨b1, o1 + k, none⟩ = some (.string x1) ∧ w'.cell? ⟨b2, o2 + k, none⟩ = some (.slice a m c'))
        (first | exact ⟨g0, g1, g2⟩ | exact ⟨(hbc.cell (p := ⟨b0, o0 + k, none⟩) m0).trans g0, (hbc.cell (p := ⟨b1, o1 + k, none⟩) m1).trans g1, (hbc.cell (p := ⟨b2, o2 + k, none⟩) m2).trans g2⟩ | exact ⟨(far3 e0).trans ((hbc.cell (p := ⟨b0, o0 + k, none⟩) m0).trans g0), (far3 e1).trans ((hbc.cell (p := ⟨b1, o1 + k, none⟩) m1).trans g1), (far3 e2).trans ((hbc.cell (p := ⟨b2, o2 + k, none⟩) m2).trans g2)⟩)
        (first
          | (go_at_call 11; refine (cloneStrs a m c' (s2.getD k []) wr.drew hm HS.out).mono ?_; rintro e wc ⟨ac, cc, rfl, hsc, hgc, hbc⟩; have f0 : wc.frozen? ⟨w.heap.size, k * 3, none⟩ = false := (hbc.frozen (p := ⟨w.heap.size, k * 3, none⟩) hlt1).trans (HF.out _); have f1 : wc.frozen? ⟨w.heap.size, k * 3 + 1, none⟩ = false := (hbc.frozen (p := ⟨w.heap.size, k * 3 + 1, none⟩) hlt1).trans (HF.out _); have f2 : wc.frozen? ⟨w.heap.size, k * 3 + 2, none⟩ = false := (hbc.frozen (p := ⟨w.heap.size, k * 3 + 2, none⟩) hlt1).trans (HF.out _); obtain ⟨y0, p0⟩ := HC.out (k * 3) (by omega); obtain ⟨y1, p1⟩ := HC.out (k * 3 + 1) (by omega); obtain ⟨y2, p2⟩ := HC.out (k * 3 + 2) (by omega); have r0 : wc.cell? ⟨w.heap.size, k * 3, none⟩ = some y0 := (hbc.cell (p := ⟨w.heap.size, k * 3, none⟩) hlt1).trans p0; have r1 : wc.cell? ⟨w.heap.size, k * 3 + 1, none⟩ = some y1 := (hbc.cell (p := ⟨w.heap.size, k * 3 + 1, none⟩) hlt1).trans p1; have r2 : wc.cell? ⟨w.heap.size, k * 3 + 2, none⟩ = some y2 := (hbc.cell (p := ⟨w.heap.size, k * 3 + 2, none⟩) hlt1).trans p2; clear p0 p1 p2))
      have HR2 : Hid (ResRel w N (k + 1) (Pl.mk s0 s1 s2) (put3 wc w.heap.size k (.string x0) (.string x1) (.slice ac m cc))) := ResRel.step (wr := wr) HR.out hlt hm ⟨hbc.os, hbc.tape, hbc.output, hbc.size, hbc.block⟩ hsc hgc HAk.out
      clear hsc hgc hbc
      go_wp2_with fail
      go_roundw
      case rel => exact ⟨k + 1, by omega, by go_num, HR2.out⟩
      case measure => simp [intOf]; omega
    · have hkn : k = N := by omega
      subst hkn
      go_wp2_with fail
      go_ret
      exact ⟨_, _, rfl, HR.out.done HLen.out (by omega), HR.out.choose_spec.2.2⟩

theorem res21 (a0 a1 a2 : Option Addr) (n0 n1 n2 c0 c1 c2 : Nat) (s0 s1 : Pl.Strs) (s2 : List Pl.Strs) (w : World) (q0 : n0 ≤ 4096) (q1 : n1 ≤ 4096) (q2 : n2 ≤ 4096) (hin : ∀ s ∈ s2, s.length ≤ 65536)
    (h0 : SRow w a0 n0 s0) (h1 : SRow w a1 n1 s1) (h2 : NRow w a2 n2 s2) (N : Nat) (hN : N = min (min n0 n1) n2) :
    Calls Try.prog 21 #[.slice a0 n0 c0, .slice a1 n1 c1, .slice a2 n2 c2] w (ResPost N (Pl.mk s0 s1 s2) w) := by
  by_cases t1 : n1 < n0
  · by_cases t2 : n2 < n1
    · exact res21A a0 a1 a2 n0 n1 n2 c0 c1 c2 s0 s1 s2 w q0 q1 q2 hin h0 h1 h2 N hN t1 t2
    · exact res21B a0 a1 a2 n0 n1 n2 c0 c1 c2 s0 s1 s2 w q0 q1 q2 hin h0 h1 h2 N hN t1 t2
  · by_cases t2 : n2 < n0
    · exact res21C a0 a1 a2 n0 n1 n2 c0 c1 c2 s0 s1 s2 w q0 q1 q2 hin h0 h1 h2 N hN t1 t2
    · exact res21D a0 a1 a2 n0 n1 n2 c0 c1 c2 s0 s1 s2 w q0 q1 q2 hin h0 h1 h2 N hN t1 t2

end Go.Proofs.Qxb6001426a
