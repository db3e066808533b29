/-
  Contracts: zzCatRes (24), zzNoActions (25).
-/
import Derived.Test.Qxb6001426aRes
namespace Go.Proofs.Qxb6001426a
open Go.RowKit
set_option linter.unusedVariables false

set_option maxHeartbeats 400000 in
theorem noActions25 (ao : Option Addr) (n c : Nat) (rs : List Pl.Res) (w : World) (hr : RRow w ao n rs) :
    Calls Try.prog 25 #[.slice ao n c] w fun e w' => e = .returned (.bool (Pl.noActs rs)) ∧ w' = w := by
  have hn := hr.2.1
  have HR : Hid (RRow w ao n rs) := hr
  have HL : Hid (rs.length = n) := hr.1
  clear hr
  go_enter Try.func25, Try.ntmps25
  go_wp2_with fail
  go_loop [3] (fun i => ∃ (k : Nat), k ≤ n ∧ i = .int .i64 k ∧ (rs.take k).all (fun r => r.acts.isEmpty) = true) (fun i => n - (intOf i).toNat)
  case atStart => exact ⟨0, Nat.zero_le _, rfl, rfl⟩
  case round =>
    obtain ⟨k, hk, rfl, hyes⟩ := hrel
    have HY : Hid ((rs.take k).all (fun r => r.acts.isEmpty) = true) := hyes
    clear hyes
    by_cases hlt : k < n
    · obtain ⟨b', off, rfl, hb, hcl⟩ := HR.out.at hlt
      obtain ⟨g0, g1, a, m, c', g2, hm, hs⟩ := hcl k hlt
      have HK : Hid (k < rs.length) := by show k < rs.length; rw [HL.out]; exact hlt
      have HM : Hid ((rs.getD k Pl.noRes).acts.length = m) := hs.1
      clear hcl hs g0 g1
      by_cases h0 : m = 0
      · have HP : Hid ((rs.take (k + 1)).all (fun r => r.acts.isEmpty) = true) := by
          show (rs.take (k + 1)).all (fun r => r.acts.isEmpty) = true
          rw [Pl.take_snoc rs k Pl.noRes HK.out]
          have : (rs.getD k Pl.noRes).acts = [] := List.length_eq_zero_iff.1 (by rw [HM.out]; exact h0)
          simp only [List.all_append, List.all_cons, List.all_nil, Bool.and_true, Bool.and_eq_true]
          exact ⟨HY.out, by rw [this]; rfl⟩
        subst h0
        go_wp2_with fail
        go_round
        case rel => exact ⟨k + 1, by omega, by go_num, HP.out⟩
        case measure => simp [intOf]; omega
      · have HP : Hid (Pl.noActs rs = false) := by
          show Pl.noActs rs = false
          unfold Pl.noActs
          rw [List.all_eq_false]
          refine ⟨rs.getD k Pl.noRes, by have := HK.out; simp [List.getD, this], ?_⟩
          intro he
          have := List.isEmpty_iff.1 he
          have hm2 := HM.out
          rw [this] at hm2
          exact h0 hm2.symm
        have hpos : 0 < m := by omega
        clear h0
        go_wp2_with fail
        go_ret
        exact ⟨by rw [HP.out]; rfl, rfl⟩
    · have e : rs.take k = rs := List.take_of_length_le (by rw [HL.out]; omega)
      have HP : Hid (Pl.noActs rs = true) := by have := HY.out; rw [e] at this; exact this
      clear e
      go_wp2_with fail
      go_ret
      exact ⟨by rw [HP.out]; rfl, rfl⟩

/-- One resource among the cells of an owned row; its actions lie in the world as it was at the call. -/
def CatIn (w : World) (vs : List Value) (j : Nat) (r : Pl.Res) : Prop :=
  vs[j * 3]? = some (.string r.ty) ∧ vs[j * 3 + 1]? = some (.string r.nm) ∧ ∃ a m c, vs[j * 3 + 2]? = some (.slice a m c) ∧ m ≤ 65536 ∧ SRow w a m r.acts

/-- The relation in zzCatRes: what has been gathered, at the head of the row that was made. -/
def CatRel (w : World) (cap k : Nat) (rs : List Pl.Res) (v : Value) (wr : World) : Prop :=
  ∃ vs : List Value, v = .slice (some ⟨w.heap.size, 0, none⟩) k cap ∧ rs.length = k ∧ wr.ownsRow w.heap.size 48 3 (.slice (some ⟨w.heap.size, 0, none⟩) k cap) k vs ∧ (∀ j, j < k → CatIn w vs j (rs.getD j Pl.noRes)) ∧ Below w.heap.size w wr

theorem CatRel.step {w wr w1 : World} {cap k m c : Nat} {rs : List Pl.Res} {vs : List Value} {a : Option Addr} {r : Pl.Res} (hl : rs.length = k)
    (hown : wr.ownsRow w.heap.size 48 3 (.slice (some ⟨w.heap.size, 0, none⟩) k cap) k vs) (hin : ∀ j, j < k → CatIn w vs j (rs.getD j Pl.noRes)) (hm : m ≤ 65536) (hs : SRow w a m r.acts)
    (hown1 : w1.ownsRow w.heap.size 48 3 (.slice (some ⟨w.heap.size, 0, none⟩) (k + 1) cap) (k + 1) (vs ++ [.string r.ty, .string r.nm, .slice a m c])) (hb : Below w.heap.size w w1) :
    CatRel w cap (k + 1) (rs ++ [r]) (.slice (some ⟨w.heap.size, 0, none⟩) (k + 1) cap) w1 := by
  have hv : vs.length = k * 3 := hown.1
  refine ⟨_, rfl, by simp [hl], hown1, fun j hj => ?_, hb⟩
  by_cases e : j = k
  · subst e
    have er : (rs ++ [r]).getD j Pl.noRes = r := by simp [List.getD, ← hl]
    rw [er]
    refine ⟨?_, ?_, a, m, c, ?_, hm, hs⟩
    · rw [List.getElem?_append_right (by omega), hv, Nat.sub_self]; rfl
    · rw [List.getElem?_append_right (by omega), hv, show j * 3 + 1 - j * 3 = 1 from by omega]; rfl
    · rw [List.getElem?_append_right (by omega), hv, show j * 3 + 2 - j * 3 = 2 from by omega]; rfl
  · have hj' : j < k := by omega
    have er : (rs ++ [r]).getD j Pl.noRes = rs.getD j Pl.noRes := by
      simp only [List.getD]
      rw [List.getElem?_append_left (by omega)]
    rw [er]
    obtain ⟨h1, h2, a', m', c', h3, h4, h5⟩ := hin j hj'
    exact ⟨by rw [List.getElem?_append_left (by omega)]; exact h1, by rw [List.getElem?_append_left (by omega)]; exact h2, a', m', c', by rw [List.getElem?_append_left (by omega)]; exact h3, h4, h5⟩

theorem CatRel.done {w wr : World} {cap k : Nat} {rs : List Pl.Res} {v : Value} (h : CatRel w cap k rs v wr) (hk : k ≤ 65536) : ResPost k rs w (.returned v) wr := by
  obtain ⟨vs, rfl, hl, hown, hin, hb⟩ := h
  refine ⟨_, _, rfl, ⟨hl, hk, .inr ⟨w.heap.size, 0, rfl, (hown.lt w.heap.size rfl).2, fun j hj => ?_⟩⟩, hb⟩
  obtain ⟨h1, h2, a, m, c, h3, hm, h4⟩ := hin j hj
  rw [Nat.zero_add]
  exact ⟨by rw [hown.cellAt _ (by omega)]; exact h1, by rw [hown.cellAt _ (by omega)]; exact h2, a, m, c, by rw [hown.cellAt _ (by omega)]; exact h3, hm, h4.below hb (Nat.le_refl _)⟩

theorem three_cells {w : World} {B : Nat} {x y z : Value} (hB : B = w.heap.size) : ∀ j u, ([x, y, z] : List Value)[j]? = some u → (w.alloc (.cells #[x, y, z] 48)).cell? ((⟨B, 0, none⟩ : Addr).add j) = some u := by
  intro j u hj
  subst hB
  rw [Addr.add_lit, Nat.zero_add]
  match j, hj with
  | 0, hj => simpa [go_sem] using hj
  | 1, hj => simpa [go_sem] using hj
  | 2, hj => simpa [go_sem] using hj

set_option maxHeartbeats 1000000 in
theorem catRes24 (ao bo : Option Addr) (n m c1 c2 : Nat) (xs ys : List Pl.Res) (w : World) (hx : RRow w ao n xs) (hy : RRow w bo m ys) (hnm : n + m ≤ 65536) :
    Calls Try.prog 24 #[.slice ao n c1, .slice bo m c2] w (ResPost (n + m) (xs ++ ys) w) := by
  have HX : Hid (RRow w ao n xs) := hx
  have HY : Hid (RRow w bo m ys) := hy
  clear hx hy
  obtain ⟨i0, hi, hz0, hz1, hz2⟩ := info_parts Try.info48
  go_enter Try.func24, Try.ntmps24
  go_wp2_with (at_make; refine wpList_make_own _ rfl _ _ 37 rfl w.heap.size 48 i0 (.agg #[.string ByteArray.empty, .string ByteArray.empty, .slice none 0 0]) 3 Try.underlying37 hi hz0 hz1 _ _ _ (n + m) rfl rfl (by omega) ?b2 ?b3 (Nat.le_refl _) ?_)
  case b2 => rw [hz2]; omega
  case b3 => unfold maxLen; omega
  intro w0 hown0 hgrow0
  go_wp2_with fail
  go_loopw [5, 6] (fun v i wr => ∃ k : Nat, k ≤ n ∧ i = .int .i64 k ∧ CatRel w (n + m) k (xs.take k) v wr) (fun _ i _ => n - (intOf i).toNat)
  case atStart => exact ⟨0, Nat.zero_le _, rfl, [], rfl, rfl, hown0, (fun j h => by omega), (Below.refl _ _).grown hgrow0 (Nat.le_refl _) (fun k h => by cases h)⟩
  case round =>
    obtain ⟨k, hk, rfl, hrel⟩ := hrel
    obtain ⟨vs, rfl, hlen, hown, hins, hbel⟩ := hrel
    by_cases hlt : k < n
    · obtain ⟨b', off, rfl, hb, hcl⟩ := HX.out.at hlt
      obtain ⟨g0', g1', a, l, c', g2', hl, hs⟩ := hcl k hlt
      obtain ⟨r, er⟩ : ∃ r, r = xs.getD k Pl.noRes := ⟨_, rfl⟩
      rw [← er] at g0' g1' hs
      have HE : Hid (xs.take (k + 1) = xs.take k ++ [r]) := by
        show _ = _
        rw [er]
        exact Pl.take_snoc xs k Pl.noRes (by rw [HX.out.1]; exact hlt)
      have g0 : wr.cell? ⟨b', off + k * 3, none⟩ = some (.string r.ty) := (hbel.cell (p := ⟨b', off + k * 3, none⟩) hb).trans g0'
      have g1 : wr.cell? ⟨b', off + k * 3 + 1, none⟩ = some (.string r.nm) := (hbel.cell (p := ⟨b', off + k * 3 + 1, none⟩) hb).trans g1'
      have g2 : wr.cell? ⟨b', off + k * 3 + 2, none⟩ = some (.slice a l c') := (hbel.cell (p := ⟨b', off + k * 3 + 2, none⟩) hb).trans g2'
      have HO : Hid (wr.ownsRow w.heap.size 48 3 (.slice (some ⟨w.heap.size, 0, none⟩) k (n + m)) k vs) := hown
      have HI : Hid (∀ j, j < k → CatIn w vs j ((xs.take k).getD j Pl.noRes)) := hins
      have HB : Hid (Below w.heap.size w wr) := hbel
      have HS : Hid (SRow w a l r.acts) := hs
      have HLN : Hid ((xs.take k).length = k) := hlen
      clear hown hins hbel hcl er hs hlen g0' g1' g2'
      go_wp2_with (at_builtin; refine wpList_append_fits _ rfl (.tmp 20) (.tmp 25) 37 rfl w.heap.size 48 i0 3 Try.underlying37 hi hz1 w.heap.size k (n + m) vs rfl (HO.out.alloc _) ⟨wr.heap.size, 0, none⟩ 1 1 [.string r.ty, .string r.nm, .slice a l c'] rfl rfl (three_cells rfl) ?cA ?cB ?_)
      case cA => intro u hu; simp at hu; rcases hu with rfl | rfl | rfl <;> rfl
      case cB => omega
      intro w1 hown1 hgrow1
      have HC : Hid (CatRel w (n + m) (k + 1) (xs.take (k + 1)) (.slice (some ⟨w.heap.size, 0, none⟩) (k + 1) (n + m)) w1) := by
        show CatRel _ _ _ _ _ _
        rw [HE.out]
        exact CatRel.step HLN.out HO.out HI.out hl HS.out hown1 ((HB.out.alloc HB.out.size _).grown hgrow1 (by simp; have := HB.out.size; omega) (fun j hj => by cases hj; exact Nat.le_refl _))
      clear hown1 hgrow1
      go_wp2_with fail
      go_roundw
      case rel => exact ⟨k + 1, by omega, by go_num, HC.out⟩
      case measure => simp [intOf]; omega
    · have hkn : k = n := by omega
      subst hkn
      have HC0 : Hid (CatRel w (k + m) (k + 0) (xs ++ ys.take 0) (.slice (some ⟨w.heap.size, 0, none⟩) k (k + m)) wr) := by
        have e : xs ++ ys.take 0 = xs.take k := by
          have h0 : xs.take k = xs := List.take_of_length_le (by rw [HX.out.1]; omega)
          rw [h0]
          simp
        show CatRel _ _ _ _ _ _
        rw [e]
        exact ⟨vs, rfl, hlen, hown, hins, hbel⟩
      clear hlen hown hins hbel
      go_wp2_with fail
      go_loopw [5, 7] (fun v i wr => ∃ j : Nat, j ≤ m ∧ i = .int .i64 j ∧ CatRel w (k + m) (k + j) (xs ++ ys.take j) v wr) (fun _ i _ => m - (intOf i).toNat)
      case atStart => exact ⟨0, Nat.zero_le _, rfl, HC0.out⟩
      case round =>
        obtain ⟨j, hj, rfl, hrel⟩ := hrel
        obtain ⟨vs, rfl, hlen, hown, hins, hbel⟩ := hrel
        clear HC0
        by_cases hjl : j < m
        · obtain ⟨b', off, rfl, hb, hcl⟩ := HY.out.at hjl
          obtain ⟨g0', g1', a, l, c', g2', hl, hs⟩ := hcl j hjl
          obtain ⟨r, er⟩ : ∃ r, r = ys.getD j Pl.noRes := ⟨_, rfl⟩
          rw [← er] at g0' g1' hs
          have HE : Hid (xs ++ ys.take (j + 1) = xs ++ ys.take j ++ [r]) := by
            show _ = _
            rw [er, List.append_assoc]
            rw [Pl.take_snoc ys j Pl.noRes (by rw [HY.out.1]; exact hjl)]
          have g0 : wr.cell? ⟨b', off + j * 3, none⟩ = some (.string r.ty) := (hbel.cell (p := ⟨b', off + j * 3, none⟩) hb).trans g0'
          have g1 : wr.cell? ⟨b', off + j * 3 + 1, none⟩ = some (.string r.nm) := (hbel.cell (p := ⟨b', off + j * 3 + 1, none⟩) hb).trans g1'
          have g2 : wr.cell? ⟨b', off + j * 3 + 2, none⟩ = some (.slice a l c') := (hbel.cell (p := ⟨b', off + j * 3 + 2, none⟩) hb).trans g2'
          have HO : Hid (wr.ownsRow w.heap.size 48 3 (.slice (some ⟨w.heap.size, 0, none⟩) (k + j) (k + m)) (k + j) vs) := hown
          have HI : Hid (∀ t, t < k + j → CatIn w vs t ((xs ++ ys.take j).getD t Pl.noRes)) := hins
          have HB : Hid (Below w.heap.size w wr) := hbel
          have HS : Hid (SRow w a l r.acts) := hs
          have HLN : Hid ((xs ++ ys.take j).length = k + j) := hlen
          clear hown hins hbel hcl er hs hlen g0' g1' g2'
          go_wp2_with (at_builtin; refine wpList_append_fits _ rfl (.tmp 33) (.tmp 38) 37 rfl w.heap.size 48 i0 3 Try.underlying37 hi hz1 w.heap.size (k + j) (k + m) vs rfl (HO.out.alloc _) ⟨wr.heap.size, 0, none⟩ 1 1 [.string r.ty, .string r.nm, .slice a l c'] rfl rfl (three_cells rfl) ?cA ?cB ?_)
          case cA => intro u hu; simp at hu; rcases hu with rfl | rfl | rfl <;> rfl
          case cB => omega
          intro w1 hown1 hgrow1
          have HC : Hid (CatRel w (k + m) (k + (j + 1)) (xs ++ ys.take (j + 1)) (.slice (some ⟨w.heap.size, 0, none⟩) (k + j + 1) (k + m)) w1) := by
            show CatRel _ _ _ _ _ _
            rw [HE.out]
            exact CatRel.step HLN.out HO.out HI.out hl HS.out hown1 ((HB.out.alloc HB.out.size _).grown hgrow1 (by simp; have := HB.out.size; omega) (fun j hj => by cases hj; exact Nat.le_refl _))
          clear hown1 hgrow1
          go_wp2_with fail
          go_roundw
          case rel => exact ⟨j + 1, by omega, by go_num, HC.out⟩
          case measure => simp [intOf]; omega
        · have hjm : j = m := by omega
          subst hjm
          have HP : Hid (ResPost (k + j) (xs ++ ys) w (.returned (.slice (some ⟨w.heap.size, 0, none⟩) (k + j) (k + j))) wr) := by
            have e : ys.take j = ys := List.take_of_length_le (by rw [HY.out.1]; omega)
            rw [e] at hins hlen
            exact CatRel.done ⟨vs, rfl, hlen, hown, hins, hbel⟩ hnm
          clear hins hlen hown hbel
          go_wp2_with fail
          go_ret
          exact HP.out

end Go.Proofs.Qxb6001426a
