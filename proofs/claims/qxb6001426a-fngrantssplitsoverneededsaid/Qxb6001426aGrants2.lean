/-
  Contracts: slices.IndexFunc (37), slices.ContainsFunc (31), grants (29), ZZGrants (22).
-/
import Derived.Test.Qxb6001426aGrants
namespace Go.Proofs.Qxb6001426a
open Go.RowKit
set_option linter.unusedVariables false

abbrev fnv (b o : Nat) : Value := .func (.func 32) #[] #[.pointer (some ⟨b, 0, none⟩), .pointer (some ⟨o, 0, none⟩)]

/-- What the closure reads: 'need' at block b, 'action' at block o. -/
def Caught (w : World) (b o : Nat) (ty nm act : ByteArray) : Prop :=
  b < w.heap.size ∧ o < w.heap.size ∧ w.cell? ⟨b, 0, none⟩ = some (.string ty) ∧ w.cell? ⟨b, 1, none⟩ = some (.string nm) ∧ w.cell? ⟨o, 0, none⟩ = some (.string act)

theorem Caught.below {w w' : World} {B b o : Nat} {ty nm act : ByteArray} (h : Caught w b o ty nm act) (hb : Below B w w') (hB : w.heap.size ≤ B) : Caught w' b o ty nm act := by
  obtain ⟨h1, h2, h3, h4, h5⟩ := h
  have l1 : b < B := Nat.lt_of_lt_of_le h1 hB
  have l2 : o < B := Nat.lt_of_lt_of_le h2 hB
  exact ⟨Nat.lt_of_lt_of_le h1 hb.size, Nat.lt_of_lt_of_le h2 hb.size, (hb.cell (p := ⟨b, 0, none⟩) l1).trans h3, (hb.cell (p := ⟨b, 1, none⟩) l1).trans h4, (hb.cell (p := ⟨o, 0, none⟩) l2).trans h5⟩

set_option maxHeartbeats 400000 in
theorem indexFunc37 (ao : Option Addr) (n c b o : Nat) (rs : List Pl.Res) (ty nm act : ByteArray) (w : World) (hr : RRow w ao n rs) (hc : Caught w b o ty nm act) :
    Calls Try.prog 37 #[.slice ao n c, fnv b o] w (IdxPost (Pl.covers rs ty nm act) w) := by
  have hn := hr.2.1
  have HR : Hid (RRow w ao n rs) := hr
  have HL : Hid (rs.length = n) := hr.1
  have HC : Hid (Caught w b o ty nm act) := hc
  clear hr hc
  go_enter Try.func37, Try.ntmps37
  go_wp2_with fail
  go_loopw [5, 8] (fun _ i wr => ∃ (k : Nat), k ≤ n ∧ i = .int .i64 k ∧ (rs.take k).any (Pl.fits ty nm act) = false ∧ Below w.heap.size w wr) (fun _ i _ => n - (intOf i).toNat)
  case atStart => exact ⟨0, Nat.zero_le _, rfl, rfl, Below.refl _ _⟩
  case round =>
    obtain ⟨k, hk, rfl, hno, hbel⟩ := hrel
    have HNO : Hid ((rs.take k).any (Pl.fits ty nm act) = false) := hno
    have HB : Hid (Below w.heap.size w wr) := hbel
    clear hno hbel
    by_cases hlt : k < n
    · obtain ⟨b', off, rfl, hb, hcl⟩ := HR.out.at hlt
      obtain ⟨g0, g1, a, m, c', g2, hm, hs⟩ := (hcl k hlt).below HB.out (Nat.le_refl _) hb
      have HK : Hid (k < rs.length) := by show k < rs.length; rw [HL.out]; exact hlt
      obtain ⟨r, er⟩ : ∃ r, r = rs.getD k Pl.noRes := ⟨_, rfl⟩
      rw [← er] at g0 g1 hs
      have HES : Hid (r = rs.getD k Pl.noRes) := er
      have HS : Hid (SRow wr a m r.acts) := hs
      obtain ⟨q1, q2, q3, q4, q5⟩ := HC.out.below HB.out (Nat.le_refl _)
      have HQ : Hid (Caught wr b o ty nm act) := ⟨q1, q2, q3, q4, q5⟩
      clear er hcl hs q1 q2 q3 q4 q5
      go_wp2_with fail
      refine (closure32 b o a m c' r ty nm act _ hm HS.out HQ.out.1 HQ.out.2.1 HQ.out.2.2.1 HQ.out.2.2.2.1 HQ.out.2.2.2.2).mono ?_
      rintro e w1 ⟨rfl, hb1⟩
      have HB1 : Hid (Below w.heap.size w w1) := HB.out.trans (hb1.mono HB.out.size)
      clear hb1
      cases hf : Pl.fits ty nm act r with
      | true =>
        have HP : Hid (Pl.covers rs ty nm act = true) := any_hit _ rs k Pl.noRes HK.out (by rw [← HES.out]; exact hf)
        go_wp2_with fail
        go_ret
        exact ⟨_, rfl, by rw [HP.out]; simp, HB1.out⟩
      | false =>
        have HP : Hid ((rs.take (k + 1)).any (Pl.fits ty nm act) = false) := by
          show (rs.take (k + 1)).any (Pl.fits ty nm act) = false
          rw [any_take _ rs k Pl.noRes HK.out, HNO.out, ← HES.out, hf]
          rfl
        go_wp2_with fail
        go_roundw
        case rel => exact ⟨k + 1, by omega, by go_num, HP.out, HB1.out⟩
        case measure => simp [intOf]; omega
    · have e : rs.take k = rs := List.take_of_length_le (by rw [HL.out]; omega)
      have HP : Hid (Pl.covers rs ty nm act = false) := by have := HNO.out; rw [e] at this; exact this
      clear e
      go_wp2_with fail
      go_ret
      exact ⟨_, rfl, by rw [HP.out]; decide, HB.out⟩

/-- A yes-or-no answer; nothing old has turned. -/
def BoolPost (b : Bool) (w : World) (e : Ending) (w' : World) : Prop := e = .returned (.bool b) ∧ Below w.heap.size w w'

set_option maxHeartbeats 400000 in
theorem containsFunc31 (ao : Option Addr) (n c b o : Nat) (rs : List Pl.Res) (ty nm act : ByteArray) (w : World) (hr : RRow w ao n rs) (hc : Caught w b o ty nm act) :
    Calls Try.prog 31 #[.slice ao n c, fnv b o] w (BoolPost (Pl.covers rs ty nm act) w) := by
  have HR : Hid (RRow w ao n rs) := hr
  have HC : Hid (Caught w b o ty nm act) := hc
  clear hr hc
  go_enter Try.func31, Try.ntmps31
  go_wp2_with fail
  refine (indexFunc37 ao n c b o rs ty nm act _ HR.out HC.out).mono ?_
  rintro e w1 ⟨z, rfl, hz, hb⟩
  have HZ : Hid (decide (0 ≤ z) = Pl.covers rs ty nm act) := hz
  have HB : Hid (Below w.heap.size w w1) := hb
  clear hz hb
  go_wp2_with fail
  go_ret
  exact ⟨by rw [← HZ.out]; rfl, HB.out⟩

theorem all_take {α : Type} (p : α → Bool) (l : List α) (k : Nat) (d : α) (h : k < l.length) : (l.take (k + 1)).all p = ((l.take k).all p && p (l.getD k d)) := by
  rw [Pl.take_snoc l k d h]
  simp

theorem all_miss {α : Type} (p : α → Bool) (l : List α) (k : Nat) (d : α) (h : k < l.length) (hp : p (l.getD k d) = false) : l.all p = false := by
  rw [List.all_eq_false]
  exact ⟨l.getD k d, by simp [List.getD, h], by rw [hp]; simp⟩

set_option maxHeartbeats 1000000 in
theorem grants29 (ao no : Option Addr) (n m c1 c2 : Nat) (acc needed : List Pl.Res) (w : World) (ha : RRow w ao n acc) (hn : RRow w no m needed) :
    Calls Try.prog 29 #[.slice ao n c1, .slice no m c2] w (BoolPost (Pl.grants acc needed) w) := by
  have hm := hn.2.1
  have HA : Hid (RRow w ao n acc) := ha
  have HN : Hid (RRow w no m needed) := hn
  have HL : Hid (needed.length = m) := hn.1
  clear ha hn
  go_enter Try.func29, Try.ntmps29
  go_wp2_with fail
  go_loopw [11] (fun i wr => ∃ (k : Nat), k ≤ m ∧ i = .int .i64 k ∧ (needed.take k).all (Pl.covered acc) = true ∧ Below w.heap.size w wr) (fun i _ => m - (intOf i).toNat)
  case atStart => exact ⟨0, Nat.zero_le _, rfl, rfl, Below.refl _ _⟩
  case round =>
    obtain ⟨k, hk, rfl, hyes, hbel⟩ := hrel
    have HY : Hid ((needed.take k).all (Pl.covered acc) = true) := hyes
    have HB : Hid (Below w.heap.size w wr) := hbel
    clear hyes hbel
    by_cases hlt : k < m
    · obtain ⟨b', off, rfl, hb, hcl⟩ := HN.out.at hlt
      obtain ⟨g0, g1, a, l, c', g2, hl, hs⟩ := (hcl k hlt).below HB.out (Nat.le_refl _) hb
      have HK : Hid (k < needed.length) := by show k < needed.length; rw [HL.out]; exact hlt
      obtain ⟨r, er⟩ : ∃ r, r = needed.getD k Pl.noRes := ⟨_, rfl⟩
      rw [← er] at g0 g1 hs
      have HES : Hid (r = needed.getD k Pl.noRes) := er
      have HS : Hid (SRow wr a l r.acts) := hs
      clear er hcl hs
      go_wp2_with fail
      obtain ⟨w1, ew⟩ : ∃ w1, w1 = wr.alloc (Obj.cells #[Value.string r.ty, Value.string r.nm, Value.slice a l c'] 48) := ⟨_, rfl⟩
      obtain ⟨q, eq⟩ : ∃ q, q = wr.heap.size := ⟨_, rfl⟩
      have hsz : w1.heap.size = q + 1 := by rw [ew, eq]; simp
      have hb1 : Below wr.heap.size wr w1 := by rw [ew]; exact (Below.refl _ _).alloc (Nat.le_refl _) _
      have k0 : w1.cell? ⟨q, 0, none⟩ = some (.string r.ty) := by rw [ew, eq]; simp [go_sem]
      have k1 : w1.cell? ⟨q, 1, none⟩ = some (.string r.nm) := by rw [ew, eq]; simp [go_sem]
      have HS1 : Hid (SRow w1 a l r.acts) := HS.out.below hb1 (Nat.le_refl _)
      have HB1 : Hid (Below w.heap.size w w1) := HB.out.trans (hb1.mono HB.out.size)
      have HK0 : Hid (w1.cell? ⟨q, 0, none⟩ = some (.string r.ty)) := k0
      have HK1 : Hid (w1.cell? ⟨q, 1, none⟩ = some (.string r.nm)) := k1
      have HSZ : Hid (w1.heap.size = q + 1) := hsz
      rw [← ew, ← eq]
      clear ew hsz hb1 k0 k1 g0 g1 g2 eq HB HS
      go_loopw [18] (fun i wi => ∃ (j : Nat), j ≤ l ∧ i = .int .i64 j ∧ (r.acts.take j).all (Pl.covers acc r.ty r.nm) = true ∧ Below w1.heap.size w1 wi) (fun i _ => l - (intOf i).toNat)
      case atStart => exact ⟨0, Nat.zero_le _, rfl, rfl, Below.refl _ _⟩
      case round =>
        obtain ⟨j, hj, rfl, hyes, hbel⟩ := hrel
        have HYI : Hid ((r.acts.take j).all (Pl.covers acc r.ty r.nm) = true) := hyes
        have HBI : Hid (Below w1.heap.size w1 wr) := hbel
        clear hyes hbel
        by_cases hjl : j < l
        · obtain ⟨b2, off2, rfl, hb2, hc2⟩ := (HS1.out.below HBI.out (Nat.le_refl _)).at hjl
          have g3 := hc2 j hjl
          have HJ : Hid (j < r.acts.length) := by show j < r.acts.length; rw [HS1.out.1]; exact hjl
          obtain ⟨s, es⟩ : ∃ s, s = r.acts.getD j ByteArray.empty := ⟨_, rfl⟩
          rw [← es] at g3
          have HE : Hid (s = r.acts.getD j ByteArray.empty) := es
          clear es hc2
          go_wp2_with fail
          have hb3 : Below wr.heap.size wr (wr.alloc (.cells #[.string s] 9)) := (Below.refl _ _).alloc (Nat.le_refl _) _
          have hba : Below w.heap.size w (wr.alloc (.cells #[.string s] 9)) := (HB1.out.trans (HBI.out.mono HB1.out.size)).trans (hb3.mono (Nat.le_trans HB1.out.size HBI.out.size))
          have hcau : Caught (wr.alloc (.cells #[.string s] 9)) q wr.heap.size r.ty r.nm s := by
            have hq1 : q < w1.heap.size := by rw [HSZ.out]; omega
            have hq2 : q < wr.heap.size := Nat.lt_of_lt_of_le hq1 HBI.out.size
            refine ⟨by simp; omega, by simp, ?_, ?_, by simp [go_sem]⟩
            · exact (hb3.cell (p := ⟨q, 0, none⟩) hq2).trans ((HBI.out.cell (p := ⟨q, 0, none⟩) hq1).trans HK0.out)
            · exact (hb3.cell (p := ⟨q, 1, none⟩) hq2).trans ((HBI.out.cell (p := ⟨q, 1, none⟩) hq1).trans HK1.out)
          refine (containsFunc31 ao n c1 q wr.heap.size acc r.ty r.nm s _ (HA.out.below hba (Nat.le_refl _)) hcau).mono ?_
          rintro e w4 ⟨rfl, hb4⟩
          have hb5 : Below wr.heap.size wr w4 := hb3.trans (hb4.mono (by simp))
          have HB4 : Hid (Below w1.heap.size w1 w4) := HBI.out.trans (hb5.mono HBI.out.size)
          clear hb3 hba hcau hb4 hb5
          cases hcov : Pl.covers acc r.ty r.nm s with
          | true =>
            have HP : Hid ((r.acts.take (j + 1)).all (Pl.covers acc r.ty r.nm) = true) := by
              show (r.acts.take (j + 1)).all (Pl.covers acc r.ty r.nm) = true
              rw [all_take _ r.acts j ByteArray.empty HJ.out, HYI.out, ← HE.out, hcov]
              rfl
            go_wp2_with fail
            go_roundw
            case rel => exact ⟨j + 1, by omega, by go_num, HP.out, HB4.out⟩
            case measure => simp [intOf]; omega
          | false =>
            have HP : Hid (Pl.grants acc needed = false) := by
              refine all_miss _ needed k Pl.noRes HK.out ?_
              rw [← HES.out]
              refine all_miss _ r.acts j ByteArray.empty HJ.out ?_
              rw [← HE.out, hcov]
            go_wp2_with fail
            go_ret
            exact ⟨by rw [HP.out]; rfl, HB1.out.trans (HB4.out.mono HB1.out.size)⟩
        · have e : r.acts.take j = r.acts := List.take_of_length_le (by rw [HS1.out.1]; omega)
          have HP : Hid ((needed.take (k + 1)).all (Pl.covered acc) = true) := by
            show (needed.take (k + 1)).all (Pl.covered acc) = true
            have hc := HYI.out
            rw [e] at hc
            rw [all_take _ needed k Pl.noRes HK.out, HY.out, ← HES.out]
            exact hc
          have HB4 : Hid (Below w.heap.size w wr) := HB1.out.trans (HBI.out.mono HB1.out.size)
          clear e
          go_wp2_with fail
          go_roundw
          case rel => exact ⟨k + 1, by omega, by go_num, HP.out, HB4.out⟩
          case measure => simp [intOf]; omega
    · have e : needed.take k = needed := List.take_of_length_le (by rw [HL.out]; omega)
      have HP : Hid (Pl.grants acc needed = true) := by have := HY.out; rw [e] at this; exact this
      clear e
      go_wp2_with fail
      go_ret
      exact ⟨by rw [HP.out]; rfl, HB.out⟩

set_option maxHeartbeats 400000 in
theorem zzGrants22 (ao no : Option Addr) (n m c1 c2 : Nat) (acc needed : List Pl.Res) (w : World) (ha : RRow w ao n acc) (hn : RRow w no m needed) :
    Calls Try.prog 22 #[.slice ao n c1, .slice no m c2] w (BoolPost (Pl.grants acc needed) w) := by
  have HA : Hid (RRow w ao n acc) := ha
  have HN : Hid (RRow w no m needed) := hn
  clear ha hn
  go_enter Try.func22, Try.ntmps22
  go_wp2_with fail
  refine (grants29 ao no n m c1 c2 acc needed _ HA.out HN.out).mono ?_
  rintro e w1 ⟨rfl, hb⟩
  have HB : Hid (Below w.heap.size w w1) := hb
  clear hb
  go_wp2_with fail
  go_ret
  exact ⟨rfl, HB.out⟩

end Go.Proofs.Qxb6001426a
