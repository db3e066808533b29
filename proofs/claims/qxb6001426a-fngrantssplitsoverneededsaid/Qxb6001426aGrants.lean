/-
  Contracts: slices.Index (38), slices.Contains (33), the closure (32), slices.IndexFunc (37), slices.ContainsFunc (31), grants (29), ZZGrants (22).
-/
import Derived.Test.Qxb6001426aClone
import Derived.Test.Qxb6001426aPlain2
namespace Go.Proofs.Qxb6001426a
open Go.RowKit
set_option linter.unusedVariables false

/-- One resource in memory. -/
def RAt (w : World) (b o : Nat) (r : Pl.Res) : Prop :=
  w.cell? ⟨b, o, none⟩ = some (.string r.ty) ∧ w.cell? ⟨b, o + 1, none⟩ = some (.string r.nm) ∧ ∃ a m c, w.cell? ⟨b, o + 2, none⟩ = some (.slice a m c) ∧ m ≤ 65536 ∧ SRow w a m r.acts

/-- A slice of resources that can be read. -/
def RRow (w : World) (ao : Option Addr) (n : Nat) (rs : List Pl.Res) : Prop :=
  rs.length = n ∧ n ≤ 65536 ∧ (n = 0 ∨ ∃ b off, ao = some ⟨b, off, none⟩ ∧ b < w.heap.size ∧ ∀ k, k < n → RAt w b (off + k * 3) (rs.getD k Pl.noRes))

theorem RAt.below {w w' : World} {B b o : Nat} {r : Pl.Res} (h : RAt w b o r) (hb : Below B w w') (hB : w.heap.size ≤ B) (hl : b < w.heap.size) : RAt w' b o r := by
  obtain ⟨h1, h2, a, m, c, h3, hm, h4⟩ := h
  have hl' : b < B := Nat.lt_of_lt_of_le hl hB
  exact ⟨(hb.cell (p := ⟨b, o, none⟩) hl').trans h1, (hb.cell (p := ⟨b, o + 1, none⟩) hl').trans h2, a, m, c, (hb.cell (p := ⟨b, o + 2, none⟩) hl').trans h3, hm, h4.below hb hB⟩

theorem RRow.below {w w' : World} {B : Nat} {ao : Option Addr} {n : Nat} {rs : List Pl.Res} (h : RRow w ao n rs) (hb : Below B w w') (hB : w.heap.size ≤ B) : RRow w' ao n rs := by
  obtain ⟨h1, h2, h3⟩ := h
  refine ⟨h1, h2, ?_⟩
  rcases h3 with h3 | ⟨b, off, e, hl, hc⟩
  · exact .inl h3
  · exact .inr ⟨b, off, e, Nat.lt_of_lt_of_le hl hb.size, fun k hk => (hc k hk).below hb hB hl⟩

theorem RRow.at {w : World} {ao : Option Addr} {n : Nat} {rs : List Pl.Res} (h : RRow w ao n rs) {k : Nat} (hk : k < n) :
    ∃ b off, ao = some ⟨b, off, none⟩ ∧ b < w.heap.size ∧ ∀ k, k < n → RAt w b (off + k * 3) (rs.getD k Pl.noRes) := by
  rcases h.2.2 with h | h
  · omega
  · exact h

/-- A search's answer: an index where there is one, -1 else. -/
def IdxPost (found : Bool) (w : World) (e : Ending) (w' : World) : Prop := ∃ z : Int, e = .returned (.int .i64 z) ∧ (decide (0 ≤ z)) = found ∧ Below w.heap.size w w'

theorem any_take {α : Type} (p : α → Bool) (l : List α) (k : Nat) (d : α) (h : k < l.length) : (l.take (k + 1)).any p = ((l.take k).any p || p (l.getD k d)) := by
  rw [Pl.take_snoc l k d h]
  simp

theorem any_hit {α : Type} (p : α → Bool) (l : List α) (k : Nat) (d : α) (h : k < l.length) (hp : p (l.getD k d) = true) : l.any p = true := by
  rw [List.any_eq_true]
  exact ⟨l.getD k d, by simp [List.getD, h], hp⟩

set_option maxHeartbeats 400000 in
theorem index38 (ao : Option Addr) (n c : Nat) (x : ByteArray) (ss : Pl.Strs) (w : World) (hn : n ≤ 65536) (hr : SRow w ao n ss) :
    Calls Try.prog 38 #[.slice ao n c, .string x] w fun e w' => (∃ z : Int, e = .returned (.int .i64 z) ∧ (decide (0 ≤ z)) = Pl.has ss x) ∧ w' = w := by
  have HR : Hid (SRow w ao n ss) := hr
  have HL : Hid (ss.length = n) := hr.1
  clear hr
  go_enter Try.func38, Try.ntmps38
  go_wp2_with fail
  go_loop [5, 8] (fun _ i => ∃ (k : Nat), k ≤ n ∧ i = .int .i64 k ∧ (ss.take k).any (fun s => Pl.eqs x s) = false) (fun _ i => n - (intOf i).toNat)
  case atStart => exact ⟨0, Nat.zero_le _, rfl, rfl⟩
  case round =>
    obtain ⟨k, hk, rfl, hno⟩ := hrel
    have HNO : Hid ((ss.take k).any (fun s => Pl.eqs x s) = false) := hno
    clear hno
    by_cases hlt : k < n
    · obtain ⟨b, off, rfl, hb, hc⟩ := HR.out.at hlt
      have g := hc k hlt
      have HK : Hid (k < ss.length) := by show k < ss.length; rw [HL.out]; exact hlt
      obtain ⟨s, es⟩ : ∃ s, s = ss.getD k ByteArray.empty := ⟨_, rfl⟩
      rw [← es] at g
      have HES : Hid (s = ss.getD k ByteArray.empty) := es
      clear es hc
      cases he : (x.toList == s.toList) with
      | true =>
        have HP : Hid (Pl.has ss x = true) := any_hit _ ss k ByteArray.empty HK.out (by show (x.toList == (ss.getD k ByteArray.empty).toList) = true; rw [← HES.out]; exact he)
        go_wp2_with fail
        go_ret
        exact ⟨⟨_, rfl, by rw [HP.out]; simp⟩, rfl⟩
      | false =>
        have HP : Hid ((ss.take (k + 1)).any (fun s => Pl.eqs x s) = false) := by
          show (ss.take (k + 1)).any (fun s => Pl.eqs x s) = false
          rw [any_take _ ss k ByteArray.empty HK.out, HNO.out, ← HES.out]
          simpa [Pl.eqs] using he
        go_wp2_with fail
        go_round
        case rel => exact ⟨k + 1, by omega, by go_num, HP.out⟩
        case measure => simp [intOf]; omega
    · have e : ss.take k = ss := List.take_of_length_le (by rw [HL.out]; omega)
      have HP : Hid (Pl.has ss x = false) := by have := HNO.out; rw [e] at this; exact this
      clear e
      go_wp2_with fail
      go_ret
      exact ⟨⟨_, rfl, by rw [HP.out]; decide⟩, rfl⟩

set_option maxHeartbeats 400000 in
theorem contains33 (ao : Option Addr) (n c : Nat) (x : ByteArray) (ss : Pl.Strs) (w : World) (hn : n ≤ 65536) (hr : SRow w ao n ss) :
    Calls Try.prog 33 #[.slice ao n c, .string x] w fun e w' => e = .returned (.bool (Pl.has ss x)) ∧ w' = w := by
  have HR : Hid (SRow w ao n ss) := hr
  clear hr
  go_enter Try.func33, Try.ntmps33
  go_wp2_with fail
  refine (index38 ao n c x ss _ hn HR.out).mono ?_
  rintro e w' ⟨⟨z, rfl, hz⟩, rfl⟩
  have HZ : Hid (decide (0 ≤ z) = Pl.has ss x) := hz
  clear hz
  go_wp2_with fail
  go_ret
  exact ⟨by rw [← HZ.out]; rfl, rfl⟩

set_option maxHeartbeats 400000 in
/-- The closure: 'need' lies at block b, 'action' at block o. -/
theorem closure32 (b o : Nat) (a : Option Addr) (m c : Nat) (r : Pl.Res) (ty nm act : ByteArray) (w : World) (hm : m ≤ 65536) (hr : SRow w a m r.acts) (hb : b < w.heap.size) (ho : o < w.heap.size)
    (n0 : w.cell? ⟨b, 0, none⟩ = some (.string ty)) (n1 : w.cell? ⟨b, 1, none⟩ = some (.string nm)) (n2 : w.cell? ⟨o, 0, none⟩ = some (.string act)) :
    Calls Try.prog 32 #[.agg #[.string r.ty, .string r.nm, .slice a m c], .pointer (some ⟨b, 0, none⟩), .pointer (some ⟨o, 0, none⟩)] w fun e w' => e = .returned (.bool (Pl.fits ty nm act r)) ∧ Below w.heap.size w w' := by
  obtain ⟨rty, rnm, racts⟩ := r
  have HR : Hid (SRow w a m racts) := hr
  have HB : Hid (Below w.heap.size w (w.alloc (.cells #[.string rty, .string rnm, .slice a m c] 48))) := (Below.refl _ _).alloc (Nat.le_refl _) _
  clear hr
  cases h1 : (rty.toList == ty.toList) with
  | false =>
    have e : Pl.fits ty nm act ⟨rty, rnm, racts⟩ = false := by simp [Pl.fits, Pl.eqs, h1]
    rw [e]
    clear e
    go_enter Try.func32, Try.ntmps32
    go_wp2_with fail
    go_ret
    exact ⟨rfl, HB.out⟩
  | true =>
    cases h2 : (rnm.toList == nm.toList) with
    | false =>
      have e : Pl.fits ty nm act ⟨rty, rnm, racts⟩ = false := by simp [Pl.fits, Pl.eqs, h2]
      rw [e]
      clear e
      go_enter Try.func32, Try.ntmps32
      go_wp2_with fail
      go_ret
      exact ⟨rfl, HB.out⟩
    | true =>
      have e : Pl.fits ty nm act ⟨rty, rnm, racts⟩ = Pl.has racts act := by simp [Pl.fits, Pl.eqs, h1, h2]
      rw [e]
      clear e
      go_enter Try.func32, Try.ntmps32
      go_wp2_with fail
      refine (contains33 a m c act racts _ hm (HR.out.below HB.out (Nat.le_refl _))).mono ?_
      rintro e w' ⟨rfl, rfl⟩
      go_wp2_with fail
      go_ret
      exact ⟨rfl, HB.out⟩

end Go.Proofs.Qxb6001426a
