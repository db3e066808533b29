/-
  Contract: greedyCover (30).
-/
import Derived.Test.Qxb6001441aMem3
namespace Go.Proofs.Qxb6001441a
open Go.RowKit
set_option linter.unusedVariables false

/-- The answer of greedyCover. -/
def CoverPost (M : List (List Nat)) (C : List Int) (n : Nat) (w : World) (e : Ending) (w' : World) : Prop :=
  ∃ ao k cap l, e = .returned (.slice ao k cap) ∧ k ≤ 4096 ∧ IRow w' ao k (ofN l) ∧ l.Pairwise (· < ·) ∧ (∀ p ∈ l, p < n) ∧ (∀ i, i < M.length → C.getD i 0 ≤ (Pl.cv M l i : Int)) ∧ Below w.heap.size w w'

theorem one_cell {w : World} {B : Nat} {x : Value} {e : TypeId} (hB : B = w.heap.size) : ∀ j u, ([x] : List Value)[j]? = some u → (w.alloc (.cells #[x] e)).cell? ((⟨B, 0, none⟩ : Addr).add j) = some u := by
  intro j u hj
  subst hB
  rw [Addr.add_lit, Nat.zero_add]
  match j, hj with
  | 0, hj => simpa [go_sem] using hj

theorem InSt.push {w0 w w1 : World} {o : Obj} {gi n p x g cap : Nat} {f : Nat → List Nat} {vs : List Value} {v : Value} (hp : p < n) (hl : vs.length = n) (hblk : Blk w gi 33 vs)
    (hr : ∀ j, j < n → ∃ v, vs[j]? = some v ∧ w.ownsRow w0.heap.size 3 1 v (f j).length ((ofN (f j)).map (Value.int .i64)) ∧ v.ownBlock ≠ some gi)
    (hd : ∀ (i j : Nat) (v u : Value), i ≠ j → vs[i]? = some v → vs[j]? = some u → v.ownBlock = none ∨ v.ownBlock ≠ u.ownBlock) (hgi : w0.heap.size ≤ gi) (hb : Below w0.heap.size w0 w)
    (hv : vs[p]? = some v) (hown1 : w1.ownsRow w0.heap.size 3 1 (.slice (some ⟨g, 0, none⟩) ((f p).length + 1) cap) ((f p).length + 1) ((ofN (f p)).map (Value.int .i64) ++ [.int .i64 (x : Int)]))
    (hgrow : (w.alloc o).grownBy w1 v.ownBlock) (hat : v.ownBlock = some g ∨ g = w.heap.size + 1) :
    InSt w0 (w1.setCell ⟨gi, p, none⟩ (.slice (some ⟨g, 0, none⟩) ((f p).length + 1) cap)) gi n (fun j => if j = p then f p ++ [x] else f j) ∧ Blk w1 gi 33 vs := by
  refine ⟨InSt.append (w := w.alloc o) hp hl (hblk.alloc o) (fun j hj => ?_) hd hgi (hb.alloc hb.size o) hv hown1 hgrow (by simpa using hat), ?_⟩
  · obtain ⟨u, a, b, c⟩ := hr j hj
    exact ⟨u, a, b.alloc o, c⟩
  · refine (hblk.alloc o).grown hgrow ?_
    obtain ⟨u, a, b, c⟩ := hr p hp
    have : u = v := by rw [hv] at a; exact (Option.some.inj a).symm
    subst this
    exact fun e => c e.symm

set_option maxHeartbeats 4000000 in
set_option maxRecDepth 100000 in
theorem cover30 (ao : Option Addr) (G cap0 n : Nat) (M : List (List Nat)) (C : List Int) (w : World) (hn : n ≤ 4096) (wf : Pl.WF M C n) (hg : GRow w ao G M C) :
    Calls Try.prog 30 #[.slice ao G cap0, .int .i64 n] w (CoverPost M C n w) := by
  have hG := hg.2.1
  have HG : Hid (GRow w ao G M C) := hg
  have HW : Hid (Pl.WF M C n) := wf
  have HL : Hid (M.length = G) := hg.1
  clear hg wf
  obtain ⟨i33, hi33, hz33, hs33, hb33⟩ := info_parts Try.info33
  obtain ⟨i3, hi3, hz3, hs3, hb3⟩ := info_parts Try.info3
  go_enter Try.func30, Try.ntmps30
  go_wp2_with (at_make; refine wpList_make_full _ rfl (.tmp 30) (.tmp 30) 39 rfl w.heap.size 33 i33 (.slice none 0 0) 1 Try.underlying39 hi33 hz33 hs33 _ _ _ _ n rfl rfl rfl rfl ?b2 ?b3 (Nat.le_refl _) ?_)
  case b2 => rw [hb33]; omega
  case b3 => unfold maxLen; omega
  intro w0 hown0 hgrow0
  have hst0 : InSt w w0 w.heap.size n (fun _ => []) := by
    have hb0 := Blk.ofOwns hown0
    have e0 : (madeCells #[Value.slice none 0 0] n).toList = List.replicate n (Value.slice none 0 0) := toList_madeCells_one _ _
    rw [e0] at hb0
    refine ⟨_, by simp, hb0, fun j hj => ⟨.slice none 0 0, by simp [hj], World.ownsRow_nil _ _ _ _, by simp [Value.ownBlock]⟩, ?_, Nat.le_refl _, (Below.refl _ _).grown hgrow0 (Nat.le_refl _) (fun k h => by cases h)⟩
    intro i j v u _ hi _
    left
    rw [List.getElem?_replicate] at hi
    split at hi
    · have : v = .slice none 0 0 := (Option.some.inj hi).symm
      subst this; rfl
    · cases hi
  have HST0 : Hid (InSt w w0 w.heap.size n (fun _ => [])) := hst0
  clear hst0 hown0 hgrow0
  go_wp2_with fail
  go_loopw [34] (fun i wr => ∃ k : Nat, k ≤ G ∧ i = .int .i64 k ∧ InSt w wr w.heap.size n (Pl.inOf M k)) (fun i _ => G - (intOf i).toNat)
  case atStart => exact ⟨0, Nat.zero_le _, rfl, HST0.out⟩
  case round =>
    clear HST0
    obtain ⟨k, hk, rfl, hst⟩ := hrel
    have HST : Hid (InSt w wr w.heap.size n (Pl.inOf M k)) := hst
    clear hst
    by_cases hlt : k < G
    · obtain ⟨b, off, rfl, hb, hc⟩ := HG.out.at hlt
      have HB : Hid (Below w.heap.size w wr) := HST.out.choose_spec.2.2.2.2.2
      obtain ⟨a, l, c, g1', hl, hs, g2'⟩ := hc k hlt
      have g1 : wr.cell? ⟨b, off + k * 2, none⟩ = some (.slice a l c) := (HB.out.cell (p := ⟨b, off + k * 2, none⟩) hb).trans g1'
      have g2 : wr.cell? ⟨b, off + k * 2 + 1, none⟩ = some (.int .i64 (C.getD k 0)) := (HB.out.cell (p := ⟨b, off + k * 2 + 1, none⟩) hb).trans g2'
      obtain ⟨m, em⟩ : ∃ m, m = M.getD k [] := ⟨_, rfl⟩
      rw [← em] at hs
      obtain ⟨ck, eck⟩ : ∃ ck, ck = C.getD k 0 := ⟨_, rfl⟩
      rw [← eck] at g2
      have HS : Hid (IRow w a l (ofN m)) := hs
      have hkM : k < M.length := by rw [HL.out]; exact hlt
      have HND : Hid (m.Nodup) := by show m.Nodup; rw [em]; exact HW.out.nod k hkM
      have HRG : Hid (∀ p ∈ m, p < n) := by intro p hp; rw [em] at hp; exact HW.out.rng k hkM p hp
      have HEM : Hid (m = M.getD k []) := em
      have HML : Hid (m.length = l) := by have := hs.1; rw [ofN_length] at this; exact this
      clear em eck hs hc g1' g2' hkM
      go_wp2_with fail
      obtain ⟨wq, ewq⟩ : ∃ wq, wq = wr.alloc (Obj.cells #[Value.slice a l c, Value.int IntKind.i64 ck] 60) := ⟨_, rfl⟩
      have HST1 : Hid (InSt w wq w.heap.size n (Pl.inOf M k)) := by show InSt _ _ _ _ _; rw [ewq]; exact HST.out.alloc _
      rw [← ewq]
      clear ewq g1 g2 HST HB
      go_loopw [42] (fun i wi => ∃ t : Nat, t ≤ l ∧ i = .int .i64 t ∧ InSt w wi w.heap.size n (Pl.inSt M k t)) (fun i _ => l - (intOf i).toNat)
      case atStart => exact ⟨0, Nat.zero_le _, rfl, HST1.out.congr (fun j _ => (Pl.inSt_start M k j).symm)⟩
      case round =>
        clear HST1
        obtain ⟨t, ht, rfl, hst⟩ := hrel
        have HST : Hid (InSt w wr w.heap.size n (Pl.inSt M k t)) := hst
        clear hst
        by_cases htl : t < l
        · obtain ⟨vs, hvl, hblk, hr, hd, hgi, hbel⟩ := HST.out
          obtain ⟨b2, off2, rfl, hb2, hc2⟩ := HS.out.at htl
          have htm : t < m.length := by rw [HML.out]; exact htl
          have g3' := hc2 t htl
          rw [ofN_at m t htm] at g3'
          have g3 : wr.cell? ⟨b2, off2 + t, none⟩ = some (.int .i64 (m.getD t 0 : Nat)) := (hbel.cell (p := ⟨b2, off2 + t, none⟩) hb2).trans g3'
          have hp : m.getD t 0 < n := HRG.out _ (getD_memN m t htm)
          have hsame := Pl.inSt_same M k t (by rw [← HEM.out]; exact htm) (by rw [← HEM.out]; exact HND.out)
          have hoth := fun j (hj : j ≠ (M.getD k []).getD t 0) => Pl.inSt_other M k t j (by rw [← HEM.out]; exact htm) hj
          rw [← HEM.out] at hsame hoth
          have HSAME : Hid (Pl.inSt M k (t + 1) (m.getD t 0) = Pl.inSt M k t (m.getD t 0) ++ [k]) := hsame
          have HOTH : Hid (∀ j, j ≠ m.getD t 0 → Pl.inSt M k (t + 1) j = Pl.inSt M k t j) := hoth
          have hlenp := Pl.inSt_length M k t (m.getD t 0)
          obtain ⟨v, hv, hown, hvgi⟩ := hr (m.getD t 0) hp
          clear hc2 htm g3' hsame hoth
          generalize m.getD t 0 = p at *
          have g4 : wr.cell? ⟨w.heap.size, p, none⟩ = some v := by rw [hblk.cell p]; exact hv
          have HR : Hid (∀ j, j < n → ∃ v, vs[j]? = some v ∧ wr.ownsRow w.heap.size 3 1 v (Pl.inSt M k t j).length ((ofN (Pl.inSt M k t j)).map (Value.int .i64)) ∧ v.ownBlock ≠ some w.heap.size) := hr
          have HD : Hid (∀ (i j : Nat) (v u : Value), i ≠ j → vs[i]? = some v → vs[j]? = some u → v.ownBlock = none ∨ v.ownBlock ≠ u.ownBlock) := hd
          have HBK : Hid (Blk wr w.heap.size 33 vs) := hblk
          have HBE : Hid (Below w.heap.size w wr) := hbel
          have HOW : Hid (wr.ownsRow w.heap.size 3 1 v (Pl.inSt M k t p).length ((ofN (Pl.inSt M k t p)).map (Value.int .i64))) := hown
          have HV : Hid (vs[p]? = some v) := hv
          have HVL : Hid (vs.length = n) := hvl
          clear hr hd hblk hbel hown hv hvl HST hvgi hgi
          go_wp2_with (at_builtin; refine wpList_append_lies _ rfl (.tmp 51) (.tmp 53) 33 rfl w.heap.size 3 i3 (.int .i64 0) 1 8 Try.underlying33 hi3 hz3 hs3 hb3 rfl (by decide) v (Pl.inSt M k t p).length _ rfl (HOW.out.alloc _) ⟨wr.heap.size, 0, none⟩ 1 1 [.int .i64 (k : Int)] rfl rfl (one_cell rfl) ?c2 (by decide) ?c3 ?c4 ?c5 (wr.heap.size + 1) ?c6 ?_)
          case c2 => intro u hu; simp at hu; subst hu; rfl
          case c3 => unfold maxLen; omega
          case c4 => omega
          case c5 => have := HBE.out.size; simp; omega
          case c6 => simp
          intro g cap w1 hown1 hgrow hat hglt
          obtain ⟨HI1, HK1⟩ := InSt.push hp HVL.out HBK.out HR.out HD.out (Nat.le_refl _) HBE.out HV.out hown1 hgrow hat
          have g5 : w1.cell? ⟨w.heap.size, p, none⟩ = some v := by rw [HK1.cell p]; exact HV.out
          have g6 : w1.frozen? ⟨w.heap.size, p, none⟩ = false := HK1.frozen p
          have HI2 : Hid (InSt w (w1.setCell ⟨w.heap.size, p, none⟩ (.slice (some ⟨g, 0, none⟩) ((Pl.inSt M k t p).length + 1) cap)) w.heap.size n (Pl.inSt M k (t + 1))) := by
            refine HI1.congr (fun j _ => ?_)
            by_cases e : j = p
            · subst e; rw [if_pos rfl, HSAME.out]
            · rw [if_neg e, HOTH.out j e]
          clear HI1 HK1 hown1 hgrow hat hglt
          go_wp2_with fail
          go_roundw
          case rel => exact ⟨t + 1, by omega, by go_num, HI2.out⟩
          case measure => simp [intOf]; omega
        · have HST2 : Hid (InSt w wr w.heap.size n (Pl.inOf M (k + 1))) := HST.out.congr (fun j _ => Pl.inSt_end M k j t (by rw [← HEM.out, HML.out]; omega))
          clear HST
          go_wp2_with fail
          go_roundw
          case rel => exact ⟨k + 1, by omega, by go_num, HST2.out⟩
          case measure => simp [intOf]; omega
    · have hkG : G = k := by omega
      subst hkG
      have HIR0 : Hid (InR wr w.heap.size n (Pl.inOf M G)) := HST.out.done (fun j => by have := Pl.inOf_length M G j; omega)
      have HB0 : Hid (Below w.heap.size w wr) := HST.out.choose_spec.2.2.2.2.2
      clear HST hk hlt
      obtain ⟨w1, ew1⟩ : ∃ w1, w1 = wr := ⟨_, rfl⟩
      rw [← ew1]
      rw [← ew1] at HIR0 HB0
      clear ew1
      have HIR : Hid (InR w1 w.heap.size n (Pl.inOf M G)) := HIR0.out
      have HB : Hid (Below w.heap.size w w1) := HB0.out
      clear HIR0 HB0
      obtain ⟨i4, hi4, hz4, hs4, hb4⟩ := info_parts Try.info4
      go_wp2_with (at_make; refine wpList_make_full _ rfl (.tmp 59) (.tmp 59) 33 rfl w1.heap.size 3 i3 (.int .i64 0) 1 Try.underlying33 hi3 hz3 hs3 _ _ _ _ G rfl rfl rfl rfl ?d2 ?d3 (Nat.le_refl _) ?_)
      case d2 => rw [hb3]; omega
      case d3 => unfold maxLen; omega
      intro w2 hown2 hgrow2
      have hcov2 : Blk w2 w1.heap.size 3 ((List.replicate G (0 : Int)).map (Value.int .i64)) := by
        have hb0 := Blk.ofOwns hown2
        have e0 : (madeCells #[Value.int .i64 0] G).toList = (List.replicate G (0 : Int)).map (Value.int .i64) := by rw [toList_madeCells_one]; simp
        rw [← e0]
        exact hb0
      have hbel2 : Below w1.heap.size w1 w2 := (Below.refl _ _).grown hgrow2 (Nat.le_refl _) (fun k h => by cases h)
      have HC2 : Hid (Blk w2 w1.heap.size 3 ((List.replicate G (0 : Int)).map (Value.int .i64))) := hcov2
      have HB2 : Hid (Below w1.heap.size w1 w2) := hbel2
      clear hown2 hgrow2 hcov2 hbel2
      go_wp2_with (at_make; refine wpList_make_full _ rfl (.tmp 63) (.tmp 63) 45 rfl w2.heap.size 4 i4 (.bool false) 1 Try.underlying45 hi4 hz4 hs4 _ _ _ _ n rfl rfl rfl rfl ?f2 ?f3 (Nat.le_refl _) ?_)
      case f2 => rw [hb4]; omega
      case f3 => unfold maxLen; omega
      intro w3 hown3 hgrow3
      obtain ⟨gc, egc⟩ : ∃ gc, gc = w1.heap.size := ⟨_, rfl⟩
      obtain ⟨gt, egt⟩ : ∃ gt, gt = w2.heap.size := ⟨_, rfl⟩
      have HP2 : Hid (P2 w1 w3 gc gt n [] (List.replicate G (0 : Int)) (.slice none 0 0)) := by
        have hb0 := Blk.ofOwns hown3
        have e0 : (madeCells #[Value.bool false] n).toList = (List.replicate n false).map Value.bool := by rw [toList_madeCells_one]; simp
        rw [e0] at hb0
        have hlt := HC2.out.lt
        have hsz := HB2.out.size
        refine ⟨HB2.out.grown hgrow3 hsz (fun k h => by cases h), by omega, by omega, by omega, ?_, ⟨_, ?_, Marks.start n⟩, World.ownsRow_nil _ _ _ _, by simp [Value.ownBlock], by simp [Value.ownBlock], fun _ => rfl⟩
        · rw [egc]; exact HC2.out.grown hgrow3 (by simp)
        · rw [egt]; exact hb0
      rw [← egc, ← egt]
      have HCV : Hid (Pl.CovIs M [] (List.replicate G (0 : Int))) := by
        refine ⟨by simp [HL.out], fun i hi => ?_⟩
        have : i < G := by rw [← HL.out]; exact hi
        simp [Pl.cv, List.getD, this]
      have hgcl : w1.heap.size ≤ gc := by omega
      have hw1 := HB.out.size
      have HGG : Hid (GRow w1 ao G M C) := HG.out.below HB.out (Nat.le_refl _)
      have HOP : Hid (Pl.open_ C (List.replicate G (0 : Int)) G = G) := by
        show _ = _
        unfold Pl.open_
        have h1 : (List.range G).countP (fun i => decide ((List.replicate G (0 : Int)).getD i 0 < C.getD i 0)) = (List.range G).length := by
          refine List.countP_eq_length.2 (fun i hi => ?_)
          have hi' : i < G := by simpa using hi
          have h2 := (HW.out.cnt i (by rw [HL.out]; exact hi')).1
          have h3 : (List.replicate G (0 : Int)).getD i 0 = 0 := by simp [List.getD, hi']
          rw [h3]
          simp only [decide_eq_true_eq]
          omega
        rw [h1, List.length_range]
      clear egc egt hown3 hgrow3 HC2 HB2
      go_wp2_with fail
      go_loopw [11, 13] (fun lf v wr => ∃ (ch : List Nat) (c : List Int), lf = .int .i64 (Pl.open_ C c G : Nat) ∧ P2 w1 wr gc gt n ch c v ∧ Pl.CovIs M ch c ∧ ch.Nodup ∧ ∀ p ∈ ch, p < n) (fun _ v _ => n - lenOf v)
      case atStart => exact ⟨[], _, by rw [HOP.out], HP2.out, HCV.out, List.nodup_nil, by simp⟩
      case round =>
        clear HOP HP2 HCV
        obtain ⟨ch, c, rfl, hp2, hcv, hnd, hrg⟩ := hrel
        have HP : Hid (P2 w1 wr gc gt n ch c u13) := hp2
        have HCV : Hid (Pl.CovIs M ch c) := hcv
        have HND : Hid (ch.Nodup) := hnd
        have HRG : Hid (∀ p ∈ ch, p < n) := hrg
        have hop := Pl.open_le C c G
        have hchn : ch.length ≤ n := length_le_of_nodup ch n hnd hrg
        clear hp2 hcv hnd hrg
        by_cases hpos : 0 < Pl.open_ C c G
        · have HSOME : Hid (∃ j, j < n ∧ j ∉ ch ∧ 0 < Pl.gain C c (Pl.inOf M G j)) := by
            obtain ⟨i, hi, hlt⟩ := Pl.open_pos hpos
            obtain ⟨p, hp, hpc, hm⟩ := Pl.someone HW.out HCV.out HND.out (by rw [HL.out]; exact hi) hlt
            rw [HL.out] at hm
            exact ⟨p, hp, hpc, Pl.gain_pos hm hlt⟩
          have hG0 : 0 < G := by omega
          obtain ⟨b, off, eao, hbw, hcg⟩ := HG.out.at hG0
          have HCG : Hid (∀ i, i < G → GAt w b (off + i * 2) (M.getD i []) (C.getD i 0)) := hcg
          subst eao
          clear hcg
          go_wp2_with fail
          obtain ⟨wq, ewq⟩ : ∃ wq, wq = wr := ⟨_, rfl⟩
          rw [← ewq]
          have HPQ : Hid (P2 w1 wq gc gt n ch c u13) := by show P2 _ _ _ _ _ _ _ _; rw [ewq]; exact HP.out
          clear ewq HP
          go_loopw [14, 15, 68] (fun be bg i wi => ∃ (j q : Nat), j ≤ n ∧ i = .int .i64 j ∧ wi = wq.drewN q ∧ Best C c (Pl.inOf M G) ch n j be bg) (fun _ _ i _ => n - (intOf i).toNat)
          case atStart => exact ⟨0, 0, Nat.zero_le _, rfl, rfl, .inl ⟨rfl, rfl, fun j h => by omega⟩⟩
          case round =>
            obtain ⟨j, q, hj, rfl, rfl, hbest⟩ := hrel
            have HBE : Hid (Best C c (Pl.inOf M G) ch n j u14 u15) := hbest
            clear hbest
            by_cases hjn : j < n
            · obtain ⟨a, m, cp, g1', hrow'⟩ := HIR.out.at hjn
              have g1 : wq.cell? ⟨w.heap.size, j, none⟩ = some (.slice a m cp) := (HPQ.out.bel.cell (p := ⟨w.heap.size, j, none⟩) (by have := HIR.out.choose_spec.2.1.lt; exact this)).trans g1'
              have HROW : Hid (IRow wq a m (ofN (Pl.inOf M G j))) := hrow'.below HPQ.out.bel (Nat.le_refl _)
              have HIL : Hid ((Pl.inOf M G j).length = m) := by have := hrow'.1; rw [ofN_length] at this; exact this
              have hmG : m ≤ G := by rw [← HIL.out]; exact Pl.inOf_length M G j
              clear g1' hrow'
              go_wp2_with fail
              go_loopw [17, 76] (fun s i wi => ∃ (t z q : Nat), t ≤ m ∧ i = .int .i64 t ∧ s = .int .i64 z ∧ z ≤ t ∧ wi = wq.drewN q ∧ Hid (z = Pl.gain C c ((Pl.inOf M G j).take t))) (fun _ i _ => m - (intOf i).toNat)
              case atStart => exact ⟨0, 0, q, Nat.zero_le _, rfl, rfl, Nat.le_refl _, rfl, rfl⟩
              case round =>
                obtain ⟨t, z, q, ht, rfl, rfl, hz, rfl, HZ⟩ := hrel
                by_cases htm : t < m
                · obtain ⟨b2, off2, rfl, hb2, hc2⟩ := HROW.out.at htm
                  have htl : t < (Pl.inOf M G j).length := by rw [HIL.out]; exact htm
                  have g2 := hc2 t htm
                  rw [ofN_at _ t htl] at g2
                  have hi0 : (Pl.inOf M G j).getD t 0 < G := (Pl.inOf_lt (getD_memN _ t htl)).1
                  have HGT : Hid (Pl.gain C c ((Pl.inOf M G j).take (t + 1)) = Pl.gain C c ((Pl.inOf M G j).take t) + (if c.getD ((Pl.inOf M G j).getD t 0) 0 < C.getD ((Pl.inOf M G j).getD t 0) 0 then 1 else 0)) := Pl.gain_take C c _ t htl
                  clear hc2 htl
                  generalize (Pl.inOf M G j).getD t 0 = i0 at *
                  have hcl : c.length = G := by rw [HCV.out.1, HL.out]
                  have g3 : wq.cell? ⟨gc, i0, none⟩ = some (.int .i64 (c.getD i0 0)) := by
                    rw [HPQ.out.cov.cell i0]
                    exact ints_at (by omega)
                  obtain ⟨_, _, _, _, _, _, g4'⟩ := HCG.out i0 hi0
                  have g4 : wq.cell? ⟨b, off + i0 * 2 + 1, none⟩ = some (.int .i64 (C.getD i0 0)) := (HPQ.out.bel.cell (p := ⟨b, off + i0 * 2 + 1, none⟩) (by have := HB.out.size; show b < _; omega)).trans ((HB.out.cell (p := ⟨b, off + i0 * 2 + 1, none⟩) hbw).trans g4')
                  clear g4' hcl
                  generalize c.getD i0 0 = ci at *
                  generalize C.getD i0 0 = Ci at *
                  have k1 : (i0 : Int) < (G : Int) := by omega
                  by_cases hlt : ci < Ci
                  · have HZ2 : Hid (z + 1 = Pl.gain C c ((Pl.inOf M G j).take (t + 1))) := by show _ = _; rw [HGT.out, if_pos hlt, ← HZ.out]
                    clear HGT HZ
                    go_wp2_with fail
                    go_quiet (fail)
                    go_wp2_with fail
                    go_roundw
                    case rel => exact ⟨t + 1, z + 1, _, by omega, by go_num, by go_num, by omega, rfl, HZ2.out⟩
                    case measure => simp [intOf]; omega
                  · have HZ2 : Hid (z = Pl.gain C c ((Pl.inOf M G j).take (t + 1))) := by show _ = _; rw [HGT.out, if_neg hlt, ← HZ.out]; rfl
                    clear HGT HZ
                    go_wp2_with fail
                    go_quiet (fail)
                    go_wp2_with fail
                    go_roundw
                    case rel => exact ⟨t + 1, z, _, by omega, by go_num, rfl, by omega, rfl, HZ2.out⟩
                    case measure => simp [intOf]; omega
                · have etk : (Pl.inOf M G j).take t = Pl.inOf M G j := List.take_of_length_le (by rw [HIL.out]; omega)
                  have HZ2 : Hid (z = Pl.gain C c (Pl.inOf M G j)) := by have := HZ.out; rw [etk] at this; exact this
                  clear etk HZ
                  obtain ⟨bs, hbk, hmk⟩ := HPQ.out.tak
                  have g5 : wq.cell? ⟨gt, j, none⟩ = some (.bool (decide (j ∈ ch))) := by
                    rw [hbk.cell j, bools_at (by rw [hmk.1]; exact hjn), hmk.2 j hjn]
                  clear hbk hmk
                  by_cases hmem : j ∈ ch
                  · rw [decide_eq_true hmem] at g5
                    have HB2 : Hid (Best C c (Pl.inOf M G) ch n (j + 1) u14 u15) := HBE.out.skip (.inl hmem)
                    clear hmem HBE HZ2
                    go_wp2_with fail
                    go_roundw
                    case rel => exact ⟨j + 1, q, by omega, by go_num, rfl, HB2.out⟩
                    case measure => simp [intOf]; omega
                  · rw [decide_eq_false hmem] at g5
                    rcases HBE.out with ⟨rfl, rfl, hall⟩ | ⟨p, z', rfl, rfl, hp, hpc, hz', hz2'⟩
                    · by_cases hzp : 0 < z
                      · have HB2 : Hid (Best C c (Pl.inOf M G) ch n (j + 1) (.int .i64 j) (.int .i64 z)) := Best.stay hjn hmem hzp (by omega)
                        clear hall hmem HBE HZ2
                        go_wp2_with fail
                        go_roundw
                        case rel => exact ⟨j + 1, q, by omega, by go_num, rfl, HB2.out⟩
                        case measure => simp [intOf]; omega
                      · have HB2 : Hid (Best C c (Pl.inOf M G) ch n (j + 1) (.int .i64 (-1)) (.int .i64 0)) := HBE.out.skip (.inr (by rw [← HZ2.out]; omega))
                        clear hall hmem HBE HZ2
                        go_wp2_with fail
                        go_roundw
                        case rel => exact ⟨j + 1, q, by omega, by go_num, rfl, HB2.out⟩
                        case measure => simp [intOf]; omega
                    · by_cases hzp : z' < z
                      · have HB2 : Hid (Best C c (Pl.inOf M G) ch n (j + 1) (.int .i64 j) (.int .i64 z)) := Best.stay hjn hmem (by omega) (by omega)
                        clear hmem HBE HZ2 hpc
                        go_wp2_with fail
                        go_roundw
                        case rel => exact ⟨j + 1, q, by omega, by go_num, rfl, HB2.out⟩
                        case measure => simp [intOf]; omega
                      · have HB2 : Hid (Best C c (Pl.inOf M G) ch n (j + 1) (.int .i64 p) (.int .i64 z')) := Best.stay hp hpc hz' hz2'
                        clear hmem HBE HZ2 hpc
                        go_wp2_with fail
                        go_roundw
                        case rel => exact ⟨j + 1, q, by omega, by go_num, rfl, HB2.out⟩
                        case measure => simp [intOf]; omega
            · obtain ⟨p, z, e14, e15, hp, hpc, hz, hz2⟩ : ∃ p z : Nat, u14 = .int .i64 p ∧ u15 = .int .i64 z ∧ p < n ∧ p ∉ ch ∧ 0 < z ∧ z ≤ 1048577 := by
                rcases HBE.out with ⟨_, _, hall⟩ | h
                · obtain ⟨j', hj', hjc, hgp⟩ := HSOME.out
                  rcases hall j' (by omega) with hx | hx
                  · exact absurd hx hjc
                  · omega
                · exact h
              subst e14
              subst e15
              have HPC : Hid (p ∉ ch) := hpc
              have HPZ : Hid (P2 w1 (wq.drewN q) gc gt n ch c u13) := HPQ.out.drewN q
              clear hpc HBE HSOME HPQ
              obtain ⟨wz, ewz⟩ : ∃ wz, wz = wq.drewN q := ⟨_, rfl⟩
              rw [← ewz]
              rw [← ewz] at HPZ
              clear ewz
              go_wp2_with (at_builtin; refine wpList_append_lies _ rfl (.tmp 106) (.tmp 108) 33 rfl w1.heap.size 3 i3 (.int .i64 0) 1 8 Try.underlying33 hi3 hz3 hs3 hb3 rfl (by decide) u13 ch.length _ rfl (HPZ.out.own.alloc _) ⟨wz.heap.size, 0, none⟩ 1 1 [.int .i64 (p : Int)] rfl rfl (one_cell rfl) ?e2 (by decide) ?e3 ?e4 ?e5 (wz.heap.size + 1) ?e6 ?_)
              case e2 => intro u hu; simp at hu; subst hu; rfl
              case e3 => unfold maxLen; omega
              case e4 => omega
              case e5 => have := HPZ.out.bel.size; simp; omega
              case e6 => simp
              intro g cap w5 hown5 hgrow5 hat5 hglt5
              obtain ⟨⟨bs, hbl, hbk⟩, hbel5, hp5⟩ := HPZ.out.take hp hown5 hgrow5 hat5
              have g7 : w5.cell? ⟨gt, p, none⟩ = some (.bool (bs.getD p false)) := by rw [hbk.cell p]; exact bools_at (by rw [hbl]; exact hp)
              have g8 : w5.frozen? ⟨gt, p, none⟩ = false := hbk.frozen p
              obtain ⟨a, m, cp, g9', hrow'⟩ := HIR.out.at hp
              have hgiw : w.heap.size < w1.heap.size := HIR.out.choose_spec.2.1.lt
              have g9 : w5.cell? ⟨w.heap.size, p, none⟩ = some (.slice a m cp) := (hbel5.cell (p := ⟨w.heap.size, p, none⟩) hgiw).trans g9'
              have hgtl := hp5.gtl
              have HP5 : Hid (P2 w1 (w5.setCell ⟨gt, p, none⟩ (.bool true)) gc gt n (ch ++ [p]) c (.slice (some ⟨g, 0, none⟩) (ch.length + 1) cap)) := hp5
              have HROW : Hid (IRow w1 a m (ofN (Pl.inOf M G p))) := hrow'
              have HIL : Hid ((Pl.inOf M G p).length = m) := by have := hrow'.1; rw [ofN_length] at this; exact this
              have hmG : m ≤ G := by rw [← HIL.out]; exact Pl.inOf_length M G p
              have HND2 : Hid ((ch ++ [p]).Nodup) := by
                show List.Nodup _
                rw [List.nodup_append]
                refine ⟨HND.out, by simp, ?_⟩
                intro x hx y hy e
                have : y = p := by simpa using hy
                subst this
                subst e
                exact HPC.out hx
              have HRG2 : Hid (∀ x ∈ ch ++ [p], x < n) := by
                intro x hx
                rcases List.mem_append.1 hx with h | h
                · exact HRG.out x h
                · have : x = p := by simpa using h
                  omega
              have hlen2 : ch.length + 1 ≤ n := by have := length_le_of_nodup _ n HND2.out HRG2.out; simpa using this
              have hcvb : ∀ i, i < G → 0 ≤ c.getD i 0 ∧ c.getD i 0 ≤ 4096 := by
                intro i hi
                have h1 := HCV.out.2 i (by rw [HL.out]; exact hi)
                have h2 := Pl.cv_le M ch i
                omega
              have HCVB : Hid (∀ i, i < G → 0 ≤ c.getD i 0 ∧ c.getD i 0 ≤ 4096) := hcvb
              have HHH : Hid (lenOf u13 = ch.length) := lenOf_owns HPZ.out.own
              clear hown5 hgrow5 hat5 hglt5 hbk hbl hbel5 hp5 g9' hrow' hcvb HPZ
              go_wp2_with fail
              obtain ⟨w6, ew6⟩ : ∃ w6, w6 = w5.setCell ⟨gt, p, none⟩ (.bool true) := ⟨_, rfl⟩
              rw [← ew6]
              rw [← ew6] at HP5
              clear ew6 g7 g8 g9
              go_loopw [11, 118] (fun lf i wi => ∃ (t : Nat) (cc : List Int), t ≤ m ∧ i = .int .i64 t ∧ lf = .int .i64 (Pl.open_ C cc G : Nat) ∧ P2 w1 wi gc gt n (ch ++ [p]) cc (.slice (some ⟨g, 0, none⟩) (ch.length + 1) cap) ∧ Hid (cc = Pl.adj 1 c ((Pl.inOf M G p).take t))) (fun _ i _ => m - (intOf i).toNat)
              case atStart => exact ⟨0, c, Nat.zero_le _, rfl, rfl, HP5.out, rfl⟩
              case round =>
                clear HP5
                obtain ⟨t, cc, ht, rfl, rfl, hp6, HCC⟩ := hrel
                have HP6 : Hid (P2 w1 wr gc gt n (ch ++ [p]) cc (.slice (some ⟨g, 0, none⟩) (ch.length + 1) cap)) := hp6
                clear hp6
                have hccl : cc.length = G := by rw [HCC.out, Pl.adj_length, HCV.out.1, HL.out]
                by_cases htm : t < m
                · obtain ⟨b2, off2, rfl, hb2, hc2⟩ := HROW.out.at htm
                  have htl : t < (Pl.inOf M G p).length := by rw [HIL.out]; exact htm
                  have g2' := hc2 t htm
                  rw [ofN_at _ t htl] at g2'
                  have g2 : wr.cell? ⟨b2, off2 + t, none⟩ = some (.int .i64 ((Pl.inOf M G p).getD t 0 : Nat)) := (HP6.out.bel.cell (p := ⟨b2, off2 + t, none⟩) hb2).trans g2'
                  have hi0 : (Pl.inOf M G p).getD t 0 < G := (Pl.inOf_lt (getD_memN _ t htl)).1
                  have hat := Pl.adj_take 1 c (Pl.inOf M G p) t htl
                  rw [← HCC.out] at hat
                  have HAT : Hid (Pl.adj 1 c ((Pl.inOf M G p).take (t + 1)) = cc.set ((Pl.inOf M G p).getD t 0) (cc.getD ((Pl.inOf M G p).getD t 0) 0 + 1)) := hat
                  have hx0 : 0 ≤ cc.getD ((Pl.inOf M G p).getD t 0) 0 ∧ cc.getD ((Pl.inOf M G p).getD t 0) 0 ≤ 1052672 := by
                    rw [HCC.out, Pl.adj_at 1 _ c _ (by rw [HCV.out.1, HL.out]; exact hi0)]
                    have h1 := HCVB.out _ hi0
                    have h2 : List.count ((Pl.inOf M G p).getD t 0) ((Pl.inOf M G p).take t) ≤ ((Pl.inOf M G p).take t).length := List.count_le_length
                    have h3 : ((Pl.inOf M G p).take t).length ≤ t := by rw [List.length_take]; omega
                    omega
                  clear hc2 htl g2' hat
                  generalize (Pl.inOf M G p).getD t 0 = i0 at *
                  have g3 : wr.cell? ⟨gc, i0, none⟩ = some (.int .i64 (cc.getD i0 0)) := by
                    rw [HP6.out.cov.cell i0]
                    exact ints_at (by omega)
                  have g3f : wr.frozen? ⟨gc, i0, none⟩ = false := HP6.out.cov.frozen i0
                  obtain ⟨_, _, _, _, _, _, g4'⟩ := HCG.out i0 hi0
                  have g4 : wr.cell? ⟨b, off + i0 * 2 + 1, none⟩ = some (.int .i64 (C.getD i0 0)) := (HP6.out.bel.cell (p := ⟨b, off + i0 * 2 + 1, none⟩) (by have := HB.out.size; show b < _; omega)).trans ((HB.out.cell (p := ⟨b, off + i0 * 2 + 1, none⟩) hbw).trans g4')
                  have hop1 := Pl.open_step C cc G i0 hi0 hccl
                  have HOP1 : Hid ((Pl.open_ C (cc.set i0 (cc.getD i0 0 + 1)) G : Int) = (Pl.open_ C cc G : Int) - (if cc.getD i0 0 + 1 = C.getD i0 0 then 1 else 0)) := hop1
                  have hop2 := Pl.open_le C cc G
                  have HP7 : Hid (P2 w1 (wr.setCell ⟨gc, i0, none⟩ (.int .i64 (cc.getD i0 0 + 1))) gc gt n (ch ++ [p]) (cc.set i0 (cc.getD i0 0 + 1)) (.slice (some ⟨g, 0, none⟩) (ch.length + 1) cap)) := HP6.out.bump i0 _
                  have hop3 : cc.getD i0 0 + 1 = C.getD i0 0 → 1 ≤ Pl.open_ C cc G := by
                    intro e
                    rw [if_pos e] at hop1
                    omega
                  have HCC2 : Hid (cc.set i0 (cc.getD i0 0 + 1) = Pl.adj 1 c ((Pl.inOf M G p).take (t + 1))) := HAT.out.symm
                  clear g4' hop1 HAT HP6 HCC
                  generalize cc.set i0 (cc.getD i0 0 + 1) = cc2 at *
                  generalize cc.getD i0 0 = x at *
                  generalize C.getD i0 0 = Ci at *
                  generalize Pl.open_ C cc G = on at *
                  have k1 : (i0 : Int) < (G : Int) := by omega
                  have hbgc : b ≠ gc := by omega
                  by_cases heq : x + 1 = Ci
                  · have hon := hop3 heq
                    have HO2 : Hid ((Pl.open_ C cc2 G : Int) = (on : Int) - 1) := by have := HOP1.out; rw [if_pos heq] at this; exact this
                    have hbq : (x + 1 == Ci) = true := by simpa using heq
                    clear HOP1 heq hop3
                    go_wp2_with fail
                    go_quiet (fail)
                    go_wp2_with fail
                    go_roundw
                    case rel => exact ⟨t + 1, cc2, by omega, by go_num, by rw [HO2.out], HP7.out.drewN _, HCC2.out⟩
                    case measure => simp [intOf]; omega
                  · have HO2 : Hid ((Pl.open_ C cc2 G : Int) = (on : Int)) := by show (Pl.open_ C cc2 G : Int) = (on : Int); have := HOP1.out; rw [if_neg heq] at this; omega
                    have hbq : (x + 1 == Ci) = false := by simpa using heq
                    clear HOP1 heq hop3
                    go_wp2_with fail
                    go_quiet (fail)
                    go_wp2_with fail
                    go_roundw
                    case rel => exact ⟨t + 1, cc2, by omega, by go_num, by rw [HO2.out], HP7.out.drewN _, HCC2.out⟩
                    case measure => simp [intOf]; omega
                · have etk : (Pl.inOf M G p).take t = Pl.inOf M G p := List.take_of_length_le (by rw [HIL.out]; omega)
                  have HCV2 : Hid (Pl.CovIs M (ch ++ [p]) cc) := by
                    show Pl.CovIs _ _ _
                    rw [HCC.out, etk, ← HL.out]
                    exact HCV.out.add p
                  clear etk HCC
                  go_wp2_with fail
                  go_roundw
                  case rel => exact ⟨ch ++ [p], cc, rfl, HP6.out, HCV2.out, HND2.out, HRG2.out⟩
                  case measure =>
                    show n - lenOf (Value.slice (some ⟨g, 0, none⟩) (ch.length + 1) cap) < n - lenOf u13
                    rw [HHH.out]
                    simp only [lenOf]
                    omega
        · have HOK : Hid (∀ i, i < G → C.getD i 0 ≤ c.getD i 0) := Pl.open_none (by omega)
          have hop0 : Pl.open_ C c G = 0 := by omega
          rw [hop0, show ((0 : Nat) : Int) = 0 from rfl]
          clear hop hpos hop0
          by_cases hch : ch = []
          · have ev := HP.out.vnil hch
            have HPOST : Hid (CoverPost M C n w (.returned (.slice none 0 0)) wr) := by
              refine ⟨none, 0, 0, [], rfl, by omega, ⟨rfl, by omega, fun _ => rfl, .inl rfl⟩, List.Pairwise.nil, by simp, ?_, HB.out.trans (HP.out.bel.mono HB.out.size)⟩
              intro i hi
              have h1 := HOK.out i (by rw [← HL.out]; exact hi)
              have h2 := HCV.out.2 i hi
              rw [hch] at h2
              rw [h2] at h1
              exact h1
            subst ev
            subst hch
            clear HP HCV HND HRG HOK hchn
            obtain ⟨wy, ewy⟩ : ∃ wy, wy = wr := ⟨_, rfl⟩
            rw [← ewy]
            rw [← ewy] at HPOST
            clear ewy
            go_wp2_with fail
            go_loopw [22, 145] (fun kv i wi => kv = .slice none 0 0 ∧ i = .int .i64 0 ∧ wi = wy) (fun _ _ _ => 0)
            case atStart => exact ⟨rfl, rfl, rfl⟩
            case round =>
              obtain ⟨rfl, rfl, rfl⟩ := hrel
              go_wp2_with fail
              refine (Try.slices_Sort_int_none none 0 _).mono ?_
              rintro e w' ⟨rfl, ew⟩
              subst w'
              go_wp2_with fail
              go_ret
              exact HPOST.out
          · obtain ⟨g, cap, ev, hgb, hgl⟩ := HP.out.own.form (by
              rcases ch with _ | ⟨x, r⟩
              · exact absurd rfl hch
              · simp)
            have hlpos : 0 < ch.length := by
              rcases ch with _ | ⟨x, r⟩
              · exact absurd rfl hch
              · simp
            subst ev
            have HP3 : Hid (P3 w1 wr gc g cap ch 0 [] c) := P3.start HP.out
            have hlc := HP3.out.lc
            have hcap : 0 < cap := by omega
            have hcapm : (cap : Int) ≤ 9223372036854775807 := by
              rcases HP.out.own.2 with ⟨h', _⟩ | ⟨g', cap', cur, h', _, _, _, hcm, _⟩
              · simp at h'
              · simp only [Value.slice.injEq, Option.some.injEq, Addr.mk.injEq, and_true, true_and] at h'
                obtain ⟨rfl, rfl⟩ := h'
                unfold maxLen at hcm
                omega
            clear HP hch
            obtain ⟨wy, ewy⟩ : ∃ wy, wy = wr := ⟨_, rfl⟩
            rw [← ewy]
            rw [← ewy] at HP3
            clear ewy
            go_wp2_with fail
            go_loopw [22, 145] (fun kv i wi => ∃ (t : Nat) (kept : List Nat) (c : List Int), t ≤ ch.length ∧ i = .int .i64 t ∧ kv = .slice (some ⟨g, 0, none⟩) kept.length cap ∧ P3 w1 wi gc g cap ch t kept c ∧ Pl.CovIs M (kept ++ ch.drop t) c ∧ (∀ i, i < G → C.getD i 0 ≤ c.getD i 0) ∧ (kept ++ ch.drop t).Sublist ch) (fun _ i _ => ch.length - (intOf i).toNat)
            case atStart => exact ⟨0, [], c, Nat.zero_le _, rfl, rfl, HP3.out, by simpa using HCV.out, HOK.out, by simp⟩
            case round =>
              clear HP3 HCV HOK
              clear c
              obtain ⟨t, kept, c, ht, rfl, rfl, hp3, hcv, hok, hsub⟩ := hrel
              have HP3 : Hid (P3 w1 wr gc g cap ch t kept c) := hp3
              have HCV : Hid (Pl.CovIs M (kept ++ ch.drop t) c) := hcv
              have HOK : Hid (∀ i, i < G → C.getD i 0 ≤ c.getD i 0) := hok
              have HSUB : Hid ((kept ++ ch.drop t).Sublist ch) := hsub
              have hkl := hp3.kl
              clear hp3 hcv hok hsub
              by_cases htl : t < ch.length
              · have edrop : ch.drop t = ch.getD t 0 :: ch.drop (t + 1) := by
                  rw [List.drop_eq_getElem_cons htl]
                  simp only [List.getD, List.getElem?_eq_getElem htl, Option.getD_some]
                have HED : Hid (ch.drop t = ch.getD t 0 :: ch.drop (t + 1)) := edrop
                obtain ⟨vs, hv1, hv2, hv3, hv4⟩ := HP3.out.row
                have g1 : wr.cell? ⟨g, t, none⟩ = some (.int .i64 (ch.getD t 0 : Nat)) := by rw [hv2.cell t]; exact hv4 t (Nat.le_refl _) htl
                have hjn : ch.getD t 0 < n := HRG.out _ (getD_memN ch t htl)
                have HV1 : Hid (vs.length = cap) := hv1
                have HV2 : Hid (Blk wr g 3 vs) := hv2
                have HV3 : Hid (vs.take kept.length = (ofN kept).map (Value.int .i64)) := hv3
                have HV4 : Hid (∀ s, t ≤ s → s < ch.length → vs[s]? = some (.int .i64 (ch.getD s 0 : Nat))) := hv4
                clear edrop hv1 hv2 hv3 hv4
                generalize hjj : ch.getD t 0 = j at *
                clear hjj
                obtain ⟨a, m, cp, g2', hrow'⟩ := HIR.out.at hjn
                have hgiw : w.heap.size < w1.heap.size := HIR.out.choose_spec.2.1.lt
                have g2 : wr.cell? ⟨w.heap.size, j, none⟩ = some (.slice a m cp) := (HP3.out.bel.cell (p := ⟨w.heap.size, j, none⟩) hgiw).trans g2'
                have HROW : Hid (IRow w1 a m (ofN (Pl.inOf M G j))) := hrow'
                have HIL : Hid ((Pl.inOf M G j).length = m) := by have := hrow'.1; rw [ofN_length] at this; exact this
                have hmG : m ≤ G := by rw [← HIL.out]; exact Pl.inOf_length M G j
                clear g2' hrow'
                go_wp2_with fail
                obtain ⟨wq, ewq⟩ : ∃ wq, wq = wr := ⟨_, rfl⟩
                rw [← ewq]
                rw [← ewq] at HP3 HV2 g2
                clear ewq g1
                go_loopw [25, 154] (fun nd i wi => ∃ (s q : Nat) (b : Bool), s ≤ m ∧ i = .int .i64 s ∧ nd = .bool b ∧ wi = wq.drewN q ∧ Hid (b = Pl.need C c ((Pl.inOf M G j).take s))) (fun _ i _ => m - (intOf i).toNat)
                case atStart => exact ⟨0, 0, false, Nat.zero_le _, rfl, rfl, rfl, rfl⟩
                case round =>
                  obtain ⟨s, q, bb, hs, rfl, rfl, rfl, HBB⟩ := hrel
                  by_cases hsm : s < m
                  · obtain ⟨b2, off2, rfl, hb2, hc2⟩ := HROW.out.at hsm
                    have hsl : s < (Pl.inOf M G j).length := by rw [HIL.out]; exact hsm
                    have g3' := hc2 s hsm
                    rw [ofN_at _ s hsl] at g3'
                    have g3 : wq.cell? ⟨b2, off2 + s, none⟩ = some (.int .i64 ((Pl.inOf M G j).getD s 0 : Nat)) := (HP3.out.bel.cell (p := ⟨b2, off2 + s, none⟩) hb2).trans g3'
                    have hi0 : (Pl.inOf M G j).getD s 0 < G := (Pl.inOf_lt (getD_memN _ s hsl)).1
                    have HNT : Hid (Pl.need C c ((Pl.inOf M G j).take (s + 1)) = (Pl.need C c ((Pl.inOf M G j).take s) || decide (c.getD ((Pl.inOf M G j).getD s 0) 0 ≤ C.getD ((Pl.inOf M G j).getD s 0) 0))) := Pl.need_take C c _ s hsl
                    clear hc2 hsl g3'
                    generalize (Pl.inOf M G j).getD s 0 = i0 at *
                    have hG0 : 0 < G := by omega
                    obtain ⟨b, off, eao, hbw, hcg⟩ := HG.out.at hG0
                    subst eao
                    obtain ⟨_, _, _, _, _, _, g4'⟩ := hcg i0 hi0
                    have hcl : c.length = G := by rw [HCV.out.1, HL.out]
                    have g4 : wq.cell? ⟨gc, i0, none⟩ = some (.int .i64 (c.getD i0 0)) := by
                      rw [HP3.out.cov.cell i0]
                      exact ints_at (by omega)
                    have g5 : wq.cell? ⟨b, off + i0 * 2 + 1, none⟩ = some (.int .i64 (C.getD i0 0)) := (HP3.out.bel.cell (p := ⟨b, off + i0 * 2 + 1, none⟩) (by have := HB.out.size; show b < _; omega)).trans ((HB.out.cell (p := ⟨b, off + i0 * 2 + 1, none⟩) hbw).trans g4')
                    clear hcg g4' hcl
                    generalize c.getD i0 0 = ci at *
                    generalize C.getD i0 0 = Ci at *
                    have k1 : (i0 : Int) < (G : Int) := by omega
                    by_cases hle : ci ≤ Ci
                    · have HB2 : Hid (true = Pl.need C c ((Pl.inOf M G j).take (s + 1))) := by show _ = _; rw [HNT.out, decide_eq_true hle]; simp
                      clear HNT HBB
                      go_wp2_with fail
                      go_quiet (fail)
                      go_wp2_with fail
                      go_roundw
                      case rel => exact ⟨s + 1, _, true, by omega, by go_num, rfl, rfl, HB2.out⟩
                      case measure => simp [intOf]; omega
                    · have HB2 : Hid (bb = Pl.need C c ((Pl.inOf M G j).take (s + 1))) := by show _ = _; rw [HNT.out, decide_eq_false hle, ← HBB.out]; simp
                      clear HNT HBB
                      go_wp2_with fail
                      go_quiet (fail)
                      go_wp2_with fail
                      go_roundw
                      case rel => exact ⟨s + 1, _, bb, by omega, by go_num, rfl, rfl, HB2.out⟩
                      case measure => simp [intOf]; omega
                  · have etk : (Pl.inOf M G j).take s = Pl.inOf M G j := List.take_of_length_le (by rw [HIL.out]; omega)
                    have HB2 : Hid (bb = Pl.need C c (Pl.inOf M G j)) := by have := HBB.out; rw [etk] at this; exact this
                    have HP4 : Hid (P3 w1 (wq.drewN q) gc g cap ch t kept c) := HP3.out.drewN q
                    have HV2' : Hid (Blk (wq.drewN q) g 3 vs) := HV2.out
                    have g2z : (wq.drewN q).cell? ⟨w.heap.size, j, none⟩ = some (.slice a m cp) := g2
                    clear etk HBB HP3 HV2 g2
                    obtain ⟨wz, ewz⟩ : ∃ wz, wz = wq.drewN q := ⟨_, rfl⟩
                    rw [← ewz]
                    rw [← ewz] at HP4 HV2' g2z
                    clear ewz
                    cases bb with
                    | true =>
                      have hkc : kept.length + 1 ≤ cap := by omega
                      have HVB : Hid (kept.length + 1 ≤ vs.length) := by show _ ≤ _; rw [HV1.out]; exact hkc
                      go_wp2_with (at_builtin; refine wpList_append_exact _ rfl (.tmp 170) (.tmp 172) 33 rfl 3 i3 Try.underlying33 hi3 hs3 g kept.length cap vs rfl (HV2'.out.alloc _) ⟨wz.heap.size, 0, none⟩ 1 (.int .i64 (j : Int)) rfl (one_cell rfl) rfl hkc HVB.out ?_)
                      intro w5 hblk5 hgrow5
                      have HP5 : Hid (P3 w1 w5 gc g cap ch (t + 1) (kept ++ [j]) c) := HP4.out.keep htl HV1.out HV2'.out HV3.out HV4.out hblk5 hgrow5
                      have elist : kept ++ ch.drop t = (kept ++ [j]) ++ ch.drop (t + 1) := by rw [HED.out]; simp
                      have HCV2 : Hid (Pl.CovIs M ((kept ++ [j]) ++ ch.drop (t + 1)) c) := by show Pl.CovIs _ _ _; rw [← elist]; exact HCV.out
                      have HSUB2 : Hid (((kept ++ [j]) ++ ch.drop (t + 1)).Sublist ch) := by show List.Sublist _ _; rw [← elist]; exact HSUB.out
                      clear hblk5 hgrow5 elist
                      go_wp2_with fail
                      go_roundw
                      case rel => exact ⟨t + 1, kept ++ [j], c, by omega, by go_num, by simp, HP5.out, HCV2.out, HOK.out, HSUB2.out⟩
                      case measure => simp [intOf]; omega
                    | false =>
                      have HNEED : Hid (Pl.need C c (Pl.inOf M G j) = false) := HB2.out.symm
                      have hcvb : ∀ i, i < G → 0 ≤ c.getD i 0 ∧ c.getD i 0 ≤ 4096 := by
                        intro i hi
                        have h1 := HCV.out.2 i (by rw [HL.out]; exact hi)
                        have h2 := Pl.cv_le M (kept ++ ch.drop t) i
                        have h3 := HSUB.out.length_le
                        omega
                      have HCVB : Hid (∀ i, i < G → 0 ≤ c.getD i 0 ∧ c.getD i 0 ≤ 4096) := hcvb
                      clear hcvb HB2
                      go_wp2_with fail
                      go_loopw [179] (fun i wi => ∃ (s : Nat) (cc : List Int), s ≤ m ∧ i = .int .i64 s ∧ P3 w1 wi gc g cap ch t kept cc ∧ Hid (cc = Pl.adj (-1) c ((Pl.inOf M G j).take s))) (fun i _ => m - (intOf i).toNat)
                      case atStart => exact ⟨0, c, Nat.zero_le _, rfl, HP4.out, rfl⟩
                      case round =>
                        clear HP4 HV2' g2z
                        obtain ⟨s, cc, hs, rfl, hp5, HCC⟩ := hrel
                        have HP5 : Hid (P3 w1 wr gc g cap ch t kept cc) := hp5
                        clear hp5
                        have hccl : cc.length = G := by rw [HCC.out, Pl.adj_length, HCV.out.1, HL.out]
                        by_cases hsm : s < m
                        · obtain ⟨b2, off2, rfl, hb2, hc2⟩ := HROW.out.at hsm
                          have hsl : s < (Pl.inOf M G j).length := by rw [HIL.out]; exact hsm
                          have g3' := hc2 s hsm
                          rw [ofN_at _ s hsl] at g3'
                          have g3 : wr.cell? ⟨b2, off2 + s, none⟩ = some (.int .i64 ((Pl.inOf M G j).getD s 0 : Nat)) := (HP5.out.bel.cell (p := ⟨b2, off2 + s, none⟩) hb2).trans g3'
                          have hi0 : (Pl.inOf M G j).getD s 0 < G := (Pl.inOf_lt (getD_memN _ s hsl)).1
                          have hat := Pl.adj_take (-1) c (Pl.inOf M G j) s hsl
                          rw [← HCC.out] at hat
                          have HAT : Hid (cc.set ((Pl.inOf M G j).getD s 0) (cc.getD ((Pl.inOf M G j).getD s 0) 0 - 1) = Pl.adj (-1) c ((Pl.inOf M G j).take (s + 1))) := hat.symm
                          have hx0 : -1048576 ≤ cc.getD ((Pl.inOf M G j).getD s 0) 0 ∧ cc.getD ((Pl.inOf M G j).getD s 0) 0 ≤ 4096 := by
                            rw [HCC.out, Pl.adj_at (-1) _ c _ (by rw [HCV.out.1, HL.out]; exact hi0)]
                            have h1 := HCVB.out _ hi0
                            have h2 : List.count ((Pl.inOf M G j).getD s 0) ((Pl.inOf M G j).take s) ≤ ((Pl.inOf M G j).take s).length := List.count_le_length
                            have h3 : ((Pl.inOf M G j).take s).length ≤ s := by rw [List.length_take]; omega
                            omega
                          clear hc2 hsl g3' hat
                          generalize (Pl.inOf M G j).getD s 0 = i0 at *
                          have g4 : wr.cell? ⟨gc, i0, none⟩ = some (.int .i64 (cc.getD i0 0)) := by
                            rw [HP5.out.cov.cell i0]
                            exact ints_at (by omega)
                          have g4f : wr.frozen? ⟨gc, i0, none⟩ = false := HP5.out.cov.frozen i0
                          have HP6 : Hid (P3 w1 (wr.setCell ⟨gc, i0, none⟩ (.int .i64 (cc.getD i0 0 - 1))) gc g cap ch t kept (cc.set i0 (cc.getD i0 0 - 1))) := HP5.out.bump i0 _
                          clear HP5 HCC
                          generalize cc.set i0 (cc.getD i0 0 - 1) = cc2 at *
                          generalize cc.getD i0 0 = x at *
                          have k1 : (i0 : Int) < (G : Int) := by omega
                          go_wp2_with fail
                          go_roundw
                          case rel => exact ⟨s + 1, cc2, by omega, by go_num, HP6.out, HAT.out⟩
                          case measure => simp [intOf]; omega
                        · have etk : (Pl.inOf M G j).take s = Pl.inOf M G j := List.take_of_length_le (by rw [HIL.out]; omega)
                          have ecc : cc = Pl.adj (-1) c (Pl.inOf M M.length j) := by rw [HCC.out, etk, HL.out]
                          have HCV2 : Hid (Pl.CovIs M (kept ++ ch.drop (t + 1)) cc) := by
                            show Pl.CovIs _ _ _
                            rw [ecc]
                            have h1 := HCV.out
                            rw [HED.out] at h1
                            exact h1.sub
                          have HOK2 : Hid (∀ i, i < G → C.getD i 0 ≤ cc.getD i 0) := by
                            have h1 := HOK.out
                            have h2 := HNEED.out
                            rw [← HL.out] at h1 h2 ⊢
                            rw [ecc]
                            exact Pl.drop_ok h1 HCV.out.1 h2
                          have HSUB2 : Hid ((kept ++ ch.drop (t + 1)).Sublist ch) := by
                            have h1 := HSUB.out
                            rw [HED.out] at h1
                            exact List.Sublist.trans (List.Sublist.append_left (List.sublist_cons_self _ _) kept) h1
                          have HP6 : Hid (P3 w1 wr gc g cap ch (t + 1) kept cc) := HP5.out.skip htl
                          clear etk ecc HP5 HCC
                          go_wp2_with fail
                          go_roundw
                          case rel => exact ⟨t + 1, kept, cc, by omega, by go_num, rfl, HP6.out, HCV2.out, HOK2.out, HSUB2.out⟩
                          case measure => simp [intOf]; omega
              · have htc : t = ch.length := by omega
                have ek : kept ++ ch.drop t = kept := by rw [htc, List.drop_length, List.append_nil]
                have hcv := HCV.out
                have hsub := HSUB.out
                rw [ek] at hcv hsub
                have HNDk : Hid (kept.Nodup) := hsub.nodup HND.out
                have HCVk : Hid (Pl.CovIs M kept c) := hcv
                have HRGk : Hid (∀ p ∈ kept, p < n) := fun p hp => HRG.out p (hsub.subset hp)
                have hkn : kept.length ≤ 4096 := by have := hsub.length_le; omega
                obtain ⟨vs, hv1, hv2, hv3, _⟩ := HP3.out.row
                have hsort := Try.slices_Sort_int g 0 cap (ofN kept) wr (holds_of_blockI (cur := vs.toArray) hv2 (by rw [ofN_length]; exact hv3)) hv2.lt (by rw [ofN_length]; omega)
                rw [ofN_length] at hsort
                obtain ⟨l, hl1, hl2, hl3⟩ := sorted_nat kept HNDk.out
                clear HCV HSUB ek hcv hsub
                go_wp2_with fail
                refine hsort.mono ?_
                rintro e w' ⟨rfl, nn, os, ew⟩
                have HPOST : Hid (CoverPost M C n w (.returned (.slice (some ⟨g, 0, none⟩) kept.length cap)) w') := by
                  have hll : l.length = kept.length := hl2.length_eq
                  have hown : w'.ownsRow w1.heap.size 3 1 (.slice (some ⟨g, 0, none⟩) kept.length cap) kept.length ((ofN l).map (Value.int .i64)) := by
                    have h1 := ownsRow_sortedI (w := wr) (base := w1.heap.size) (g := g) (cap := cap) (n := nn) (e := 3) (os := os) (cur := vs.toArray) (ss := ofN kept) (ts := ofN l) (by rw [ofN_length, ofN_length, hll]) HP3.out.gl hv2 (by rw [ofN_length]; have := HP3.out.kl; omega) (by unfold maxLen; omega) (by simp [hv1])
                    rw [ew, ← hl1]
                    rw [ofN_length] at h1
                    exact h1
                  have hbel : Below w1.heap.size w1 w' := by
                    rw [ew]
                    exact HP3.out.bel.grown (grownBy_sortedI _) HP3.out.bel.size (fun k hk => by cases hk; exact HP3.out.gl)
                  obtain ⟨ao', cap', ev, hrow⟩ := IRow.ofOwns (by omega) hown
                  cases ev
                  refine ⟨_, _, _, l, rfl, hkn, hrow, hl3, fun p hp => HRGk.out p (hl2.mem_iff.1 hp), ?_, HB.out.trans (hbel.mono HB.out.size)⟩
                  intro i hi
                  rw [cv_perm hl2 i, ← HCVk.out.2 i hi]
                  exact HOK.out i (by rw [← HL.out]; exact hi)
                clear ew hl1 hl2 hl3 hv1 hv2 hv3
                go_wp2_with fail
                go_ret
                exact HPOST.out

end Go.Proofs.Qxb6001441a
