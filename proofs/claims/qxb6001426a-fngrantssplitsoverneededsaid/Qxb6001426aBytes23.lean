/-
  Contract: the guard zzBytes_FnGrantsSplitsOverNeeded (23): some answer, nothing turned.
-/
import Derived.Test.Qxb6001426aLeaf
namespace Go.Proofs.Qxb6001426a
open Go.RowKit
set_option linter.unusedVariables false

/-- Some yes-or-no; the world is as it was. -/
def AnyBool (w : World) (e : Ending) (w' : World) : Prop := (∃ b, e = .returned (.bool b)) ∧ w' = w

set_option maxHeartbeats 8000000 in
set_option maxRecDepth 100000 in
theorem bytes23 (a0 a1 a2 a3 a4 a5 a6 a7 a8 : Option Addr) (n0 n1 n2 n3 n4 n5 n6 n7 n8 c0 c1 c2 c3 c4 c5 c6 c7 c8 : Nat) (s0 : Pl.Strs) (s1 : Pl.Strs) (s2 : List Pl.Strs) (s3 : Pl.Strs) (s4 : Pl.Strs) (s5 : List Pl.Strs) (s6 : Pl.Strs) (s7 : Pl.Strs) (s8 : List Pl.Strs) (w : World) (h0 : SRow w a0 n0 s0) (h1 : SRow w a1 n1 s1) (h2 : NRow w a2 n2 s2) (h3 : SRow w a3 n3 s3) (h4 : SRow w a4 n4 s4) (h5 : NRow w a5 n5 s5) (h6 : SRow w a6 n6 s6) (h7 : SRow w a7 n7 s7) (h8 : NRow w a8 n8 s8) :
    Calls Try.prog 23 #[.slice a0 n0 c0, .slice a1 n1 c1, .slice a2 n2 c2, .slice a3 n3 c3, .slice a4 n4 c4, .slice a5 n5 c5, .slice a6 n6 c6, .slice a7 n7 c7, .slice a8 n8 c8] w (AnyBool w) := by
  have H0 : Hid (SRow w a0 n0 s0) := h0
  have H1 : Hid (SRow w a1 n1 s1) := h1
  have H2 : Hid (NRow w a2 n2 s2) := h2
  have H3 : Hid (SRow w a3 n3 s3) := h3
  have H4 : Hid (SRow w a4 n4 s4) := h4
  have H5 : Hid (NRow w a5 n5 s5) := h5
  have H6 : Hid (SRow w a6 n6 s6) := h6
  have H7 : Hid (SRow w a7 n7 s7) := h7
  have H8 : Hid (NRow w a8 n8 s8) := h8
  clear h0 h1 h2 h3 h4 h5 h6 h7 h8
  go_enter Try.func23, Try.ntmps23
  by_cases t0 : n0 ≤ 1048576
  case neg => go_wp2_with fail; go_ret; exact ⟨⟨_, rfl⟩, rfl⟩
  go_wp2_with fail
  go_loop [19, 20] (fun t i => ∃ (k : Nat) (z : Nat), k ≤ n0 ∧ i = .int .i64 k ∧ t = .int .i64 z ∧ z ≤ 1048576) (fun _ i => n0 - (intOf i).toNat)
  case atStart => exact ⟨0, n0, Nat.zero_le _, rfl, by go_num, by omega⟩
  case round =>
    obtain ⟨k, z0, hk, rfl, rfl, hz0⟩ := hrel
    by_cases hlt : k < n0
    case pos =>
      obtain ⟨b, off, rfl, hb, hc⟩ := H0.out.at hlt
      have g := hc k hlt
      generalize s0.getD k ByteArray.empty = x at *
      clear hc
      by_cases y1 : x.size ≤ 1048576
      case neg => go_wp2_with fail; go_ret; exact ⟨⟨_, rfl⟩, rfl⟩
      by_cases y2 : z0 + x.size ≤ 1048576
      case neg => go_wp2_with fail; go_ret; exact ⟨⟨_, rfl⟩, rfl⟩
      go_wp2_with fail
      go_round
      case rel => exact ⟨k + 1, z0 + x.size, by omega, by go_num, by go_num, by omega⟩
      case measure => simp [intOf]; omega
    case neg =>
      by_cases t1 : n1 ≤ 1048576
      case neg => go_wp2_with fail; go_ret; exact ⟨⟨_, rfl⟩, rfl⟩
      by_cases v1 : z0 + n1 ≤ 1048576
      case neg => go_wp2_with fail; go_ret; exact ⟨⟨_, rfl⟩, rfl⟩
      go_wp2_with fail
      go_loop [19, 21] (fun t i => ∃ (k : Nat) (z : Nat), k ≤ n1 ∧ i = .int .i64 k ∧ t = .int .i64 z ∧ z ≤ 1048576) (fun _ i => n1 - (intOf i).toNat)
      case atStart => exact ⟨0, z0 + n1, Nat.zero_le _, rfl, by go_num, by omega⟩
      case round =>
        obtain ⟨k, z1, hk, rfl, rfl, hz1⟩ := hrel
        by_cases hlt : k < n1
        case pos =>
          obtain ⟨b, off, rfl, hb, hc⟩ := H1.out.at hlt
          have g := hc k hlt
          generalize s1.getD k ByteArray.empty = x at *
          clear hc
          by_cases y1 : x.size ≤ 1048576
          case neg => go_wp2_with fail; go_ret; exact ⟨⟨_, rfl⟩, rfl⟩
          by_cases y2 : z1 + x.size ≤ 1048576
          case neg => go_wp2_with fail; go_ret; exact ⟨⟨_, rfl⟩, rfl⟩
          go_wp2_with fail
          go_round
          case rel => exact ⟨k + 1, z1 + x.size, by omega, by go_num, by go_num, by omega⟩
          case measure => simp [intOf]; omega
        case neg =>
          by_cases t2 : n2 ≤ 1048576
          case neg => go_wp2_with fail; go_ret; exact ⟨⟨_, rfl⟩, rfl⟩
          by_cases v2 : z1 + n2 ≤ 1048576
          case neg => go_wp2_with fail; go_ret; exact ⟨⟨_, rfl⟩, rfl⟩
          go_wp2_with fail
          go_loop [19, 22] (fun t i => ∃ (k : Nat) (z : Nat), k ≤ n2 ∧ i = .int .i64 k ∧ t = .int .i64 z ∧ z ≤ 1048576) (fun _ i => n2 - (intOf i).toNat)
          case atStart => exact ⟨0, z1 + n2, Nat.zero_le _, rfl, by go_num, by omega⟩
          case round =>
            obtain ⟨k, z2, hk, rfl, rfl, hz2⟩ := hrel
            by_cases hlt : k < n2
            case pos =>
              obtain ⟨b, off, rfl, hb, hc⟩ := H2.out.at hlt
              obtain ⟨a, m, c, g, hs⟩ := hc k hlt
              have HS : Hid (SRow w a m (s2.getD k [])) := hs
              clear hc hs
              by_cases y1 : m ≤ 1048576
              case neg => go_wp2_with fail; go_ret; exact ⟨⟨_, rfl⟩, rfl⟩
              by_cases y2 : z2 + m ≤ 1048576
              case neg => go_wp2_with fail; go_ret; exact ⟨⟨_, rfl⟩, rfl⟩
              go_wp2_with fail
              go_loop [19, 23] (fun t i => ∃ (k : Nat) (z : Nat), k ≤ m ∧ i = .int .i64 k ∧ t = .int .i64 z ∧ z ≤ 1048576) (fun _ i => m - (intOf i).toNat)
              case atStart => exact ⟨0, z2 + m, Nat.zero_le _, rfl, by go_num, by omega⟩
              case round =>
                obtain ⟨j, z, hj, rfl, rfl, hz⟩ := hrel
                by_cases hjl : j < m
                case pos =>
                  obtain ⟨b', off', rfl, hb', hc'⟩ := HS.out.at hjl
                  have g' := hc' j hjl
                  generalize (s2.getD k []).getD j ByteArray.empty = x at *
                  clear hc'
                  by_cases y1 : x.size ≤ 1048576
                  case neg => go_wp2_with fail; go_ret; exact ⟨⟨_, rfl⟩, rfl⟩
                  by_cases y2 : z + x.size ≤ 1048576
                  case neg => go_wp2_with fail; go_ret; exact ⟨⟨_, rfl⟩, rfl⟩
                  go_wp2_with fail
                  go_round
                  case rel => exact ⟨j + 1, z + x.size, by omega, by go_num, by go_num, by omega⟩
                  case measure => simp [intOf]; omega
                case neg =>
                  go_wp2_with fail
                  go_round
                  case rel => exact ⟨k + 1, z, by omega, by go_num, rfl, by omega⟩
                  case measure => simp [intOf]; omega
            case neg =>
              by_cases t3 : n3 ≤ 1048576
              case neg => go_wp2_with fail; go_ret; exact ⟨⟨_, rfl⟩, rfl⟩
              by_cases v3 : z2 + n3 ≤ 1048576
              case neg => go_wp2_with fail; go_ret; exact ⟨⟨_, rfl⟩, rfl⟩
              go_wp2_with fail
              go_loop [19, 24] (fun t i => ∃ (k : Nat) (z : Nat), k ≤ n3 ∧ i = .int .i64 k ∧ t = .int .i64 z ∧ z ≤ 1048576) (fun _ i => n3 - (intOf i).toNat)
              case atStart => exact ⟨0, z2 + n3, Nat.zero_le _, rfl, by go_num, by omega⟩
              case round =>
                obtain ⟨k, z3, hk, rfl, rfl, hz3⟩ := hrel
                by_cases hlt : k < n3
                case pos =>
                  obtain ⟨b, off, rfl, hb, hc⟩ := H3.out.at hlt
                  have g := hc k hlt
                  generalize s3.getD k ByteArray.empty = x at *
                  clear hc
                  by_cases y1 : x.size ≤ 1048576
                  case neg => go_wp2_with fail; go_ret; exact ⟨⟨_, rfl⟩, rfl⟩
                  by_cases y2 : z3 + x.size ≤ 1048576
                  case neg => go_wp2_with fail; go_ret; exact ⟨⟨_, rfl⟩, rfl⟩
                  go_wp2_with fail
                  go_round
                  case rel => exact ⟨k + 1, z3 + x.size, by omega, by go_num, by go_num, by omega⟩
                  case measure => simp [intOf]; omega
                case neg =>
                  by_cases t4 : n4 ≤ 1048576
                  case neg => go_wp2_with fail; go_ret; exact ⟨⟨_, rfl⟩, rfl⟩
                  by_cases v4 : z3 + n4 ≤ 1048576
                  case neg => go_wp2_with fail; go_ret; exact ⟨⟨_, rfl⟩, rfl⟩
                  go_wp2_with fail
                  go_loop [19, 25] (fun t i => ∃ (k : Nat) (z : Nat), k ≤ n4 ∧ i = .int .i64 k ∧ t = .int .i64 z ∧ z ≤ 1048576) (fun _ i => n4 - (intOf i).toNat)
                  case atStart => exact ⟨0, z3 + n4, Nat.zero_le _, rfl, by go_num, by omega⟩
                  case round =>
                    obtain ⟨k, z4, hk, rfl, rfl, hz4⟩ := hrel
                    by_cases hlt : k < n4
                    case pos =>
                      obtain ⟨b, off, rfl, hb, hc⟩ := H4.out.at hlt
                      have g := hc k hlt
                      generalize s4.getD k ByteArray.empty = x at *
                      clear hc
                      by_cases y1 : x.size ≤ 1048576
                      case neg => go_wp2_with fail; go_ret; exact ⟨⟨_, rfl⟩, rfl⟩
                      by_cases y2 : z4 + x.size ≤ 1048576
                      case neg => go_wp2_with fail; go_ret; exact ⟨⟨_, rfl⟩, rfl⟩
                      go_wp2_with fail
                      go_round
                      case rel => exact ⟨k + 1, z4 + x.size, by omega, by go_num, by go_num, by omega⟩
                      case measure => simp [intOf]; omega
                    case neg =>
                      by_cases t5 : n5 ≤ 1048576
                      case neg => go_wp2_with fail; go_ret; exact ⟨⟨_, rfl⟩, rfl⟩
                      by_cases v5 : z4 + n5 ≤ 1048576
                      case neg => go_wp2_with fail; go_ret; exact ⟨⟨_, rfl⟩, rfl⟩
                      go_wp2_with fail
                      go_loop [19, 26] (fun t i => ∃ (k : Nat) (z : Nat), k ≤ n5 ∧ i = .int .i64 k ∧ t = .int .i64 z ∧ z ≤ 1048576) (fun _ i => n5 - (intOf i).toNat)
                      case atStart => exact ⟨0, z4 + n5, Nat.zero_le _, rfl, by go_num, by omega⟩
                      case round =>
                        obtain ⟨k, z5, hk, rfl, rfl, hz5⟩ := hrel
                        by_cases hlt : k < n5
                        case pos =>
                          obtain ⟨b, off, rfl, hb, hc⟩ := H5.out.at hlt
                          obtain ⟨a, m, c, g, hs⟩ := hc k hlt
                          have HS : Hid (SRow w a m (s5.getD k [])) := hs
                          clear hc hs
                          by_cases y1 : m ≤ 1048576
                          case neg => go_wp2_with fail; go_ret; exact ⟨⟨_, rfl⟩, rfl⟩
                          by_cases y2 : z5 + m ≤ 1048576
                          case neg => go_wp2_with fail; go_ret; exact ⟨⟨_, rfl⟩, rfl⟩
                          go_wp2_with fail
                          go_loop [19, 27] (fun t i => ∃ (k : Nat) (z : Nat), k ≤ m ∧ i = .int .i64 k ∧ t = .int .i64 z ∧ z ≤ 1048576) (fun _ i => m - (intOf i).toNat)
                          case atStart => exact ⟨0, z5 + m, Nat.zero_le _, rfl, by go_num, by omega⟩
                          case round =>
                            obtain ⟨j, z, hj, rfl, rfl, hz⟩ := hrel
                            by_cases hjl : j < m
                            case pos =>
                              obtain ⟨b', off', rfl, hb', hc'⟩ := HS.out.at hjl
                              have g' := hc' j hjl
                              generalize (s5.getD k []).getD j ByteArray.empty = x at *
                              clear hc'
                              by_cases y1 : x.size ≤ 1048576
                              case neg => go_wp2_with fail; go_ret; exact ⟨⟨_, rfl⟩, rfl⟩
                              by_cases y2 : z + x.size ≤ 1048576
                              case neg => go_wp2_with fail; go_ret; exact ⟨⟨_, rfl⟩, rfl⟩
                              go_wp2_with fail
                              go_round
                              case rel => exact ⟨j + 1, z + x.size, by omega, by go_num, by go_num, by omega⟩
                              case measure => simp [intOf]; omega
                            case neg =>
                              go_wp2_with fail
                              go_round
                              case rel => exact ⟨k + 1, z, by omega, by go_num, rfl, by omega⟩
                              case measure => simp [intOf]; omega
                        case neg =>
                          by_cases t6 : n6 ≤ 1048576
                          case neg => go_wp2_with fail; go_ret; exact ⟨⟨_, rfl⟩, rfl⟩
                          by_cases v6 : z5 + n6 ≤ 1048576
                          case neg => go_wp2_with fail; go_ret; exact ⟨⟨_, rfl⟩, rfl⟩
                          go_wp2_with fail
                          go_loop [19, 28] (fun t i => ∃ (k : Nat) (z : Nat), k ≤ n6 ∧ i = .int .i64 k ∧ t = .int .i64 z ∧ z ≤ 1048576) (fun _ i => n6 - (intOf i).toNat)
                          case atStart => exact ⟨0, z5 + n6, Nat.zero_le _, rfl, by go_num, by omega⟩
                          case round =>
                            obtain ⟨k, z6, hk, rfl, rfl, hz6⟩ := hrel
                            by_cases hlt : k < n6
                            case pos =>
                              obtain ⟨b, off, rfl, hb, hc⟩ := H6.out.at hlt
                              have g := hc k hlt
                              generalize s6.getD k ByteArray.empty = x at *
                              clear hc
                              by_cases y1 : x.size ≤ 1048576
                              case neg => go_wp2_with fail; go_ret; exact ⟨⟨_, rfl⟩, rfl⟩
                              by_cases y2 : z6 + x.size ≤ 1048576
                              case neg => go_wp2_with fail; go_ret; exact ⟨⟨_, rfl⟩, rfl⟩
                              go_wp2_with fail
                              go_round
                              case rel => exact ⟨k + 1, z6 + x.size, by omega, by go_num, by go_num, by omega⟩
                              case measure => simp [intOf]; omega
                            case neg =>
                              by_cases t7 : n7 ≤ 1048576
                              case neg => go_wp2_with fail; go_ret; exact ⟨⟨_, rfl⟩, rfl⟩
                              by_cases v7 : z6 + n7 ≤ 1048576
                              case neg => go_wp2_with fail; go_ret; exact ⟨⟨_, rfl⟩, rfl⟩
                              go_wp2_with fail
                              go_loop [19, 29] (fun t i => ∃ (k : Nat) (z : Nat), k ≤ n7 ∧ i = .int .i64 k ∧ t = .int .i64 z ∧ z ≤ 1048576) (fun _ i => n7 - (intOf i).toNat)
                              case atStart => exact ⟨0, z6 + n7, Nat.zero_le _, rfl, by go_num, by omega⟩
                              case round =>
                                obtain ⟨k, z7, hk, rfl, rfl, hz7⟩ := hrel
                                by_cases hlt : k < n7
                                case pos =>
                                  obtain ⟨b, off, rfl, hb, hc⟩ := H7.out.at hlt
                                  have g := hc k hlt
                                  generalize s7.getD k ByteArray.empty = x at *
                                  clear hc
                                  by_cases y1 : x.size ≤ 1048576
                                  case neg => go_wp2_with fail; go_ret; exact ⟨⟨_, rfl⟩, rfl⟩
                                  by_cases y2 : z7 + x.size ≤ 1048576
                                  case neg => go_wp2_with fail; go_ret; exact ⟨⟨_, rfl⟩, rfl⟩
                                  go_wp2_with fail
                                  go_round
                                  case rel => exact ⟨k + 1, z7 + x.size, by omega, by go_num, by go_num, by omega⟩
                                  case measure => simp [intOf]; omega
                                case neg =>
                                  by_cases t8 : n8 ≤ 1048576
                                  case neg => go_wp2_with fail; go_ret; exact ⟨⟨_, rfl⟩, rfl⟩
                                  by_cases v8 : z7 + n8 ≤ 1048576
                                  case neg => go_wp2_with fail; go_ret; exact ⟨⟨_, rfl⟩, rfl⟩
                                  go_wp2_with fail
                                  go_loop [19, 30] (fun t i => ∃ (k : Nat) (z : Nat), k ≤ n8 ∧ i = .int .i64 k ∧ t = .int .i64 z ∧ z ≤ 1048576) (fun _ i => n8 - (intOf i).toNat)
                                  case atStart => exact ⟨0, z7 + n8, Nat.zero_le _, rfl, by go_num, by omega⟩
                                  case round =>
                                    obtain ⟨k, z8, hk, rfl, rfl, hz8⟩ := hrel
                                    by_cases hlt : k < n8
                                    case pos =>
                                      obtain ⟨b, off, rfl, hb, hc⟩ := H8.out.at hlt
                                      obtain ⟨a, m, c, g, hs⟩ := hc k hlt
                                      have HS : Hid (SRow w a m (s8.getD k [])) := hs
                                      clear hc hs
                                      by_cases y1 : m ≤ 1048576
                                      case neg => go_wp2_with fail; go_ret; exact ⟨⟨_, rfl⟩, rfl⟩
                                      by_cases y2 : z8 + m ≤ 1048576
                                      case neg => go_wp2_with fail; go_ret; exact ⟨⟨_, rfl⟩, rfl⟩
                                      go_wp2_with fail
                                      go_loop [19, 31] (fun t i => ∃ (k : Nat) (z : Nat), k ≤ m ∧ i = .int .i64 k ∧ t = .int .i64 z ∧ z ≤ 1048576) (fun _ i => m - (intOf i).toNat)
                                      case atStart => exact ⟨0, z8 + m, Nat.zero_le _, rfl, by go_num, by omega⟩
                                      case round =>
                                        obtain ⟨j, z, hj, rfl, rfl, hz⟩ := hrel
                                        by_cases hjl : j < m
                                        case pos =>
                                          obtain ⟨b', off', rfl, hb', hc'⟩ := HS.out.at hjl
                                          have g' := hc' j hjl
                                          generalize (s8.getD k []).getD j ByteArray.empty = x at *
                                          clear hc'
                                          by_cases y1 : x.size ≤ 1048576
                                          case neg => go_wp2_with fail; go_ret; exact ⟨⟨_, rfl⟩, rfl⟩
                                          by_cases y2 : z + x.size ≤ 1048576
                                          case neg => go_wp2_with fail; go_ret; exact ⟨⟨_, rfl⟩, rfl⟩
                                          go_wp2_with fail
                                          go_round
                                          case rel => exact ⟨j + 1, z + x.size, by omega, by go_num, by go_num, by omega⟩
                                          case measure => simp [intOf]; omega
                                        case neg =>
                                          go_wp2_with fail
                                          go_round
                                          case rel => exact ⟨k + 1, z, by omega, by go_num, rfl, by omega⟩
                                          case measure => simp [intOf]; omega
                                    case neg =>
                                      go_wp2_with fail
                                      go_ret
                                      exact ⟨⟨_, rfl⟩, rfl⟩

end Go.Proofs.Qxb6001426a
