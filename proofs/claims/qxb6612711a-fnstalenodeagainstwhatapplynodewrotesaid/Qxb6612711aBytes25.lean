import Derived.Test.Qxb6612711aRead
namespace Go.Proofs.Qxb6612711a
open Go.RowKit

set_option maxRecDepth 100000 in
set_option maxHeartbeats 4000000 in
theorem bytes25_any (a0 : Option Addr) (n0 c0 : Nat) (z0 : List ByteArray) (a1 : Option Addr) (n1 c1 : Nat) (z1 : List ByteArray) (a2 : Option Addr) (n2 c2 : Nat) (z2 : List Int) (a3 : Bool) (a4 : Option Addr) (n4 c4 : Nat) (z4 : List ByteArray) (a5 : Option Addr) (n5 c5 : Nat) (z5 : List ByteArray) (a6 : Option Addr) (n6 c6 : Nat) (z6 : List ByteArray) (a7 : Option Addr) (n7 c7 : Nat) (z7 : List ByteArray) (a8 : Option Addr) (n8 c8 : Nat) (z8 : List ByteArray) (a9 : Option Addr) (n9 c9 : Nat) (z9 : List ByteArray) (a10 : Option Addr) (n10 c10 : Nat) (z10 : List Int) (a11 : Option Addr) (n11 c11 : Nat) (z11 : List ByteArray) (w : World) (h0 : IsStrs w a0 n0 c0 z0) (h1 : IsStrs w a1 n1 c1 z1) (h2 : IsInts .i64 w a2 n2 c2 z2) (h4 : IsStrs w a4 n4 c4 z4) (h5 : IsStrs w a5 n5 c5 z5) (h6 : IsStrs w a6 n6 c6 z6) (h7 : IsStrs w a7 n7 c7 z7) (h8 : IsStrs w a8 n8 c8 z8) (h9 : IsStrs w a9 n9 c9 z9) (h10 : IsInts .i64 w a10 n10 c10 z10) (h11 : IsStrs w a11 n11 c11 z11) :
    Calls Try.prog 25 #[.slice a0 n0 c0, .slice a1 n1 c1, .slice a2 n2 c2, .bool a3, .slice a4 n4 c4, .slice a5 n5 c5, .slice a6 n6 c6, .slice a7 n7 c7, .slice a8 n8 c8, .slice a9 n9 c9, .slice a10 n10 c10, .slice a11 n11 c11] w fun e w' => RetBool e ∧ w' = w := by
  have m0 := h0.len_le
  have m1 := h1.len_le
  have m2 := h2.len_le
  have m4 := h4.len_le
  have m5 := h5.len_le
  have m6 := h6.len_le
  have m7 := h7.len_le
  have m8 := h8.len_le
  have m9 := h9.len_le
  have m10 := h10.len_le
  have m11 := h11.len_le
  go_enter Try.func25, Try.ntmps25
  go_wp2
  any_goals (go_ret; exact ⟨⟨_, rfl⟩, rfl⟩)
  go_loop [25, 26] (fun t i => ∃ (k : Nat) (x : Int), k ≤ n0 ∧ 0 ≤ x ∧ x ≤ 1048576 ∧ i = .int .i64 k ∧ t = .int .i64 x) (fun _ i => n0 - (intOf i).toNat)
  case atStart => exact ⟨0, _, Nat.zero_le _, by omega, by omega, rfl, rfl⟩
  case round =>
    obtain ⟨k0, x0, hk0, hx0, hy0, rfl, rfl⟩ := hrel
    by_cases hlt0 : k0 < n0
    · obtain ⟨b, off, rfl, hcell⟩ := h0.at hlt0
      have hsz := nth_size h0.sizes k0
      unfold maxLen at hsz
      generalize nth z0 k0 = s at hcell hsz
      go_wp2
      · go_ret; exact ⟨⟨_, rfl⟩, rfl⟩
      · go_ret; exact ⟨⟨_, rfl⟩, rfl⟩
      · go_round
        case rel => exact ⟨k0 + 1, x0 + s.size, by omega, by omega, by omega, by go_num, rfl⟩
        case measure => simp [intOf]; omega
    · skip
      go_wp2
      any_goals (go_ret; exact ⟨⟨_, rfl⟩, rfl⟩)
      go_loop [25, 27] (fun t i => ∃ (k : Nat) (x : Int), k ≤ n1 ∧ 0 ≤ x ∧ x ≤ 1048576 ∧ i = .int .i64 k ∧ t = .int .i64 x) (fun _ i => n1 - (intOf i).toNat)
      case atStart => exact ⟨0, _, Nat.zero_le _, by omega, by omega, rfl, rfl⟩
      case round =>
        obtain ⟨k1, x1, hk1, hx1, hy1, rfl, rfl⟩ := hrel
        by_cases hlt1 : k1 < n1
        · obtain ⟨b, off, rfl, hcell⟩ := h1.at hlt1
          have hsz := nth_size h1.sizes k1
          unfold maxLen at hsz
          generalize nth z1 k1 = s at hcell hsz
          go_wp2
          · go_ret; exact ⟨⟨_, rfl⟩, rfl⟩
          · go_ret; exact ⟨⟨_, rfl⟩, rfl⟩
          · go_round
            case rel => exact ⟨k1 + 1, x1 + s.size, by omega, by omega, by omega, by go_num, rfl⟩
            case measure => simp [intOf]; omega
        · skip
          go_wp2
          any_goals (go_ret; exact ⟨⟨_, rfl⟩, rfl⟩)
          go_loop [25, 28] (fun t i => ∃ (k : Nat) (x : Int), k ≤ n4 ∧ 0 ≤ x ∧ x ≤ 1048576 ∧ i = .int .i64 k ∧ t = .int .i64 x) (fun _ i => n4 - (intOf i).toNat)
          case atStart => exact ⟨0, _, Nat.zero_le _, by omega, by omega, rfl, rfl⟩
          case round =>
            obtain ⟨k4, x4, hk4, hx4, hy4, rfl, rfl⟩ := hrel
            by_cases hlt4 : k4 < n4
            · obtain ⟨b, off, rfl, hcell⟩ := h4.at hlt4
              have hsz := nth_size h4.sizes k4
              unfold maxLen at hsz
              generalize nth z4 k4 = s at hcell hsz
              go_wp2
              · go_ret; exact ⟨⟨_, rfl⟩, rfl⟩
              · go_ret; exact ⟨⟨_, rfl⟩, rfl⟩
              · go_round
                case rel => exact ⟨k4 + 1, x4 + s.size, by omega, by omega, by omega, by go_num, rfl⟩
                case measure => simp [intOf]; omega
            · skip
              go_wp2
              any_goals (go_ret; exact ⟨⟨_, rfl⟩, rfl⟩)
              go_loop [25, 29] (fun t i => ∃ (k : Nat) (x : Int), k ≤ n5 ∧ 0 ≤ x ∧ x ≤ 1048576 ∧ i = .int .i64 k ∧ t = .int .i64 x) (fun _ i => n5 - (intOf i).toNat)
              case atStart => exact ⟨0, _, Nat.zero_le _, by omega, by omega, rfl, rfl⟩
              case round =>
                obtain ⟨k5, x5, hk5, hx5, hy5, rfl, rfl⟩ := hrel
                by_cases hlt5 : k5 < n5
                · obtain ⟨b, off, rfl, hcell⟩ := h5.at hlt5
                  have hsz := nth_size h5.sizes k5
                  unfold maxLen at hsz
                  generalize nth z5 k5 = s at hcell hsz
                  go_wp2
                  · go_ret; exact ⟨⟨_, rfl⟩, rfl⟩
                  · go_ret; exact ⟨⟨_, rfl⟩, rfl⟩
                  · go_round
                    case rel => exact ⟨k5 + 1, x5 + s.size, by omega, by omega, by omega, by go_num, rfl⟩
                    case measure => simp [intOf]; omega
                · skip
                  go_wp2
                  any_goals (go_ret; exact ⟨⟨_, rfl⟩, rfl⟩)
                  go_loop [25, 30] (fun t i => ∃ (k : Nat) (x : Int), k ≤ n6 ∧ 0 ≤ x ∧ x ≤ 1048576 ∧ i = .int .i64 k ∧ t = .int .i64 x) (fun _ i => n6 - (intOf i).toNat)
                  case atStart => exact ⟨0, _, Nat.zero_le _, by omega, by omega, rfl, rfl⟩
                  case round =>
                    obtain ⟨k6, x6, hk6, hx6, hy6, rfl, rfl⟩ := hrel
                    by_cases hlt6 : k6 < n6
                    · obtain ⟨b, off, rfl, hcell⟩ := h6.at hlt6
                      have hsz := nth_size h6.sizes k6
                      unfold maxLen at hsz
                      generalize nth z6 k6 = s at hcell hsz
                      go_wp2
                      · go_ret; exact ⟨⟨_, rfl⟩, rfl⟩
                      · go_ret; exact ⟨⟨_, rfl⟩, rfl⟩
                      · go_round
                        case rel => exact ⟨k6 + 1, x6 + s.size, by omega, by omega, by omega, by go_num, rfl⟩
                        case measure => simp [intOf]; omega
                    · skip
                      go_wp2
                      any_goals (go_ret; exact ⟨⟨_, rfl⟩, rfl⟩)
                      go_loop [25, 31] (fun t i => ∃ (k : Nat) (x : Int), k ≤ n7 ∧ 0 ≤ x ∧ x ≤ 1048576 ∧ i = .int .i64 k ∧ t = .int .i64 x) (fun _ i => n7 - (intOf i).toNat)
                      case atStart => exact ⟨0, _, Nat.zero_le _, by omega, by omega, rfl, rfl⟩
                      case round =>
                        obtain ⟨k7, x7, hk7, hx7, hy7, rfl, rfl⟩ := hrel
                        by_cases hlt7 : k7 < n7
                        · obtain ⟨b, off, rfl, hcell⟩ := h7.at hlt7
                          have hsz := nth_size h7.sizes k7
                          unfold maxLen at hsz
                          generalize nth z7 k7 = s at hcell hsz
                          go_wp2
                          · go_ret; exact ⟨⟨_, rfl⟩, rfl⟩
                          · go_ret; exact ⟨⟨_, rfl⟩, rfl⟩
                          · go_round
                            case rel => exact ⟨k7 + 1, x7 + s.size, by omega, by omega, by omega, by go_num, rfl⟩
                            case measure => simp [intOf]; omega
                        · skip
                          go_wp2
                          any_goals (go_ret; exact ⟨⟨_, rfl⟩, rfl⟩)
                          go_loop [25, 32] (fun t i => ∃ (k : Nat) (x : Int), k ≤ n8 ∧ 0 ≤ x ∧ x ≤ 1048576 ∧ i = .int .i64 k ∧ t = .int .i64 x) (fun _ i => n8 - (intOf i).toNat)
                          case atStart => exact ⟨0, _, Nat.zero_le _, by omega, by omega, rfl, rfl⟩
                          case round =>
                            obtain ⟨k8, x8, hk8, hx8, hy8, rfl, rfl⟩ := hrel
                            by_cases hlt8 : k8 < n8
                            · obtain ⟨b, off, rfl, hcell⟩ := h8.at hlt8
                              have hsz := nth_size h8.sizes k8
                              unfold maxLen at hsz
                              generalize nth z8 k8 = s at hcell hsz
                              go_wp2
                              · go_ret; exact ⟨⟨_, rfl⟩, rfl⟩
                              · go_ret; exact ⟨⟨_, rfl⟩, rfl⟩
                              · go_round
                                case rel => exact ⟨k8 + 1, x8 + s.size, by omega, by omega, by omega, by go_num, rfl⟩
                                case measure => simp [intOf]; omega
                            · skip
                              go_wp2
                              any_goals (go_ret; exact ⟨⟨_, rfl⟩, rfl⟩)
                              go_loop [25, 33] (fun t i => ∃ (k : Nat) (x : Int), k ≤ n9 ∧ 0 ≤ x ∧ x ≤ 1048576 ∧ i = .int .i64 k ∧ t = .int .i64 x) (fun _ i => n9 - (intOf i).toNat)
                              case atStart => exact ⟨0, _, Nat.zero_le _, by omega, by omega, rfl, rfl⟩
                              case round =>
                                obtain ⟨k9, x9, hk9, hx9, hy9, rfl, rfl⟩ := hrel
                                by_cases hlt9 : k9 < n9
                                · obtain ⟨b, off, rfl, hcell⟩ := h9.at hlt9
                                  have hsz := nth_size h9.sizes k9
                                  unfold maxLen at hsz
                                  generalize nth z9 k9 = s at hcell hsz
                                  go_wp2
                                  · go_ret; exact ⟨⟨_, rfl⟩, rfl⟩
                                  · go_ret; exact ⟨⟨_, rfl⟩, rfl⟩
                                  · go_round
                                    case rel => exact ⟨k9 + 1, x9 + s.size, by omega, by omega, by omega, by go_num, rfl⟩
                                    case measure => simp [intOf]; omega
                                · skip
                                  go_wp2
                                  any_goals (go_ret; exact ⟨⟨_, rfl⟩, rfl⟩)
                                  go_loop [25, 34] (fun t i => ∃ (k : Nat) (x : Int), k ≤ n11 ∧ 0 ≤ x ∧ x ≤ 1048576 ∧ i = .int .i64 k ∧ t = .int .i64 x) (fun _ i => n11 - (intOf i).toNat)
                                  case atStart => exact ⟨0, _, Nat.zero_le _, by omega, by omega, rfl, rfl⟩
                                  case round =>
                                    obtain ⟨k11, x11, hk11, hx11, hy11, rfl, rfl⟩ := hrel
                                    by_cases hlt11 : k11 < n11
                                    · obtain ⟨b, off, rfl, hcell⟩ := h11.at hlt11
                                      have hsz := nth_size h11.sizes k11
                                      unfold maxLen at hsz
                                      generalize nth z11 k11 = s at hcell hsz
                                      go_wp2
                                      · go_ret; exact ⟨⟨_, rfl⟩, rfl⟩
                                      · go_ret; exact ⟨⟨_, rfl⟩, rfl⟩
                                      · go_round
                                        case rel => exact ⟨k11 + 1, x11 + s.size, by omega, by omega, by omega, by go_num, rfl⟩
                                        case measure => simp [intOf]; omega
                                    · skip
                                      go_wp2
                                      all_goals (go_ret; exact ⟨⟨_, rfl⟩, rfl⟩)

end Go.Proofs.Qxb6612711a
