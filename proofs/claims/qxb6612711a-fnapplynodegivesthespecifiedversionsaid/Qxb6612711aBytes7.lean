import Derived.Test.Qxb6612711aRead
namespace Go.Proofs.Qxb6612711a
open Go.RowKit

set_option maxRecDepth 100000 in
set_option maxHeartbeats 4000000 in
theorem bytes7_any (a0 : Int) (a1 : Option Addr) (n1 c1 : Nat) (z1 : List ByteArray) (a2 : Option Addr) (n2 c2 : Nat) (z2 : List ByteArray) (a3 : Option Addr) (n3 c3 : Nat) (z3 : List Int) (a4 : Bool) (a5 : Option Addr) (n5 c5 : Nat) (z5 : List ByteArray) (a6 : Option Addr) (n6 c6 : Nat) (z6 : List Int) (a7 : Option Addr) (n7 c7 : Nat) (z7 : List ByteArray) (a8 : Option Addr) (n8 c8 : Nat) (z8 : List ByteArray) (a9 : Option Addr) (n9 c9 : Nat) (z9 : List ByteArray) (w : World) (h1 : IsStrs w a1 n1 c1 z1) (h2 : IsStrs w a2 n2 c2 z2) (h3 : IsInts .i64 w a3 n3 c3 z3) (h5 : IsStrs w a5 n5 c5 z5) (h6 : IsInts .i64 w a6 n6 c6 z6) (h7 : IsStrs w a7 n7 c7 z7) (h8 : IsStrs w a8 n8 c8 z8) (h9 : IsStrs w a9 n9 c9 z9) :
    Calls Try.prog 7 #[.int .i64 a0, .slice a1 n1 c1, .slice a2 n2 c2, .slice a3 n3 c3, .bool a4, .slice a5 n5 c5, .slice a6 n6 c6, .slice a7 n7 c7, .slice a8 n8 c8, .slice a9 n9 c9] w fun e w' => RetBool e ∧ w' = w := by
  have m1 := h1.len_le
  have m2 := h2.len_le
  have m3 := h3.len_le
  have m5 := h5.len_le
  have m6 := h6.len_le
  have m7 := h7.len_le
  have m8 := h8.len_le
  have m9 := h9.len_le
  go_enter Try.func7, Try.ntmps7
  go_wp2
  any_goals (go_ret; exact ⟨⟨_, rfl⟩, rfl⟩)
  go_loop [21, 22] (fun t i => ∃ (k : Nat) (x : Int), k ≤ n1 ∧ 0 ≤ x ∧ x ≤ 1048576 ∧ i = .int .i64 k ∧ t = .int .i64 x) (fun _ i => n1 - (intOf i).toNat)
  case atStart => exact ⟨0, _, Nat.zero_le _, by omega, by omega, rfl, rfl⟩
  case round =>
    obtain ⟨k1, x1, hk1, hx1, hy1, rfl, rfl⟩ := hrel
    by_cases hlt1 : k1 < n1
    · obtain ⟨b, off, rfl, hcell⟩ := h1.at hlt1
      have hsz := nth_size h1.sizes k1
      unfold maxLen at hsz
      generalize nth z1 k1 = s at hcell hsz
      go_wp2
      · go_ret; exact ⟨⟨_, rfl⟩, rfl⟩
      · go_ret; exact ⟨⟨_, rfl⟩, rfl⟩
      · go_round
        case rel => exact ⟨k1 + 1, x1 + s.size, by omega, by omega, by omega, by go_num, rfl⟩
        case measure => simp [intOf]; omega
    · skip
      go_wp2
      any_goals (go_ret; exact ⟨⟨_, rfl⟩, rfl⟩)
      go_loop [21, 23] (fun t i => ∃ (k : Nat) (x : Int), k ≤ n2 ∧ 0 ≤ x ∧ x ≤ 1048576 ∧ i = .int .i64 k ∧ t = .int .i64 x) (fun _ i => n2 - (intOf i).toNat)
      case atStart => exact ⟨0, _, Nat.zero_le _, by omega, by omega, rfl, rfl⟩
      case round =>
        obtain ⟨k2, x2, hk2, hx2, hy2, rfl, rfl⟩ := hrel
        by_cases hlt2 : k2 < n2
        · obtain ⟨b, off, rfl, hcell⟩ := h2.at hlt2
          have hsz := nth_size h2.sizes k2
          unfold maxLen at hsz
          generalize nth z2 k2 = s at hcell hsz
          go_wp2
          · go_ret; exact ⟨⟨_, rfl⟩, rfl⟩
          · go_ret; exact ⟨⟨_, rfl⟩, rfl⟩
          · go_round
            case rel => exact ⟨k2 + 1, x2 + s.size, by omega, by omega, by omega, by go_num, rfl⟩
            case measure => simp [intOf]; omega
        · skip
          go_wp2
          any_goals (go_ret; exact ⟨⟨_, rfl⟩, rfl⟩)
          go_loop [21, 24] (fun t i => ∃ (k : Nat) (x : Int), k ≤ n5 ∧ 0 ≤ x ∧ x ≤ 1048576 ∧ i = .int .i64 k ∧ t = .int .i64 x) (fun _ i => n5 - (intOf i).toNat)
          case atStart => exact ⟨0, _, Nat.zero_le _, by omega, by omega, rfl, rfl⟩
          case round =>
            obtain ⟨k5, x5, hk5, hx5, hy5, rfl, rfl⟩ := hrel
            by_cases hlt5 : k5 < n5
            · obtain ⟨b, off, rfl, hcell⟩ := h5.at hlt5
              have hsz := nth_size h5.sizes k5
              unfold maxLen at hsz
              generalize nth z5 k5 = s at hcell hsz
              go_wp2
              · go_ret; exact ⟨⟨_, rfl⟩, rfl⟩
              · go_ret; exact ⟨⟨_, rfl⟩, rfl⟩
              · go_round
                case rel => exact ⟨k5 + 1, x5 + s.size, by omega, by omega, by omega, by go_num, rfl⟩
                case measure => simp [intOf]; omega
            · skip
              go_wp2
              any_goals (go_ret; exact ⟨⟨_, rfl⟩, rfl⟩)
              go_loop [21, 25] (fun t i => ∃ (k : Nat) (x : Int), k ≤ n7 ∧ 0 ≤ x ∧ x ≤ 1048576 ∧ i = .int .i64 k ∧ t = .int .i64 x) (fun _ i => n7 - (intOf i).toNat)
              case atStart => exact ⟨0, _, Nat.zero_le _, by omega, by omega, rfl, rfl⟩
              case round =>
                obtain ⟨k7, x7, hk7, hx7, hy7, rfl, rfl⟩ := hrel
                by_cases hlt7 : k7 < n7
                · obtain ⟨b, off, rfl, hcell⟩ := h7.at hlt7
                  have hsz := nth_size h7.sizes k7
                  unfold maxLen at hsz
                  generalize nth z7 k7 = s at hcell hsz
                  go_wp2
                  · go_ret; exact ⟨⟨_, rfl⟩, rfl⟩
                  · go_ret; exact ⟨⟨_, rfl⟩, rfl⟩
                  · go_round
                    case rel => exact ⟨k7 + 1, x7 + s.size, by omega, by omega, by omega, by go_num, rfl⟩
                    case measure => simp [intOf]; omega
                · skip
                  go_wp2
                  any_goals (go_ret; exact ⟨⟨_, rfl⟩, rfl⟩)
                  go_loop [21, 26] (fun t i => ∃ (k : Nat) (x : Int), k ≤ n8 ∧ 0 ≤ x ∧ x ≤ 1048576 ∧ i = .int .i64 k ∧ t = .int .i64 x) (fun _ i => n8 - (intOf i).toNat)
                  case atStart => exact ⟨0, _, Nat.zero_le _, by omega, by omega, rfl, rfl⟩
                  case round =>
                    obtain ⟨k8, x8, hk8, hx8, hy8, rfl, rfl⟩ := hrel
                    by_cases hlt8 : k8 < n8
                    · obtain ⟨b, off, rfl, hcell⟩ := h8.at hlt8
                      have hsz := nth_size h8.sizes k8
                      unfold maxLen at hsz
                      generalize nth z8 k8 = s at hcell hsz
                      go_wp2
                      · go_ret; exact ⟨⟨_, rfl⟩, rfl⟩
                      · go_ret; exact ⟨⟨_, rfl⟩, rfl⟩
                      · go_round
                        case rel => exact ⟨k8 + 1, x8 + s.size, by omega, by omega, by omega, by go_num, rfl⟩
                        case measure => simp [intOf]; omega
                    · skip
                      go_wp2
                      any_goals (go_ret; exact ⟨⟨_, rfl⟩, rfl⟩)
                      go_loop [21, 27] (fun t i => ∃ (k : Nat) (x : Int), k ≤ n9 ∧ 0 ≤ x ∧ x ≤ 1048576 ∧ i = .int .i64 k ∧ t = .int .i64 x) (fun _ i => n9 - (intOf i).toNat)
                      case atStart => exact ⟨0, _, Nat.zero_le _, by omega, by omega, rfl, rfl⟩
                      case round =>
                        obtain ⟨k9, x9, hk9, hx9, hy9, rfl, rfl⟩ := hrel
                        by_cases hlt9 : k9 < n9
                        · obtain ⟨b, off, rfl, hcell⟩ := h9.at hlt9
                          have hsz := nth_size h9.sizes k9
                          unfold maxLen at hsz
                          generalize nth z9 k9 = s at hcell hsz
                          go_wp2
                          · go_ret; exact ⟨⟨_, rfl⟩, rfl⟩
                          · go_ret; exact ⟨⟨_, rfl⟩, rfl⟩
                          · go_round
                            case rel => exact ⟨k9 + 1, x9 + s.size, by omega, by omega, by omega, by go_num, rfl⟩
                            case measure => simp [intOf]; omega
                        · skip
                          go_wp2
                          all_goals (go_ret; exact ⟨⟨_, rfl⟩, rfl⟩)

end Go.Proofs.Qxb6612711a
