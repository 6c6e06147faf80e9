import Derived.Test.Qxb6612711aKit
import Derived.WalkKit
import Derived.WalkSpells
namespace Go.Proofs.Qxb6612711a
open Go.RowKit

/-- it returns a bool -/
def RetBool (e : Ending) : Prop := ∃ b, e = .returned (.bool b)

theorem ret_bool {a b : Bool} (h : a = b) : Ending.returned (.bool a) = .returned (.bool b) := by rw [h]
theorem ret_int {k : IntKind} {a b : Int} (h : a = b) : Ending.returned (.int k a) = .returned (.int k b) := by rw [h]
theorem ret_str {a b : ByteArray} (h : a = b) : Ending.returned (.string a) = .returned (.string b) := by rw [h]

/-- a cell of a slice of strings, and its string by a name of its own -/
theorem IsStrs.at {w : World} {a : Option Addr} {n c : Nat} {ss : List ByteArray} (h : IsStrs w a n c ss) {k : Nat} (hk : k < n) :
    ∃ b off, a = some ⟨b, off, none⟩ ∧ w.cell? ⟨b, off + k, none⟩ = some (.string (nth ss k)) := by
  obtain ⟨b, off, ha, hc⟩ := h.cells (by omega)
  exact ⟨b, off, ha, hc k hk⟩
theorem IsInts.at {q : IntKind} {w : World} {a : Option Addr} {n c : Nat} {zs : List Int} (h : IsInts q w a n c zs) {k : Nat} (hk : k < n) :
    ∃ b off, a = some ⟨b, off, none⟩ ∧ w.cell? ⟨b, off + k, none⟩ = some (.int q (zs.getD k 0)) := by
  obtain ⟨b, off, ha, hc⟩ := h.cells (by omega)
  exact ⟨b, off, ha, hc k hk⟩
theorem IsStrs.len_le {w : World} {a : Option Addr} {n c : Nat} {ss : List ByteArray} (h : IsStrs w a n c ss) : n ≤ 9223372036854775807 := by
  have := Nat.le_trans h.le h.fits
  unfold maxLen at this
  omega
theorem IsInts.len_le {q : IntKind} {w : World} {a : Option Addr} {n c : Nat} {zs : List Int} (h : IsInts q w a n c zs) : n ≤ 9223372036854775807 := by
  have := Nat.le_trans h.le h.fits
  unfold maxLen at this
  omega

set_option maxHeartbeats 400000 in
theorem member_any (a : Option Addr) (n c : Nat) (ss : List ByteArray) (x : ByteArray) (w : World) (h : IsStrs w a n c ss) :
    Calls Try.prog 16 #[.slice a n c, .string x] w fun e w' => e = .returned (.bool (memB ss x)) ∧ w' = w := by
  have hm := h.len_le
  have hl := h.length
  go_enter Try.func16, Try.ntmps16
  go_wp2
  go_loop [5] (fun i => ∃ k : Nat, k ≤ n ∧ i = .int .i64 k ∧ memB (ss.take k) x = false) (fun i => n - (intOf i).toNat)
  case atStart => exact ⟨0, Nat.zero_le _, rfl, by simp [memB]⟩
  case round =>
    obtain ⟨k, hk, rfl, hmm⟩ := hrel
    by_cases hlt : k < n
    · obtain ⟨b, off, rfl, hcell⟩ := h.at hlt
      go_wp2
      · go_ret; exact ⟨ret_bool (memB_hit (k := k) (by omega) (by assumption)).symm, rfl⟩
      · go_round
        case rel => exact ⟨k + 1, by omega, by go_num, memB_miss (by omega) hmm (by assumption)⟩
        case measure => simp [intOf]; omega
    · go_wp2
      go_ret
      exact ⟨ret_bool (by rw [List.take_of_length_le (by omega)] at hmm; exact hmm.symm), rfl⟩

set_option maxHeartbeats 400000 in
theorem among_any (a : Option Addr) (n c : Nat) (ss : List ByteArray) (x : ByteArray) (w : World) (h : IsStrs w a n c ss) :
    Calls Try.prog 30 #[.slice a n c, .string x] w fun e w' => e = .returned (.bool (memB ss x)) ∧ w' = w := by
  have hm := h.len_le
  have hl := h.length
  go_enter Try.func30, Try.ntmps30
  go_wp2
  go_loop [9] (fun i => ∃ k : Nat, k ≤ n ∧ i = .int .i64 k ∧ memB (ss.take k) x = false) (fun i => n - (intOf i).toNat)
  case atStart => exact ⟨0, Nat.zero_le _, rfl, by simp [memB]⟩
  case round =>
    obtain ⟨k, hk, rfl, hmm⟩ := hrel
    by_cases hlt : k < n
    · obtain ⟨b, off, rfl, hcell⟩ := h.at hlt
      go_wp2
      · go_ret; exact ⟨ret_bool (memB_hit (k := k) (by omega) (by assumption)).symm, rfl⟩
      · go_round
        case rel => exact ⟨k + 1, by omega, by go_num, memB_miss (by omega) hmm (by assumption)⟩
        case measure => simp [intOf]; omega
    · go_wp2
      go_ret
      exact ⟨ret_bool (by rw [List.take_of_length_le (by omega)] at hmm; exact hmm.symm), rfl⟩

set_option maxHeartbeats 400000 in
theorem count_any (a : Option Addr) (n c : Nat) (ss : List ByteArray) (x : ByteArray) (w : World) (h : IsStrs w a n c ss) :
    Calls Try.prog 33 #[.slice a n c, .string x] w fun e w' => e = .returned (.int .i64 (cnt ss x)) ∧ w' = w := by
  have hm := h.len_le
  have hl := h.length
  go_enter Try.func33, Try.ntmps33
  go_wp2
  go_loop [5, 6] (fun t i => ∃ k : Nat, k ≤ n ∧ i = .int .i64 k ∧ t = .int .i64 (cnt (ss.take k) x)) (fun _ i => n - (intOf i).toNat)
  case atStart => exact ⟨0, Nat.zero_le _, rfl, by simp [cnt]⟩
  case round =>
    obtain ⟨k, hk, rfl, rfl⟩ := hrel
    by_cases hlt : k < n
    · obtain ⟨b, off, rfl, hcell⟩ := h.at hlt
      have hc1 := cnt_le (ss.take k) x
      rw [List.length_take] at hc1
      have HS := cnt_snoc (ss := ss) (x := x) (k := k) (by omega)
      have HS : Hid (cnt (ss.take (k + 1)) x = cnt (ss.take k) x + if ((nth ss k).toList == x.toList) = true then 1 else 0) := HS
      go_wp2
      · go_round
        case rel => exact ⟨k + 1, by omega, by go_num, by rw [HS.out, if_pos (by assumption)]; go_num⟩
        case measure => simp [intOf]; omega
      · go_round
        case rel => exact ⟨k + 1, by omega, by go_num, by rw [HS.out, if_neg (by simp [*])]; go_num⟩
        case measure => simp [intOf]; omega
    · go_wp2
      go_ret
      exact ⟨ret_int (by rw [List.take_of_length_le (by omega)]), rfl⟩

set_option maxHeartbeats 400000 in
theorem min_any (a b : Nat) (w : World) :
    Calls Try.prog 17 #[.int .i64 (a : Int), .int .i64 (b : Int)] w fun e w' => e = .returned (.int .i64 ((min a b : Nat) : Int)) ∧ w' = w := by
  by_cases h : (a : Int) < b
  · go_enter Try.func17, Try.ntmps17
    go_wp2
    go_ret
    exact ⟨ret_int (by omega), rfl⟩
  · go_enter Try.func17, Try.ntmps17
    go_wp2
    go_ret
    exact ⟨ret_int (by omega), rfl⟩

set_option maxHeartbeats 400000 in
theorem keyAt_any (a : Option Addr) (n c : Nat) (sa : List ByteArray) (a' : Option Addr) (n' c' : Nat) (sb : List ByteArray) (a'' : Option Addr) (n'' c'' : Nat) (sc : List ByteArray) (i : Nat) (w : World)
    (ha : IsStrs w a n c sa) (hb : IsStrs w a' n' c' sb) (hc : IsStrs w a'' n'' c'' sc) (hi : i < n + n' + n'') (hs : n + n' + n'' ≤ 1048576) :
    Calls Try.prog 18 #[.slice a n c, .slice a' n' c', .slice a'' n'' c'', .int .i64 i] w fun e w' => e = .returned (.string (nth (cat3 sa sb sc) i)) ∧ w' = w := by
  have l1 := ha.length
  have l2 := hb.length
  have l3 := hc.length
  by_cases h1 : i < n
  · obtain ⟨b, off, rfl, hcell⟩ := ha.at h1
    go_enter Try.func18, Try.ntmps18
    go_wp2
    go_ret
    exact ⟨ret_str (by simp [nth, cat3, List.getElem?_append, l1, h1]), rfl⟩
  · by_cases h2 : i - n < n'
    · obtain ⟨b, off, rfl, hcell⟩ := hb.at h2
      go_enter Try.func18, Try.ntmps18
      go_wp2
      go_ret
      exact ⟨ret_str (by simp [nth, cat3, List.getElem?_append, l1, l2, h1, h2]), rfl⟩
    · obtain ⟨b, off, rfl, hcell⟩ := hc.at (k := i - n - n') (by omega)
      go_enter Try.func18, Try.ntmps18
      go_wp2
      go_ret
      exact ⟨ret_str (by simp [nth, cat3, List.getElem?_append, l1, l2, h1, h2]), rfl⟩

end Go.Proofs.Qxb6612711a
