import Derived.Test.Qxb6612711aRead
import Derived.Deep.QuietTactic
import Derived.BigQuiet
namespace Go.Proofs.Qxb6612711a
open Go.RowKit

theorem Ext.drewN (w : World) (n : Nat) : Ext w (w.drewN n) := ⟨rfl, rfl, rfl, Nat.le_refl _, fun _ _ => rfl⟩
theorem ret_two {q : IntKind} {a a' : Int} {b b' : Bool} (h : a = a') (h' : b = b') : Ending.returned (.tuple #[.int q a, .bool b]) = .returned (.tuple #[.int q a', .bool b']) := by rw [h, h']

set_option maxHeartbeats 400000 in
theorem lastVal_any (a : Option Addr) (n c : Nat) (ks : List ByteArray) (a' : Option Addr) (n' c' : Nat) (vs : List Int) (k : ByteArray) (w : World) (h : IsStrs w a n c ks) (h' : IsInts .i64 w a' n' c' vs) :
    Calls Try.prog 20 #[.slice a n c, .slice a' n' c', .string k] w fun e w' => e = .returned (.tuple #[.int .i64 (valI (lv (prs ks vs) k)), .bool (hasB (lv (prs ks vs) k))]) ∧ w' = w := by
  have hm := h.len_le
  have hm' := h'.len_le
  have hl := h.length
  have hl' := h'.length
  have hp := prs_length ks vs
  go_enter Try.func20, Try.ntmps20
  go_wp2_with (go_at_call 17; refine (min_any _ _ _).mono ?_; rintro e w' ⟨rfl, rfl⟩)
  go_loop [9] (fun i => ∃ m : Nat, m ≤ min n n' ∧ i = .int .i64 ((m : Int) - 1) ∧ lv ((prs ks vs).take m) k = lv (prs ks vs) k) (fun i => (intOf i + 1).toNat)
  case atStart => exact ⟨min n n', Nat.le_refl _, by simp, by rw [List.take_of_length_le (by omega)]⟩
  case round =>
    obtain ⟨m, hk, rfl, hmm⟩ := hrel
    by_cases hlt : 0 < m
    · obtain ⟨j, rfl⟩ : ∃ j, m = j + 1 := ⟨m - 1, by omega⟩
      have HM : Hid (lv ((prs ks vs).take (j + 1)) k = lv (prs ks vs) k) := hmm
      clear hmm
      obtain ⟨b, off, rfl, hcell⟩ := h.at (k := j) (by omega)
      obtain ⟨b', off', rfl, hcell'⟩ := h'.at (k := j) (by omega)
      go_wp2
      · go_ret2
        have hh := lv_hit (k := k) (show j < ks.length by omega) (show j < vs.length by omega) HM.out (by assumption)
        exact ⟨ret_two (by rw [hh]; first | rfl | simp [valI]) (by rw [hh]; rfl), rfl⟩
      · go_round
        case rel => exact ⟨j, by omega, rfl, lv_miss (by omega) (by omega) HM.out (by assumption)⟩
        case measure => simp [intOf]
    · go_wp2
      go_ret2
      obtain rfl : m = 0 := by omega
      have hh : lv (prs ks vs) k = none := by rw [← hmm]; rfl
      exact ⟨ret_two (by rw [hh]; rfl) (by rw [hh]; rfl), rfl⟩

set_option maxHeartbeats 400000 in
theorem disjoint_any (a : Option Addr) (n c : Nat) (sa : List ByteArray) (a' : Option Addr) (n' c' : Nat) (sb : List ByteArray) (w : World) (h : IsStrs w a n c sa) (h' : IsStrs w a' n' c' sb) :
    Calls Try.prog 14 #[.slice a n c, .slice a' n' c'] w fun e w' => e = .returned (.bool (disB sa sb)) ∧ w' = w := by
  have hm := h.len_le
  have hl := h.length
  go_enter Try.func14, Try.ntmps14
  go_wp2
  go_loop [5] (fun i => ∃ k : Nat, k ≤ n ∧ i = .int .i64 k ∧ disB (sa.take k) sb = true) (fun i => n - (intOf i).toNat)
  case atStart => exact ⟨0, Nat.zero_le _, rfl, by simp [disB]⟩
  case round =>
    obtain ⟨k, hk, rfl, hmm⟩ := hrel
    by_cases hlt : k < n
    · obtain ⟨b, off, rfl, hcell⟩ := h.at hlt
      go_wp2_with (go_at_call 16; refine (member_any _ _ _ _ _ _ h').mono ?_; rintro e w' ⟨rfl, rfl⟩)
      · go_ret; exact ⟨ret_bool (disB_hit (k := k) (by omega) (by assumption)).symm, rfl⟩
      · go_round
        case rel => exact ⟨k + 1, by omega, by go_num, by rw [disB_snoc (by omega), hmm]; simp [*]⟩
        case measure => simp [intOf]; omega
    · go_wp2
      go_ret
      exact ⟨ret_bool (by rw [List.take_of_length_le (by omega)] at hmm; exact hmm.symm), rfl⟩

set_option maxHeartbeats 400000 in
theorem equal_any (a : Option Addr) (n c : Nat) (a' : Option Addr) (n' c' : Nat) (ss : List ByteArray) (w : World) (h : IsStrs w a n c ss) (h' : IsStrs w a' n' c' ss) :
    Calls Try.prog 15 #[.slice a n c, .slice a' n' c'] w fun e w' => e = .returned (.bool true) ∧ ∃ m, w' = w.drewN m := by
  have hm := h.len_le
  have hl := h.length
  obtain rfl : n' = n := by rw [← h'.length, hl]
  go_enter Try.func15, Try.ntmps15
  go_wp2
  go_loopw [5] (fun i wr => ∃ k m : Nat, k ≤ n' ∧ i = .int .i64 k ∧ wr = w.drewN m) (fun i _ => n' - (intOf i).toNat)
  case atStart => exact ⟨0, 0, Nat.zero_le _, rfl, rfl⟩
  case round =>
    obtain ⟨k, m, hk, rfl, rfl⟩ := hrel
    by_cases hlt : k < n'
    · obtain ⟨b, off, rfl, hcell⟩ := h.at hlt
      obtain ⟨b', off', rfl, hcell'⟩ := h'.at hlt
      go_wp2
      go_quiet (fail)
      go_wp2
      go_roundw
      case rel => exact ⟨k + 1, _, by omega, by go_num, rfl⟩
      case measure => simp [intOf]; omega
    · go_wp2
      go_ret
      exact ⟨rfl, m, rfl⟩

set_option maxHeartbeats 400000 in
theorem propDiffer_any (k : ByteArray) (a : Option Addr) (n c : Nat) (ks : List ByteArray) (a' : Option Addr) (n' c' : Nat) (vs : List Int) (a2 : Option Addr) (n2 c2 : Nat) (ks2 : List ByteArray) (a3 : Option Addr) (n3 c3 : Nat) (vs2 : List Int) (w : World)
    (h : IsStrs w a n c ks) (h' : IsInts .i64 w a' n' c' vs) (h2 : IsStrs w a2 n2 c2 ks2) (h3 : IsInts .i64 w a3 n3 c3 vs2) :
    Calls Try.prog 24 #[.string k, .slice a n c, .slice a' n' c', .slice a2 n2 c2, .slice a3 n3 c3] w fun e w' => e = .returned (.bool (difB (lv (prs ks vs) k) (lv (prs ks2 vs2) k))) ∧ w' = w := by
  go_enter Try.func24, Try.ntmps24
  go_wp2_with fail
  refine (lastVal_any _ _ _ _ _ _ _ _ _ _ h h').mono ?_
  rintro e w' ⟨rfl, rfl⟩
  go_wp2_with fail
  refine (lastVal_any _ _ _ _ _ _ _ _ _ _ h2 h3).mono ?_
  rintro e w' ⟨rfl, rfl⟩
  go_wp2
  · go_ret; exact ⟨ret_bool (difB_val (by assumption)).symm, rfl⟩
  · go_ret; exact ⟨ret_bool (difB_has (by assumption)).symm, rfl⟩

set_option maxHeartbeats 400000 in
theorem labelMoved_any (x : ByteArray) (a : Option Addr) (n c : Nat) (sa : List ByteArray) (a' : Option Addr) (n' c' : Nat) (sb : List ByteArray) (a2 : Option Addr) (n2 c2 : Nat) (sc : List ByteArray) (w : World)
    (h : IsStrs w a n c sa) (h' : IsStrs w a' n' c' sb) (h2 : IsStrs w a2 n2 c2 sc) :
    Calls Try.prog 27 #[.string x, .slice a n c, .slice a' n' c', .slice a2 n2 c2] w fun e w' => e = .returned (.bool (lmv sa sb sc x)) ∧ w' = w := by
  go_enter Try.func27, Try.ntmps27
  go_wp2_with fail
  refine (member_any _ _ _ _ _ _ h).mono ?_
  rintro e w' ⟨rfl, rfl⟩
  cases hx : memB sa x
  · go_wp2_with fail
    refine (member_any _ _ _ _ _ _ h').mono ?_
    rintro e w' ⟨rfl, rfl⟩
    go_wp2
    go_ret
    exact ⟨ret_bool (lmv_false hx).symm, rfl⟩
  · go_wp2_with fail
    refine (member_any _ _ _ _ _ _ h2).mono ?_
    rintro e w' ⟨rfl, rfl⟩
    go_wp2
    go_ret
    exact ⟨ret_bool (lmv_true hx).symm, rfl⟩

end Go.Proofs.Qxb6612711a
