import Derived.Test.Qxb6612711aRead2
namespace Go.Proofs.Qxb6612711a
open Go.RowKit

set_option maxHeartbeats 400000 in
theorem firstAt_any (a : Option Addr) (n c : Nat) (sa : List ByteArray) (a' : Option Addr) (n' c' : Nat) (sb : List ByteArray) (a'' : Option Addr) (n'' c'' : Nat) (sc : List ByteArray) (i : Nat) (w : World)
    (ha : IsStrs w a n c sa) (hb : IsStrs w a' n' c' sb) (hc : IsStrs w a'' n'' c'' sc) (hi : i < n + n' + n'') (hs : n + n' + n'' ≤ 1048576) :
    Calls Try.prog 36 #[.slice a n c, .slice a' n' c', .slice a'' n'' c'', .int .i64 i] w fun e w' => e = .returned (.bool (fstB (cat3 sa sb sc) i)) ∧ w' = w := by
  have l1 := ha.length
  have l2 := hb.length
  have l3 := hc.length
  have hL : i < (cat3 sa sb sc).length := by rw [cat3_length]; omega
  go_enter Try.func36, Try.ntmps36
  go_wp2_with fail
  refine (keyAt_any _ _ _ _ _ _ _ _ _ _ _ _ _ _ ha hb hc hi hs).mono ?_
  rintro e w' ⟨rfl, rfl⟩
  go_wp2_with fail
  go_loop [10] (fun j => ∃ k : Nat, k ≤ i ∧ j = .int .i64 k ∧ memB ((cat3 sa sb sc).take k) (nth (cat3 sa sb sc) i) = false) (fun j => i - (intOf j).toNat)
  case atStart => exact ⟨0, Nat.zero_le _, rfl, by simp [memB]⟩
  case round =>
    obtain ⟨k, hk, rfl, hmm⟩ := hrel
    by_cases hlt : k < i
    · go_wp2_with fail
      refine (keyAt_any _ _ _ _ _ _ _ _ _ _ _ _ _ _ ha hb hc (by omega) hs).mono ?_
      rintro e w' ⟨rfl, rfl⟩
      go_wp2
      · go_ret
        exact ⟨ret_bool (fstB_hit (j := k) hL hlt (by assumption)).symm, rfl⟩
      · go_round
        case rel => exact ⟨k + 1, by omega, by go_num, memB_miss (by omega) hmm (by assumption)⟩
        case measure => simp [intOf]; omega
    · go_wp2
      go_ret
      obtain rfl : k = i := by omega
      exact ⟨ret_bool (by simp [fstB, hmm]), rfl⟩

set_option maxHeartbeats 400000 in
theorem propMoved_any (k : ByteArray) (a : Option Addr) (n c : Nat) (ks : List ByteArray) (a' : Option Addr) (n' c' : Nat) (vs : List Int) (a2 : Option Addr) (n2 c2 : Nat) (ks2 : List ByteArray) (a3 : Option Addr) (n3 c3 : Nat) (vs2 : List Int) (a4 : Option Addr) (n4 c4 : Nat) (ds : List ByteArray) (w : World)
    (h : IsStrs w a n c ks) (h' : IsInts .i64 w a' n' c' vs) (h2 : IsStrs w a2 n2 c2 ks2) (h3 : IsInts .i64 w a3 n3 c3 vs2) (h4 : IsStrs w a4 n4 c4 ds) :
    Calls Try.prog 28 #[.string k, .slice a n c, .slice a' n' c', .slice a2 n2 c2, .slice a3 n3 c3, .slice a4 n4 c4] w fun e w' =>
      e = .returned (.bool (difB (lv (prs ks vs) k) (aft (lv (prs ks vs) k) (lv (prs ks2 vs2) k) (memB ds k)))) ∧ w' = w := by
  obtain ⟨bd, hbd⟩ : ∃ bd, memB ds k = bd := ⟨_, rfl⟩
  rw [hbd]
  cases bd
  · obtain ⟨bs, hbs⟩ : ∃ bs, hasB (lv (prs ks2 vs2) k) = bs := ⟨_, rfl⟩
    have HB : Hid (hasB (lv (prs ks2 vs2) k) = bs) := hbs
    cases bs
    · rw [aft_not hbs]
      go_enter Try.func28, Try.ntmps28
      go_wp2_with fail
      refine (lastVal_any _ _ _ _ _ _ _ _ _ _ h h').mono ?_
      rintro e w' ⟨rfl, rfl⟩
      go_wp2_with fail
      refine (member_any _ _ _ _ _ _ h4).mono ?_
      rintro e w' ⟨rfl, rfl⟩
      go_wp2_with fail
      refine (lastVal_any _ _ _ _ _ _ _ _ _ _ h2 h3).mono ?_
      rintro e w' ⟨rfl, rfl⟩
      go_wp2
      go_ret
      exact ⟨ret_bool (by simp [difB]), rfl⟩
    · rw [aft_set hbs]
      go_enter Try.func28, Try.ntmps28
      go_wp2_with fail
      refine (lastVal_any _ _ _ _ _ _ _ _ _ _ h h').mono ?_
      rintro e w' ⟨rfl, rfl⟩
      go_wp2_with fail
      refine (member_any _ _ _ _ _ _ h4).mono ?_
      rintro e w' ⟨rfl, rfl⟩
      go_wp2_with fail
      refine (lastVal_any _ _ _ _ _ _ _ _ _ _ h2 h3).mono ?_
      rintro e w' ⟨rfl, rfl⟩
      go_wp2
      · go_ret; exact ⟨ret_bool (by rw [← difB_eq, HB.out]; simp [*]), rfl⟩
      · go_ret; exact ⟨ret_bool (by rw [← difB_eq, HB.out]; simp [*]), rfl⟩
  · rw [aft_del]
    go_enter Try.func28, Try.ntmps28
    go_wp2_with fail
    refine (lastVal_any _ _ _ _ _ _ _ _ _ _ h h').mono ?_
    rintro e w' ⟨rfl, rfl⟩
    go_wp2_with fail
    refine (member_any _ _ _ _ _ _ h4).mono ?_
    rintro e w' ⟨rfl, rfl⟩
    go_wp2
    · go_ret; exact ⟨ret_bool (by rw [← difB_eq, hasB_none, valI_none]; simp [*]), rfl⟩
    · go_ret; exact ⟨ret_bool (by rw [← difB_eq, hasB_none, valI_none]; simp [*]), rfl⟩

set_option maxHeartbeats 400000 in
theorem wantLabelCount_any (x : ByteArray) (a : Option Addr) (n c : Nat) (sa : List ByteArray) (a' : Option Addr) (n' c' : Nat) (sb : List ByteArray) (a2 : Option Addr) (n2 c2 : Nat) (sc : List ByteArray) (w : World)
    (h : IsStrs w a n c sa) (h' : IsStrs w a' n' c' sb) (h2 : IsStrs w a2 n2 c2 sc) (b1 : n ≤ 1048576) (b2 : n' ≤ 1048576) :
    Calls Try.prog 34 #[.string x, .slice a n c, .slice a' n' c', .slice a2 n2 c2] w fun e w' => e = .returned (.int .i64 (wlc sa sb sc x)) ∧ w' = w := by
  have l1 := cnt_le sa x
  have l2 := cnt_le sb x
  rw [h.length] at l1
  rw [h'.length] at l2
  obtain ⟨p, hp⟩ : ∃ p, memB sc x = p := ⟨_, rfl⟩
  obtain ⟨q, hq⟩ : ∃ q, memB sa x = q := ⟨_, rfl⟩
  have HW : Hid (wlc sa sb sc x = (if p = true then 0 else cnt sa x) + (if q = true then 0 else cnt sb x)) := by rw [← hp, ← hq]; rfl
  cases p <;> cases q
  · go_enter Try.func34, Try.ntmps34
    go_wp2_with fail
    refine (member_any _ _ _ _ _ _ h2).mono ?_
    rintro e w' ⟨rfl, rfl⟩
    go_wp2_with fail
    refine (count_any _ _ _ _ _ _ h).mono ?_
    rintro e w' ⟨rfl, rfl⟩
    go_wp2_with fail
    refine (member_any _ _ _ _ _ _ h).mono ?_
    rintro e w' ⟨rfl, rfl⟩
    go_wp2_with fail
    refine (count_any _ _ _ _ _ _ h').mono ?_
    rintro e w' ⟨rfl, rfl⟩
    go_wp2
    go_ret
    exact ⟨ret_int (by rw [HW.out]; simp), rfl⟩
  · go_enter Try.func34, Try.ntmps34
    go_wp2_with fail
    refine (member_any _ _ _ _ _ _ h2).mono ?_
    rintro e w' ⟨rfl, rfl⟩
    go_wp2_with fail
    refine (count_any _ _ _ _ _ _ h).mono ?_
    rintro e w' ⟨rfl, rfl⟩
    go_wp2_with fail
    refine (member_any _ _ _ _ _ _ h).mono ?_
    rintro e w' ⟨rfl, rfl⟩
    go_wp2
    go_ret
    exact ⟨ret_int (by rw [HW.out]; simp), rfl⟩
  · go_enter Try.func34, Try.ntmps34
    go_wp2_with fail
    refine (member_any _ _ _ _ _ _ h2).mono ?_
    rintro e w' ⟨rfl, rfl⟩
    go_wp2_with fail
    refine (member_any _ _ _ _ _ _ h).mono ?_
    rintro e w' ⟨rfl, rfl⟩
    go_wp2_with fail
    refine (count_any _ _ _ _ _ _ h').mono ?_
    rintro e w' ⟨rfl, rfl⟩
    go_wp2
    go_ret
    exact ⟨ret_int (by rw [HW.out]; simp), rfl⟩
  · go_enter Try.func34, Try.ntmps34
    go_wp2_with fail
    refine (member_any _ _ _ _ _ _ h2).mono ?_
    rintro e w' ⟨rfl, rfl⟩
    go_wp2_with fail
    refine (member_any _ _ _ _ _ _ h).mono ?_
    rintro e w' ⟨rfl, rfl⟩
    go_wp2
    go_ret
    exact ⟨ret_int (by rw [HW.out]; simp), rfl⟩

set_option maxHeartbeats 400000 in
theorem wantProp_any (k : ByteArray) (a : Option Addr) (n c : Nat) (ks : List ByteArray) (a' : Option Addr) (n' c' : Nat) (vs : List Int) (rep : Bool) (a2 : Option Addr) (n2 c2 : Nat) (ks2 : List ByteArray) (a3 : Option Addr) (n3 c3 : Nat) (vs2 : List Int) (a4 : Option Addr) (n4 c4 : Nat) (ds : List ByteArray) (w : World)
    (h : IsStrs w a n c ks) (h' : IsInts .i64 w a' n' c' vs) (h2 : IsStrs w a2 n2 c2 ks2) (h3 : IsInts .i64 w a3 n3 c3 vs2) (h4 : IsStrs w a4 n4 c4 ds) :
    Calls Try.prog 35 #[.string k, .slice a n c, .slice a' n' c', .bool rep, .slice a2 n2 c2, .slice a3 n3 c3, .slice a4 n4 c4] w fun e w' =>
      e = .returned (.tuple #[.int .i64 (valI (aft (bas rep (lv (prs ks vs) k)) (lv (prs ks2 vs2) k) (memB ds k))), .bool (hasB (aft (bas rep (lv (prs ks vs) k)) (lv (prs ks2 vs2) k) (memB ds k)))]) ∧ w' = w := by
  obtain ⟨bd, hbd⟩ : ∃ bd, memB ds k = bd := ⟨_, rfl⟩
  rw [hbd]
  cases bd
  · obtain ⟨bs, hbs⟩ : ∃ bs, hasB (lv (prs ks2 vs2) k) = bs := ⟨_, rfl⟩
    cases bs
    · rw [aft_not hbs]
      cases rep
      · rw [bas_false]
        go_enter Try.func35, Try.ntmps35
        go_wp2_with fail
        refine (member_any _ _ _ _ _ _ h4).mono ?_
        rintro e w' ⟨rfl, rfl⟩
        go_wp2_with fail
        refine (lastVal_any _ _ _ _ _ _ _ _ _ _ h2 h3).mono ?_
        rintro e w' ⟨rfl, rfl⟩
        go_wp2_with fail
        refine (lastVal_any _ _ _ _ _ _ _ _ _ _ h h').mono ?_
        rintro e w' ⟨rfl, rfl⟩
        go_wp2
        go_ret2
        exact ⟨rfl, rfl⟩
      · rw [bas_true]
        go_enter Try.func35, Try.ntmps35
        go_wp2_with fail
        refine (member_any _ _ _ _ _ _ h4).mono ?_
        rintro e w' ⟨rfl, rfl⟩
        go_wp2_with fail
        refine (lastVal_any _ _ _ _ _ _ _ _ _ _ h2 h3).mono ?_
        rintro e w' ⟨rfl, rfl⟩
        go_wp2
        go_ret2
        exact ⟨rfl, rfl⟩
    · rw [aft_set hbs]
      go_enter Try.func35, Try.ntmps35
      go_wp2_with fail
      refine (member_any _ _ _ _ _ _ h4).mono ?_
      rintro e w' ⟨rfl, rfl⟩
      go_wp2_with fail
      refine (lastVal_any _ _ _ _ _ _ _ _ _ _ h2 h3).mono ?_
      rintro e w' ⟨rfl, rfl⟩
      go_wp2
      go_ret2
      exact ⟨ret_two rfl (by first | rfl | exact hbs.symm), rfl⟩
  · rw [aft_del]
    go_enter Try.func35, Try.ntmps35
    go_wp2_with fail
    refine (member_any _ _ _ _ _ _ h4).mono ?_
    rintro e w' ⟨rfl, rfl⟩
    go_wp2
    go_ret2
    exact ⟨rfl, rfl⟩

end Go.Proofs.Qxb6612711a
