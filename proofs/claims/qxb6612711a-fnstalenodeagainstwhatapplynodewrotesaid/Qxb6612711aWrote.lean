import Derived.Test.Qxb6612711aLaws3
import Derived.Test.Qxb6612711aRead3
import Derived.Test.Qxb6612711aFit3
import Derived.Test.Qxb6612711aBytes25
namespace Go.Proofs.Qxb6612711a
open Go.RowKit

set_option maxRecDepth 100000 in
set_option maxHeartbeats 4000000 in
theorem wrote_walk (a0 : Option Addr) (len0 cap0 : Nat) (z0 : List ByteArray) (a1 : Option Addr) (len1 cap1 : Nat) (z1 : List ByteArray) (a2 : Option Addr) (len2 cap2 : Nat) (z2 : List Int) (a3 : Bool) (a4 : Option Addr) (len4 cap4 : Nat) (z4 : List ByteArray) (a5 : Option Addr) (len5 cap5 : Nat) (z5 : List ByteArray) (a6 : Option Addr) (len6 cap6 : Nat) (z6 : List ByteArray) (a7 : Option Addr) (len7 cap7 : Nat) (z7 : List ByteArray) (a8 : Option Addr) (len8 cap8 : Nat) (z8 : List ByteArray) (a9 : Option Addr) (len9 cap9 : Nat) (z9 : List ByteArray) (a10 : Option Addr) (len10 cap10 : Nat) (z10 : List Int) (a11 : Option Addr) (len11 cap11 : Nat) (z11 : List ByteArray) (w : World) (w0 : IsStrs w a0 len0 cap0 z0) (w1 : IsStrs w a1 len1 cap1 z1) (w2 : IsInts .i64 w a2 len2 cap2 z2) (w4 : IsStrs w a4 len4 cap4 z4) (w5 : IsStrs w a5 len5 cap5 z5) (w6 : IsStrs w a6 len6 cap6 z6) (w7 : IsStrs w a7 len7 cap7 z7) (w8 : IsStrs w a8 len8 cap8 z8) (w9 : IsStrs w a9 len9 cap9 z9) (w10 : IsInts .i64 w a10 len10 cap10 z10) (w11 : IsStrs w a11 len11 cap11 z11) :
    Calls Try.prog 6 #[.slice a0 len0 cap0, .slice a1 len1 cap1, .slice a2 len2 cap2, .bool a3, .slice a4 len4 cap4, .slice a5 len5 cap5, .slice a6 len6 cap6, .slice a7 len7 cap7, .slice a8 len8 cap8, .slice a9 len9 cap9, .slice a10 len10 cap10, .slice a11 len11 cap11] w fun e w' => e = .returned (.bool true) ∧ Below w.heap.size w w' := by
  have hn22 := fun (w : World) (a : Option Addr) (n c : Nat) => run_neq_slice_nil_any (P := Try.prog) w 22 9 a n c 0 0 Try.underlying22
  have hn23 := fun (w : World) (a : Option Addr) (n c : Nat) => run_neq_slice_nil_any (P := Try.prog) w 23 2 a n c 0 0 Try.underlying23
  obtain ⟨is, his, hzs, hss, hbs⟩ := info_parts info9
  obtain ⟨iv, hiv, hzv, hsv, hbv⟩ := info_parts info2
  go_enter Try.func6, Try.ntmps6
  go_wp2_with fail
  refine (bytes25_any _ _ _ _ _ _ _ _ _ _ _ _ _ _ _ _ _ _ _ _ _ _ _ _ _ _ _ _ _ _ _ _ _ _ _ _ _ _ _ _ _ _ _ _ _ _ w0 w1 w2 w4 w5 w6 w7 w8 w9 w10 w11).mono ?_
  rintro e wc ⟨⟨b, rfl⟩, hw⟩
  rw [hw]
  clear hw wc
  cases b
  · go_wp2
    go_ret
    exact ⟨rfl, Below.refl _ _⟩
  go_wp2_with fail
  refine (fitStaleApplied_any _ _ _ _ _ _ _ _ _ _ _ _ _ _ _ _ _ _ _ _ _ _ _ _ _ _ _ _ _ _ _ _ _ _ _ _ _ _ _ _ _ _ _ _ _ w0 w1 w2 w4 w5 w6 w7 w8 w9 w10 w11).mono ?_
  rintro e wc ⟨⟨b, rfl, hb⟩, hw⟩
  rw [hw]
  clear hw wc
  cases b
  · go_wp2
    go_ret
    exact ⟨rfl, Below.refl _ _⟩
  obtain ⟨f0, f5, f6, f7, f8, f1, f2, f4, f9, f10, f11⟩ := hb rfl
  clear hb
  obtain ⟨wc, hwc⟩ : ∃ wc, wc = w := ⟨_, rfl⟩
  have hX : Ext w wc := by rw [hwc]; exact Ext.refl _
  rw [← hwc]
  clear hwc
  go_upto_if 70 with fail
  go_cut [1] from 69 to 77 (fun v wx => ∃ a c, v = .slice a len1 c ∧ IsStrs wx a len1 c z1 ∧ Ext wc wx)
  case first =>
    as_aux_lemma =>
      have hz := w1.ext hX
      cases a1 with
      | none =>
        go_wp2
        go_meet
        exact ⟨_, _, rfl, hz, Ext.refl _⟩
      | some ad =>
        go_upto_region 7 with (first
          | (at_make; refine wpList_make_full _ rfl _ _ 22 rfl wc.heap.size 9 is _ 1 Try.underlying22 his hzs hss .i64 .i64 _ _ len1 rfl rfl rfl rfl (by rw [hbs]; omega) (by unfold maxLen; omega) (Nat.le_refl _) ?_; intro wm hrow hgm)
          | go_in)
        go_wp2_with (first
          | (refine wpList_copy_strs rfl _ _ rfl wc ((Ext.refl _).step hgm (fun k hk => by cases hk)) wc.heap.size len1 (Nat.le_refl _) _ _ z1 rfl rfl (hz.ext ((Ext.refl _).step hgm (fun k hk => by cases hk))) _ hrow ?_; intro wk hEk hzk)
          | go_in)
        go_meet
        exact ⟨_, _, rfl, hzk, hEk⟩
  obtain ⟨p1, d1, rfl, v1, hE⟩ := hcut
  replace hX := hX.trans hE
  clear hE
  go_upto_if 79 with fail
  go_cut [2] from 78 to 86 (fun v wx => ∃ a c, v = .slice a len2 c ∧ IsInts .i64 wx a len2 c z2 ∧ Ext wc wx)
  case first =>
    as_aux_lemma =>
      have hz := w2.ext hX
      cases a2 with
      | none =>
        go_wp2
        go_meet
        exact ⟨_, _, rfl, hz, Ext.refl _⟩
      | some ad =>
        go_upto_region 11 with (first
          | (at_make; refine wpList_make_full _ rfl _ _ 23 rfl wc.heap.size 2 iv _ 1 Try.underlying23 hiv hzv hsv .i64 .i64 _ _ len2 rfl rfl rfl rfl (by rw [hbv]; omega) (by unfold maxLen; omega) (Nat.le_refl _) ?_; intro wm hrow hgm)
          | go_in)
        go_wp2_with (first
          | (refine wpList_copy_ints rfl _ _ rfl wc ((Ext.refl _).step hgm (fun k hk => by cases hk)) wc.heap.size len2 (Nat.le_refl _) _ _ z2 rfl rfl (hz.ext ((Ext.refl _).step hgm (fun k hk => by cases hk))) _ hrow ?_; intro wk hEk hzk)
          | go_in)
        go_meet
        exact ⟨_, _, rfl, hzk, hEk⟩
  obtain ⟨p2, d2, rfl, v2, hE⟩ := hcut
  replace hX := hX.trans hE
  replace v1 := v1.ext hE
  clear hE
  go_upto_if 88 with fail
  go_cut [4] from 87 to 95 (fun v wx => ∃ a c, v = .slice a len4 c ∧ IsStrs wx a len4 c z4 ∧ Ext wc wx)
  case first =>
    as_aux_lemma =>
      have hz := w4.ext hX
      cases a4 with
      | none =>
        go_wp2
        go_meet
        exact ⟨_, _, rfl, hz, Ext.refl _⟩
      | some ad =>
        go_upto_region 15 with (first
          | (at_make; refine wpList_make_full _ rfl _ _ 22 rfl wc.heap.size 9 is _ 1 Try.underlying22 his hzs hss .i64 .i64 _ _ len4 rfl rfl rfl rfl (by rw [hbs]; omega) (by unfold maxLen; omega) (Nat.le_refl _) ?_; intro wm hrow hgm)
          | go_in)
        go_wp2_with (first
          | (refine wpList_copy_strs rfl _ _ rfl wc ((Ext.refl _).step hgm (fun k hk => by cases hk)) wc.heap.size len4 (Nat.le_refl _) _ _ z4 rfl rfl (hz.ext ((Ext.refl _).step hgm (fun k hk => by cases hk))) _ hrow ?_; intro wk hEk hzk)
          | go_in)
        go_meet
        exact ⟨_, _, rfl, hzk, hEk⟩
  obtain ⟨p4, d4, rfl, v4, hE⟩ := hcut
  replace hX := hX.trans hE
  replace v1 := v1.ext hE
  replace v2 := v2.ext hE
  clear hE
  go_upto_if 97 with fail
  go_cut [9] from 96 to 104 (fun v wx => ∃ a c, v = .slice a len9 c ∧ IsStrs wx a len9 c z9 ∧ Ext wc wx)
  case first =>
    as_aux_lemma =>
      have hz := w9.ext hX
      cases a9 with
      | none =>
        go_wp2
        go_meet
        exact ⟨_, _, rfl, hz, Ext.refl _⟩
      | some ad =>
        go_upto_region 19 with (first
          | (at_make; refine wpList_make_full _ rfl _ _ 22 rfl wc.heap.size 9 is _ 1 Try.underlying22 his hzs hss .i64 .i64 _ _ len9 rfl rfl rfl rfl (by rw [hbs]; omega) (by unfold maxLen; omega) (Nat.le_refl _) ?_; intro wm hrow hgm)
          | go_in)
        go_wp2_with (first
          | (refine wpList_copy_strs rfl _ _ rfl wc ((Ext.refl _).step hgm (fun k hk => by cases hk)) wc.heap.size len9 (Nat.le_refl _) _ _ z9 rfl rfl (hz.ext ((Ext.refl _).step hgm (fun k hk => by cases hk))) _ hrow ?_; intro wk hEk hzk)
          | go_in)
        go_meet
        exact ⟨_, _, rfl, hzk, hEk⟩
  obtain ⟨p9, d9, rfl, v9, hE⟩ := hcut
  replace hX := hX.trans hE
  replace v1 := v1.ext hE
  replace v2 := v2.ext hE
  replace v4 := v4.ext hE
  clear hE
  go_upto_if 106 with fail
  go_cut [10] from 105 to 113 (fun v wx => ∃ a c, v = .slice a len10 c ∧ IsInts .i64 wx a len10 c z10 ∧ Ext wc wx)
  case first =>
    as_aux_lemma =>
      have hz := w10.ext hX
      cases a10 with
      | none =>
        go_wp2
        go_meet
        exact ⟨_, _, rfl, hz, Ext.refl _⟩
      | some ad =>
        go_upto_region 23 with (first
          | (at_make; refine wpList_make_full _ rfl _ _ 23 rfl wc.heap.size 2 iv _ 1 Try.underlying23 hiv hzv hsv .i64 .i64 _ _ len10 rfl rfl rfl rfl (by rw [hbv]; omega) (by unfold maxLen; omega) (Nat.le_refl _) ?_; intro wm hrow hgm)
          | go_in)
        go_wp2_with (first
          | (refine wpList_copy_ints rfl _ _ rfl wc ((Ext.refl _).step hgm (fun k hk => by cases hk)) wc.heap.size len10 (Nat.le_refl _) _ _ z10 rfl rfl (hz.ext ((Ext.refl _).step hgm (fun k hk => by cases hk))) _ hrow ?_; intro wk hEk hzk)
          | go_in)
        go_meet
        exact ⟨_, _, rfl, hzk, hEk⟩
  obtain ⟨p10, d10, rfl, v10, hE⟩ := hcut
  replace hX := hX.trans hE
  replace v1 := v1.ext hE
  replace v2 := v2.ext hE
  replace v4 := v4.ext hE
  replace v9 := v9.ext hE
  clear hE
  go_upto_if 115 with fail
  go_cut [11] from 114 to 122 (fun v wx => ∃ a c, v = .slice a len11 c ∧ IsStrs wx a len11 c z11 ∧ Ext wc wx)
  case first =>
    as_aux_lemma =>
      have hz := w11.ext hX
      cases a11 with
      | none =>
        go_wp2
        go_meet
        exact ⟨_, _, rfl, hz, Ext.refl _⟩
      | some ad =>
        go_upto_region 27 with (first
          | (at_make; refine wpList_make_full _ rfl _ _ 22 rfl wc.heap.size 9 is _ 1 Try.underlying22 his hzs hss .i64 .i64 _ _ len11 rfl rfl rfl rfl (by rw [hbs]; omega) (by unfold maxLen; omega) (Nat.le_refl _) ?_; intro wm hrow hgm)
          | go_in)
        go_wp2_with (first
          | (refine wpList_copy_strs rfl _ _ rfl wc ((Ext.refl _).step hgm (fun k hk => by cases hk)) wc.heap.size len11 (Nat.le_refl _) _ _ z11 rfl rfl (hz.ext ((Ext.refl _).step hgm (fun k hk => by cases hk))) _ hrow ?_; intro wk hEk hzk)
          | go_in)
        go_meet
        exact ⟨_, _, rfl, hzk, hEk⟩
  obtain ⟨p11, d11, rfl, v11, hE⟩ := hcut
  replace hX := hX.trans hE
  replace v1 := v1.ext hE
  replace v2 := v2.ext hE
  replace v4 := v4.ext hE
  replace v9 := v9.ext hE
  replace v10 := v10.ext hE
  clear hE
  have u0 := w0.ext hX
  have u5 := w5.ext hX
  have u6 := w6.ext hX
  have u7 := w7.ext hX
  have u8 := w8.ext hX
  clear w0 w1 w2 w4 w5 w6 w7 w8 w9 w10 w11
  go_wp2_with fail
  refine (props_any _ _ _ _ _ _ _ _ _ _ _ _ _ v1 v2 (isStrs_nil _) (by omega) (by omega)).mono ?_
  rintro e wp ⟨rfl, hA, hE⟩
  replace hX := hX.trans hE
  replace v1 := v1.ext hE
  replace v2 := v2.ext hE
  replace v4 := v4.ext hE
  replace v9 := v9.ext hE
  replace v10 := v10.ext hE
  replace v11 := v11.ext hE
  replace u0 := u0.ext hE
  replace u5 := u5.ext hE
  replace u6 := u6.ext hE
  replace u7 := u7.ext hE
  replace u8 := u8.ext hE
  clear hE
  generalize wc.heap.size = ba at *
  go_wp2_with fail
  have hE : Ext wp (wp.alloc (.cells #[.int .i64 1, .slice a0 len0 cap0, .map (some ba), .int .u64 0] 31)) := (Ext.refl _).alloc _
  have hN1 : IsNode (wp.alloc (.cells #[.int .i64 1, .slice a0 len0 cap0, .map (some ba), .int .u64 0] 31)) wp.heap.size 1 a0 len0 cap0 ba 0 := ⟨by simp, by simp, by simp, by simp, ⟨_, heap_alloc_new _ _⟩⟩
  replace hX := hX.trans hE
  replace v1 := v1.ext hE
  replace v2 := v2.ext hE
  replace v4 := v4.ext hE
  replace v9 := v9.ext hE
  replace v10 := v10.ext hE
  replace v11 := v11.ext hE
  replace u0 := u0.ext hE
  replace u5 := u5.ext hE
  replace u6 := u6.ext hE
  replace u7 := u7.ext hE
  replace u8 := u8.ext hE
  replace hA := hA.ext hE
  clear hE
  refine (props_any _ _ _ _ _ _ _ _ _ _ _ _ _ v9 v10 v11 (by omega) (by omega)).mono ?_
  rintro e wq ⟨rfl, hQ, hE⟩
  replace hX := hX.trans hE
  replace v1 := v1.ext hE
  replace v2 := v2.ext hE
  replace v4 := v4.ext hE
  replace v9 := v9.ext hE
  replace v10 := v10.ext hE
  replace v11 := v11.ext hE
  replace u0 := u0.ext hE
  replace u5 := u5.ext hE
  replace u6 := u6.ext hE
  replace u7 := u7.ext hE
  replace u8 := u8.ext hE
  replace hA := hA.ext hE
  replace hN1 := hN1.ext hE
  clear hE
  rw [show (wp.alloc (.cells #[.int .i64 1, .slice a0 len0 cap0, .map (some ba), .int .u64 0] 31)).heap.size = wp.heap.size + 1 from by simp] at hQ ⊢
  generalize wp.heap.size + 1 = bq at *
  generalize wp.heap.size = n1 at *
  go_wp2_with fail
  have hE : Ext wq (wq.alloc (.cells #[.bool false, .map (some bq), .slice a7 len7 cap7, .slice a8 len8 cap8] 33)) := (Ext.refl _).alloc _
  replace hX := hX.trans hE
  replace v1 := v1.ext hE
  replace v2 := v2.ext hE
  replace v4 := v4.ext hE
  replace v9 := v9.ext hE
  replace v10 := v10.ext hE
  replace v11 := v11.ext hE
  replace u0 := u0.ext hE
  replace u5 := u5.ext hE
  replace u6 := u6.ext hE
  replace u7 := u7.ext hE
  replace u8 := u8.ext hE
  replace hA := hA.ext hE
  replace hN1 := hN1.ext hE
  replace hQ := hQ.ext hE
  clear hE
  have hlt1 : n1 < (wq.alloc (.cells #[.bool false, .map (some bq), .slice a7 len7 cap7, .slice a8 len8 cap8] 33)).heap.size := by
    obtain ⟨cs, hcs⟩ := hN1.blk
    exact (Array.getElem?_eq_some_iff.1 hcs).1
  refine (applyNode_any _ _ _ _ _ _ _ _ _ _ _ _ _ _ _ _ _ _ _ _ _ _ _ hQ u7 u8 hN1 u0 hA (by omega) (by omega) (by omega) (by omega)).mono ?_
  rintro e wr ⟨n2, q2, e2, m2, rfl, hb2, hN2, hL2, hB, hE⟩
  replace hX := hX.trans hE
  replace v1 := v1.ext hE
  replace v2 := v2.ext hE
  replace v4 := v4.ext hE
  replace v9 := v9.ext hE
  replace v10 := v10.ext hE
  replace v11 := v11.ext hE
  replace u0 := u0.ext hE
  replace u5 := u5.ext hE
  replace u6 := u6.ext hE
  replace u7 := u7.ext hE
  replace u8 := u8.ext hE
  replace hA := hA.ext hE
  replace hN1 := hN1.ext hE
  clear hE
  have hne12 : n1 ≠ n2 := by omega
  clear hlt1 hb2 hQ
  go_wp2_with fail
  refine (props_any _ _ _ _ _ _ _ _ _ _ _ _ _ (isStrs_nil _) (isInts_nil _) v4 (by omega) (by omega)).mono ?_
  rintro e ws ⟨rfl, hP, hE⟩
  replace hX := hX.trans hE
  replace v1 := v1.ext hE
  replace v2 := v2.ext hE
  replace v4 := v4.ext hE
  replace v9 := v9.ext hE
  replace v10 := v10.ext hE
  replace v11 := v11.ext hE
  replace u0 := u0.ext hE
  replace u5 := u5.ext hE
  replace u6 := u6.ext hE
  replace u7 := u7.ext hE
  replace u8 := u8.ext hE
  replace hA := hA.ext hE
  replace hN1 := hN1.ext hE
  replace hN2 := hN2.ext hE
  replace hL2 := hL2.ext hE
  replace hB := hB.ext hE
  clear hE
  generalize wr.heap.size = bp at *
  go_wp2_with fail
  have hE : Ext ws (ws.alloc (.cells #[.bool a3, .map (some bp), .slice a5 len5 cap5, .slice a6 len6 cap6] 33)) := (Ext.refl _).alloc _
  replace hX := hX.trans hE
  replace v1 := v1.ext hE
  replace v2 := v2.ext hE
  replace v4 := v4.ext hE
  replace v9 := v9.ext hE
  replace v10 := v10.ext hE
  replace v11 := v11.ext hE
  replace u0 := u0.ext hE
  replace u5 := u5.ext hE
  replace u6 := u6.ext hE
  replace u7 := u7.ext hE
  replace u8 := u8.ext hE
  replace hA := hA.ext hE
  replace hN1 := hN1.ext hE
  replace hN2 := hN2.ext hE
  replace hL2 := hL2.ext hE
  replace hB := hB.ext hE
  replace hP := hP.ext hE
  clear hE
  refine (staleNode_any _ _ _ _ _ _ _ _ _ _ _ _ _ _ _ _ _ _ _ _ _ _ _ _ _ _ _ _ _ _ _ _ _ hne12 hP u5 u6 hN1 u0 hA hN2 hL2 hB (by omega) (by omega)).mono ?_
  rintro e wv ⟨⟨g, rfl, hg⟩, hE⟩
  have HG : Hid (g = true ↔ StaleL z0 (newL z0 z7 z8) z5 z6 ∨ StaleP a3 (pmk (prs z1 z2) []) (chg false (pmk (prs z1 z2) []) (pmk (prs z9 z10) z11)) (pmk (prs [] []) z4)) := hg
  clear hg
  replace hX := hX.trans hE
  replace v1 := v1.ext hE
  replace v2 := v2.ext hE
  replace v4 := v4.ext hE
  replace v9 := v9.ext hE
  replace v10 := v10.ext hE
  replace v11 := v11.ext hE
  replace u0 := u0.ext hE
  replace u5 := u5.ext hE
  replace u6 := u6.ext hE
  replace u7 := u7.ext hE
  replace u8 := u8.ext hE
  clear hE
  clear hA hN1 hN2 hL2 hB hP hne12
  have m5 := u5.length
  have m6 := u6.length
  go_wp2_with fail
  go_loop [36, 37] (fun s i => ∃ k : Nat, k ≤ len5 + len6 ∧ i = .int .i64 k ∧ s = .bool (stM z0 z7 z8 (cat3 z5 z6 []) k)) (fun _ i => len5 + len6 - (intOf i).toNat)
  case atStart => exact ⟨0, Nat.zero_le _, rfl, rfl⟩
  case round =>
    obtain ⟨k, hk, rfl, rfl⟩ := hrel
    by_cases hlt : k < len5 + len6
    · have HS : Hid (stM z0 z7 z8 (cat3 z5 z6 []) (k + 1) = (stM z0 z7 z8 (cat3 z5 z6 []) k || lmv z0 z7 z8 (nth (cat3 z5 z6 []) k))) := stM_succ _ _ _ _ _
      go_wp2_with fail
      refine (keyAt_any _ _ _ _ _ _ _ _ _ _ _ _ _ _ u5 u6 (isStrs_nil _) (by omega) (by omega)).mono ?_
      rintro e w' ⟨rfl, hw⟩
      rw [hw]
      clear hw w'
      generalize nth (cat3 z5 z6 []) k = s at *
      go_wp2_with fail
      refine (labelMoved_any _ _ _ _ _ _ _ _ _ _ _ _ _ _ u0 u7 u8).mono ?_
      rintro e w' ⟨rfl, hw⟩
      rw [hw]
      clear hw w'
      cases hm : lmv z0 z7 z8 s
      all_goals
        rw [hm] at HS
        go_wp2
        go_round
        case rel => exact ⟨k + 1, by omega, by go_num, by rw [HS.out]; simp⟩
        case measure => simp [intOf]; omega
    obtain rfl : k = len5 + len6 := by omega
    have HS1 : Hid (stM z0 z7 z8 (cat3 z5 z6 []) (len5 + len6) = true ↔ StaleL z0 (newL z0 z7 z8) z5 z6) := stM_iff (by omega)
    generalize stM z0 z7 z8 (cat3 z5 z6 []) (len5 + len6) = s1 at *
    have m1 := v1.length
    have m2 := v2.length
    have m4 := v4.length
    have m9 := v9.length
    have m10 := v10.length
    have m11 := v11.length
    cases a3
    · have HL : Hid (stQ (prs z1 z2) (prs z9 z10) z11 (z4) (len4) = true ↔ StaleP false (pmk (prs z1 z2) []) (chg false (pmk (prs z1 z2) []) (pmk (prs z9 z10) z11)) (pmk (prs [] []) z4)) := moved_keep m4
      go_wp2_with (go_at_call 17; refine (min_any _ _ _).mono ?_; rintro e w' ⟨rfl, hw⟩; rw [hw]; clear hw w')
      generalize min len1 len2 = np at *
      generalize min len9 len10 = ds at *
      go_loopw [36, 41] (fun s i wr => ∃ k : Nat, k ≤ len4 ∧ i = .int .i64 k ∧ s = .bool (orB s1 (stQ (prs z1 z2) (prs z9 z10) z11 (z4) k)) ∧ Ext wv wr) (fun _ i _ => len4 - (intOf i).toNat)
      case atStart => exact ⟨0, Nat.zero_le _, rfl, by rw [stQ_zero, orB_false], Ext.refl _⟩
      case round =>
        obtain ⟨k, hk, rfl, rfl, hx⟩ := hrel
        by_cases hlt : k < len4
        · have HS : Hid (stQ (prs z1 z2) (prs z9 z10) z11 (z4) (k + 1) = (stQ (prs z1 z2) (prs z9 z10) z11 (z4) k || pmv (prs z1 z2) (prs z9 z10) z11 (nth (z4) k))) := stQ_succ _ _ _ _ _
          generalize stQ (prs z1 z2) (prs z9 z10) z11 (z4) k = sk at *
          obtain ⟨b, off, hp4, hcell⟩ := (v4.ext hx).at hlt
          subst hp4
          generalize nth z4 k = s at *
          go_wp2_with fail
          refine (propMoved_any _ _ _ _ _ _ _ _ _ _ _ _ _ _ _ _ _ _ _ _ _ _ (v1.ext hx) (v2.ext hx) (v9.ext hx) (v10.ext hx) (v11.ext hx)).mono ?_
          rintro e w' ⟨rfl, hw⟩
          rw [hw]
          clear hw w'
          obtain ⟨dv, hd⟩ : ∃ dv, pmv (prs z1 z2) (prs z9 z10) z11 s = dv := ⟨_, rfl⟩
          have hd' : difB (lv (prs z1 z2) s) (aft (lv (prs z1 z2) s) (lv (prs z9 z10) s) (memB z11 s)) = dv := hd
          rw [hd']
          rw [hd] at HS
          clear hd hd'
          cases dv
          all_goals
            go_wp2
            go_roundw
            case rel => exact ⟨k + 1, by omega, by go_num, by rw [HS.out]; cases s1 <;> cases sk <;> rfl, hx⟩
            case measure => simp [intOf]; omega
        have hkN : len4 = k := by omega
        rw [hkN] at HL
        have r1 := bools_agree1 HG.out HS1.out HL.out
        rw [r1]
        clear hkN
        generalize orB s1 (stQ (prs z1 z2) (prs z9 z10) z11 (z4) k) = sB at *
        clear HG HS1 HL r1
        cases sB
        all_goals
          go_wp2
          go_ret
          exact ⟨rfl, hX.trans hx⟩
    · have HL : Hid (stQ (prs z1 z2) (prs z9 z10) z11 (cat3 (z1.take (min len1 len2)) (z9.take (min len9 len10)) z11) (min len1 len2 + min len9 len10 + len11) = true ↔ StaleP true (pmk (prs z1 z2) []) (chg false (pmk (prs z1 z2) []) (pmk (prs z9 z10) z11)) (pmk (prs [] []) z4)) := by
        have := moved_repl (k1 := z1) (v1 := z2) (ks := z9) (vs := z10) (ds := z11) (P := pmk (prs [] []) z4) (n := min len1 len2 + min len9 len10 + len11) (by omega)
        rw [m1, m2, m9, m10] at this
        exact this
      go_wp2_with (go_at_call 17; refine (min_any _ _ _).mono ?_; rintro e w' ⟨rfl, hw⟩; rw [hw]; clear hw w')
      have hnp : min len1 len2 ≤ len1 := Nat.min_le_left _ _
      have hds : min len9 len10 ≤ len9 := Nat.min_le_left _ _
      generalize min len1 len2 = np at *
      generalize min len9 len10 = ds at *
      have s1' := v1.cutTo hnp
      have s9' := v9.cutTo hds
      have e1' := v1.le
      have e9' := v9.le
      go_loopw [36, 40] (fun s i wr => ∃ k : Nat, k ≤ np + ds + len11 ∧ i = .int .i64 k ∧ s = .bool (orB s1 (stQ (prs z1 z2) (prs z9 z10) z11 (cat3 (z1.take np) (z9.take ds) z11) k)) ∧ Ext wv wr) (fun _ i _ => np + ds + len11 - (intOf i).toNat)
      case atStart => exact ⟨0, Nat.zero_le _, rfl, by rw [stQ_zero, orB_false], Ext.refl _⟩
      case round =>
        obtain ⟨k, hk, rfl, rfl, hx⟩ := hrel
        by_cases hlt : k < np + ds + len11
        · have HS : Hid (stQ (prs z1 z2) (prs z9 z10) z11 (cat3 (z1.take np) (z9.take ds) z11) (k + 1) = (stQ (prs z1 z2) (prs z9 z10) z11 (cat3 (z1.take np) (z9.take ds) z11) k || pmv (prs z1 z2) (prs z9 z10) z11 (nth (cat3 (z1.take np) (z9.take ds) z11) k))) := stQ_succ _ _ _ _ _
          generalize stQ (prs z1 z2) (prs z9 z10) z11 (cat3 (z1.take np) (z9.take ds) z11) k = sk at *
          go_wp2_with fail
          go_cut [203] from 189 to 203 (fun v wx => v = .bool (pmv (prs z1 z2) (prs z9 z10) z11 (nth (cat3 (z1.take np) (z9.take ds) z11) k)) ∧ Ext wr wx)
          case first =>
            have hm1 : Option.map (fun x : Addr => x.add 0) p1 = p1 := by cases p1 <;> simp [addr_add_zero]
            have hm9 : Option.map (fun x : Addr => x.add 0) p9 = p9 := by cases p9 <;> simp [addr_add_zero]
            have e1 := s1'.ext hx
            have e9 := s9'.ext hx
            have y1 := v1.ext hx
            have y2 := v2.ext hx
            have y9 := v9.ext hx
            have y10 := v10.ext hx
            have y11 := v11.ext hx
            by_cases h1z : 0 < d1
            all_goals by_cases h9z : 0 < d9
            all_goals
              go_quiet (first
                | (go_at_call 18; exact Calls.quiet_of_same (keyAt_any _ _ _ _ _ _ _ _ _ _ _ _ _ _ (e1.ext (Ext.drewN _ _)) (e9.ext (Ext.drewN _ _)) (y11.ext (Ext.drewN _ _)) (by omega) (by omega)))
                | (go_at_call 28; exact Calls.quiet_of_same (propMoved_any _ _ _ _ _ _ _ _ _ _ _ _ _ _ _ _ _ _ _ _ _ _ (y1.ext (Ext.drewN _ _)) (y2.ext (Ext.drewN _ _)) (y9.ext (Ext.drewN _ _)) (y10.ext (Ext.drewN _ _)) (y11.ext (Ext.drewN _ _)))))
              go_wp2
              go_meet
              exact ⟨rfl, Ext.drewN _ _⟩
          obtain ⟨rfl, hy⟩ := hcut
          generalize nth (cat3 (z1.take np) (z9.take ds) z11) k = s at *
          cases hd : pmv (prs z1 z2) (prs z9 z10) z11 s
          all_goals
            rw [hd] at HS
            go_wp2
            go_roundw
            case rel => exact ⟨k + 1, by omega, by go_num, by rw [HS.out]; cases s1 <;> cases sk <;> rfl, hx.trans hy⟩
            case measure => simp [intOf]; omega
        have hkN : np + ds + len11 = k := by omega
        rw [hkN] at HL
        have r1 := bools_agree1 HG.out HS1.out HL.out
        rw [r1]
        clear hkN
        generalize orB s1 (stQ (prs z1 z2) (prs z9 z10) z11 (cat3 (z1.take np) (z9.take ds) z11) k) = sB at *
        clear HG HS1 HL r1
        cases sB
        all_goals
          go_wp2
          go_ret
          exact ⟨rfl, hX.trans hx⟩

end Go.Proofs.Qxb6612711a
