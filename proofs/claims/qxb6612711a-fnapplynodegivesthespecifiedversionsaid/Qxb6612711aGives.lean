import Derived.Test.Qxb6612711aSpec3
import Derived.Test.Qxb6612711aFit
import Derived.Test.Qxb6612711aBytes7
namespace Go.Proofs.Qxb6612711a
open Go.RowKit

set_option maxRecDepth 100000 in
set_option maxHeartbeats 4000000 in
theorem gives_walk (a0 : Int) (a1 : Option Addr) (len1 cap1 : Nat) (z1 : List ByteArray) (a2 : Option Addr) (len2 cap2 : Nat) (z2 : List ByteArray) (a3 : Option Addr) (len3 cap3 : Nat) (z3 : List Int) (a4 : Bool) (a5 : Option Addr) (len5 cap5 : Nat) (z5 : List ByteArray) (a6 : Option Addr) (len6 cap6 : Nat) (z6 : List Int) (a7 : Option Addr) (len7 cap7 : Nat) (z7 : List ByteArray) (a8 : Option Addr) (len8 cap8 : Nat) (z8 : List ByteArray) (a9 : Option Addr) (len9 cap9 : Nat) (z9 : List ByteArray) (w : World) (_w0 : (Lit.int .i64 a0).wf = true) (w1 : IsStrs w a1 len1 cap1 z1) (w2 : IsStrs w a2 len2 cap2 z2) (w3 : IsInts .i64 w a3 len3 cap3 z3) (w5 : IsStrs w a5 len5 cap5 z5) (w6 : IsInts .i64 w a6 len6 cap6 z6) (w7 : IsStrs w a7 len7 cap7 z7) (w8 : IsStrs w a8 len8 cap8 z8) (w9 : IsStrs w a9 len9 cap9 z9) :
    Calls Try.prog 3 #[.int .i64 a0, .slice a1 len1 cap1, .slice a2 len2 cap2, .slice a3 len3 cap3, .bool a4, .slice a5 len5 cap5, .slice a6 len6 cap6, .slice a7 len7 cap7, .slice a8 len8 cap8, .slice a9 len9 cap9] w fun e w' => e = .returned (.bool true) ∧ Below w.heap.size w w' := by
  have hn22 := fun (w : World) (a : Option Addr) (n c : Nat) => run_neq_slice_nil_any (P := Try.prog) w 22 9 a n c 0 0 Try.underlying22
  have hn23 := fun (w : World) (a : Option Addr) (n c : Nat) => run_neq_slice_nil_any (P := Try.prog) w 23 2 a n c 0 0 Try.underlying23
  obtain ⟨is, his, hzs, hss, hbs⟩ := info_parts info9
  obtain ⟨iv, hiv, hzv, hsv, hbv⟩ := info_parts info2
  go_enter Try.func3, Try.ntmps3
  go_wp2_with fail
  refine (bytes7_any _ _ _ _ _ _ _ _ _ _ _ _ _ _ _ _ _ _ _ _ _ _ _ _ _ _ _ _ _ _ _ _ _ _ _ w1 w2 w3 w5 w6 w7 w8 w9).mono ?_
  rintro e wc ⟨⟨b, rfl⟩, hw⟩
  rw [hw]
  clear hw wc
  cases b
  · go_wp2
    go_ret
    exact ⟨rfl, Below.refl _ _⟩
  go_wp2_with fail
  refine (fitApply_any _ _ _ _ _ _ _ _ _ _ _ _ _ _ _ _ _ _ _ _ _ _ _ _ _ _ _ _ _ _ _ _ _ w1 w2 w3 w5 w6 w7 w8 w9).mono ?_
  rintro e wc ⟨⟨b, rfl, hb⟩, hw⟩
  rw [hw]
  clear hw wc
  cases b
  · go_wp2
    go_ret
    exact ⟨rfl, Below.refl _ _⟩
  obtain ⟨f1, f8, f9, f2, f3, f5, f6, f7⟩ := hb rfl
  clear hb
  obtain ⟨wc, hwc⟩ : ∃ wc, wc = w := ⟨_, rfl⟩
  have hX : Ext w wc := by rw [hwc]; exact Ext.refl _
  rw [← hwc]
  clear hwc
  go_upto_if 52 with fail
  go_cut [2] from 51 to 59 (fun v wx => ∃ a c, v = .slice a len2 c ∧ IsStrs wx a len2 c z2 ∧ Ext wc wx)
  case first =>
    as_aux_lemma =>
      have hz := w2.ext hX
      cases a2 with
      | none =>
        go_wp2
        go_meet
        exact ⟨_, _, rfl, hz, Ext.refl _⟩
      | some ad =>
        go_upto_region 7 with (first
          | (at_make; refine wpList_make_full _ rfl _ _ 22 rfl wc.heap.size 9 is _ 1 Try.underlying22 his hzs hss .i64 .i64 _ _ len2 rfl rfl rfl rfl (by rw [hbs]; omega) (by unfold maxLen; omega) (Nat.le_refl _) ?_; intro wm hrow hgm)
          | go_in)
        go_wp2_with (first
          | (refine wpList_copy_strs rfl _ _ rfl wc ((Ext.refl _).step hgm (fun k hk => by cases hk)) wc.heap.size len2 (Nat.le_refl _) _ _ z2 rfl rfl (hz.ext ((Ext.refl _).step hgm (fun k hk => by cases hk))) _ hrow ?_; intro wk hEk hzk)
          | go_in)
        go_meet
        exact ⟨_, _, rfl, hzk, hEk⟩
  obtain ⟨p2, d2, rfl, v2, hE⟩ := hcut
  replace hX := hX.trans hE
  clear hE
  go_upto_if 61 with fail
  go_cut [3] from 60 to 68 (fun v wx => ∃ a c, v = .slice a len3 c ∧ IsInts .i64 wx a len3 c z3 ∧ Ext wc wx)
  case first =>
    as_aux_lemma =>
      have hz := w3.ext hX
      cases a3 with
      | none =>
        go_wp2
        go_meet
        exact ⟨_, _, rfl, hz, Ext.refl _⟩
      | some ad =>
        go_upto_region 11 with (first
          | (at_make; refine wpList_make_full _ rfl _ _ 23 rfl wc.heap.size 2 iv _ 1 Try.underlying23 hiv hzv hsv .i64 .i64 _ _ len3 rfl rfl rfl rfl (by rw [hbv]; omega) (by unfold maxLen; omega) (Nat.le_refl _) ?_; intro wm hrow hgm)
          | go_in)
        go_wp2_with (first
          | (refine wpList_copy_ints rfl _ _ rfl wc ((Ext.refl _).step hgm (fun k hk => by cases hk)) wc.heap.size len3 (Nat.le_refl _) _ _ z3 rfl rfl (hz.ext ((Ext.refl _).step hgm (fun k hk => by cases hk))) _ hrow ?_; intro wk hEk hzk)
          | go_in)
        go_meet
        exact ⟨_, _, rfl, hzk, hEk⟩
  obtain ⟨p3, d3, rfl, v3, hE⟩ := hcut
  replace hX := hX.trans hE
  replace v2 := v2.ext hE
  clear hE
  go_upto_if 70 with fail
  go_cut [5] from 69 to 77 (fun v wx => ∃ a c, v = .slice a len5 c ∧ IsStrs wx a len5 c z5 ∧ Ext wc wx)
  case first =>
    as_aux_lemma =>
      have hz := w5.ext hX
      cases a5 with
      | none =>
        go_wp2
        go_meet
        exact ⟨_, _, rfl, hz, Ext.refl _⟩
      | some ad =>
        go_upto_region 15 with (first
          | (at_make; refine wpList_make_full _ rfl _ _ 22 rfl wc.heap.size 9 is _ 1 Try.underlying22 his hzs hss .i64 .i64 _ _ len5 rfl rfl rfl rfl (by rw [hbs]; omega) (by unfold maxLen; omega) (Nat.le_refl _) ?_; intro wm hrow hgm)
          | go_in)
        go_wp2_with (first
          | (refine wpList_copy_strs rfl _ _ rfl wc ((Ext.refl _).step hgm (fun k hk => by cases hk)) wc.heap.size len5 (Nat.le_refl _) _ _ z5 rfl rfl (hz.ext ((Ext.refl _).step hgm (fun k hk => by cases hk))) _ hrow ?_; intro wk hEk hzk)
          | go_in)
        go_meet
        exact ⟨_, _, rfl, hzk, hEk⟩
  obtain ⟨p5, d5, rfl, v5, hE⟩ := hcut
  replace hX := hX.trans hE
  replace v2 := v2.ext hE
  replace v3 := v3.ext hE
  clear hE
  go_upto_if 79 with fail
  go_cut [6] from 78 to 86 (fun v wx => ∃ a c, v = .slice a len6 c ∧ IsInts .i64 wx a len6 c z6 ∧ Ext wc wx)
  case first =>
    as_aux_lemma =>
      have hz := w6.ext hX
      cases a6 with
      | none =>
        go_wp2
        go_meet
        exact ⟨_, _, rfl, hz, Ext.refl _⟩
      | some ad =>
        go_upto_region 19 with (first
          | (at_make; refine wpList_make_full _ rfl _ _ 23 rfl wc.heap.size 2 iv _ 1 Try.underlying23 hiv hzv hsv .i64 .i64 _ _ len6 rfl rfl rfl rfl (by rw [hbv]; omega) (by unfold maxLen; omega) (Nat.le_refl _) ?_; intro wm hrow hgm)
          | go_in)
        go_wp2_with (first
          | (refine wpList_copy_ints rfl _ _ rfl wc ((Ext.refl _).step hgm (fun k hk => by cases hk)) wc.heap.size len6 (Nat.le_refl _) _ _ z6 rfl rfl (hz.ext ((Ext.refl _).step hgm (fun k hk => by cases hk))) _ hrow ?_; intro wk hEk hzk)
          | go_in)
        go_meet
        exact ⟨_, _, rfl, hzk, hEk⟩
  obtain ⟨p6, d6, rfl, v6, hE⟩ := hcut
  replace hX := hX.trans hE
  replace v2 := v2.ext hE
  replace v3 := v3.ext hE
  replace v5 := v5.ext hE
  clear hE
  go_upto_if 88 with fail
  go_cut [7] from 87 to 95 (fun v wx => ∃ a c, v = .slice a len7 c ∧ IsStrs wx a len7 c z7 ∧ Ext wc wx)
  case first =>
    as_aux_lemma =>
      have hz := w7.ext hX
      cases a7 with
      | none =>
        go_wp2
        go_meet
        exact ⟨_, _, rfl, hz, Ext.refl _⟩
      | some ad =>
        go_upto_region 23 with (first
          | (at_make; refine wpList_make_full _ rfl _ _ 22 rfl wc.heap.size 9 is _ 1 Try.underlying22 his hzs hss .i64 .i64 _ _ len7 rfl rfl rfl rfl (by rw [hbs]; omega) (by unfold maxLen; omega) (Nat.le_refl _) ?_; intro wm hrow hgm)
          | go_in)
        go_wp2_with (first
          | (refine wpList_copy_strs rfl _ _ rfl wc ((Ext.refl _).step hgm (fun k hk => by cases hk)) wc.heap.size len7 (Nat.le_refl _) _ _ z7 rfl rfl (hz.ext ((Ext.refl _).step hgm (fun k hk => by cases hk))) _ hrow ?_; intro wk hEk hzk)
          | go_in)
        go_meet
        exact ⟨_, _, rfl, hzk, hEk⟩
  obtain ⟨p7, d7, rfl, v7, hE⟩ := hcut
  replace hX := hX.trans hE
  replace v2 := v2.ext hE
  replace v3 := v3.ext hE
  replace v5 := v5.ext hE
  replace v6 := v6.ext hE
  clear hE
  have u1 := w1.ext hX
  have u8 := w8.ext hX
  have u9 := w9.ext hX
  clear w1 w2 w3 w5 w6 w7 w8 w9
  go_wp2_with fail
  refine (props_any _ _ _ _ _ _ _ _ _ _ _ _ _ v2 v3 (isStrs_nil _) (by omega) (by omega)).mono ?_
  rintro e wp ⟨rfl, hM, hE⟩
  replace hX := hX.trans hE
  replace v2 := v2.ext hE
  replace v3 := v3.ext hE
  replace v5 := v5.ext hE
  replace v6 := v6.ext hE
  replace v7 := v7.ext hE
  replace u1 := u1.ext hE
  replace u8 := u8.ext hE
  replace u9 := u9.ext hE
  clear hE
  generalize wc.heap.size = bm at *
  go_wp2_with fail
  have hE : Ext wp (wp.alloc (.cells #[.int .i64 a0, .slice a1 len1 cap1, .map (some bm), .int .u64 0] 31)) := (Ext.refl _).alloc _
  have hN : IsNode (wp.alloc (.cells #[.int .i64 a0, .slice a1 len1 cap1, .map (some bm), .int .u64 0] 31)) wp.heap.size a0 a1 len1 cap1 bm 0 := ⟨by simp, by simp, by simp, by simp, ⟨_, heap_alloc_new _ _⟩⟩
  replace hX := hX.trans hE
  replace v2 := v2.ext hE
  replace v3 := v3.ext hE
  replace v5 := v5.ext hE
  replace v6 := v6.ext hE
  replace v7 := v7.ext hE
  replace u1 := u1.ext hE
  replace u8 := u8.ext hE
  replace u9 := u9.ext hE
  replace hM := hM.ext hE
  clear hE
  refine (props_any _ _ _ _ _ _ _ _ _ _ _ _ _ v5 v6 v7 (by omega) (by omega)).mono ?_
  rintro e wq ⟨rfl, hP, hE⟩
  replace hX := hX.trans hE
  replace v2 := v2.ext hE
  replace v3 := v3.ext hE
  replace v5 := v5.ext hE
  replace v6 := v6.ext hE
  replace v7 := v7.ext hE
  replace u1 := u1.ext hE
  replace u8 := u8.ext hE
  replace u9 := u9.ext hE
  replace hM := hM.ext hE
  replace hN := hN.ext hE
  clear hE
  rw [show (wp.alloc (.cells #[.int .i64 a0, .slice a1 len1 cap1, .map (some bm), .int .u64 0] 31)).heap.size = wp.heap.size + 1 from by simp] at hP ⊢
  generalize wp.heap.size + 1 = bp at *
  generalize wp.heap.size = bn at *
  go_wp2_with fail
  have hE : Ext wq (wq.alloc (.cells #[.bool a4, .map (some bp), .slice a8 len8 cap8, .slice a9 len9 cap9] 33)) := (Ext.refl _).alloc _
  replace hX := hX.trans hE
  replace v2 := v2.ext hE
  replace v3 := v3.ext hE
  replace v5 := v5.ext hE
  replace v6 := v6.ext hE
  replace v7 := v7.ext hE
  replace u1 := u1.ext hE
  replace u8 := u8.ext hE
  replace u9 := u9.ext hE
  replace hM := hM.ext hE
  replace hN := hN.ext hE
  replace hP := hP.ext hE
  clear hE
  refine (applyNode_any _ _ _ _ _ _ _ _ _ _ _ _ _ _ _ _ _ _ _ _ _ _ _ hP u8 u9 hN u1 hM (by omega) (by omega) (by omega) (by omega)).mono ?_
  rintro e wr ⟨b1, q1, e1, m1, rfl, hb1, hN1, hL1, hM1, hE⟩
  replace hX := hX.trans hE
  replace v2 := v2.ext hE
  replace v3 := v3.ext hE
  replace v5 := v5.ext hE
  replace v6 := v6.ext hE
  replace v7 := v7.ext hE
  replace u1 := u1.ext hE
  replace u8 := u8.ext hE
  replace u9 := u9.ext hE
  clear hE
  clear hM hN hP hb1
  have n0 := hN1.c0
  have n1 := hN1.c1
  go_wp2_with fail
  clear n0 n1
  refine (labels_any _ _ _ _ _ _ _ _ _ _ _ _ _ _ _ _ hL1 u1 u8 u9 (by omega) (by omega)).mono ?_
  rintro e ws ⟨rfl, hE⟩
  replace hX := hX.trans hE
  replace v2 := v2.ext hE
  replace v3 := v3.ext hE
  replace v5 := v5.ext hE
  replace v6 := v6.ext hE
  replace v7 := v7.ext hE
  replace u1 := u1.ext hE
  replace u8 := u8.ext hE
  replace u9 := u9.ext hE
  replace hN1 := hN1.ext hE
  replace hM1 := hM1.ext hE
  clear hE
  go_wp2_with fail
  refine (props12_any _ _ _ _ _ _ _ _ _ _ _ _ _ _ _ _ _ _ _ _ _ _ _ _ _ _ _ _ _ _ hN1 hM1 v2 v3 v5 v6 v7 (by omega) (by omega) (by omega)).mono ?_
  rintro e wt ⟨rfl, hE⟩
  go_wp2
  go_ret
  exact ⟨rfl, hX.trans hE⟩

end Go.Proofs.Qxb6612711a
