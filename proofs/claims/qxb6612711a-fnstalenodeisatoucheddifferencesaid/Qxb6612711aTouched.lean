import Derived.Test.Qxb6612711aLaws2
import Derived.Test.Qxb6612711aRead3
import Derived.Test.Qxb6612711aFit2
import Derived.Test.Qxb6612711aBytes21
namespace Go.Proofs.Qxb6612711a
open Go.RowKit

set_option maxRecDepth 100000 in
set_option maxHeartbeats 4000000 in
theorem touched_walk (a0 : Option Addr) (len0 cap0 : Nat) (z0 : List ByteArray) (a1 : Option Addr) (len1 cap1 : Nat) (z1 : List ByteArray) (a2 : Option Addr) (len2 cap2 : Nat) (z2 : List Int) (a3 : Option Addr) (len3 cap3 : Nat) (z3 : List ByteArray) (a4 : Option Addr) (len4 cap4 : Nat) (z4 : List ByteArray) (a5 : Option Addr) (len5 cap5 : Nat) (z5 : List Int) (a6 : Bool) (a7 : Option Addr) (len7 cap7 : Nat) (z7 : List ByteArray) (a8 : Option Addr) (len8 cap8 : Nat) (z8 : List Int) (a9 : Option Addr) (len9 cap9 : Nat) (z9 : List ByteArray) (a10 : Option Addr) (len10 cap10 : Nat) (z10 : List ByteArray) (a11 : Option Addr) (len11 cap11 : Nat) (z11 : List ByteArray) (w : World) (w0 : IsStrs w a0 len0 cap0 z0) (w1 : IsStrs w a1 len1 cap1 z1) (w2 : IsInts .i64 w a2 len2 cap2 z2) (w3 : IsStrs w a3 len3 cap3 z3) (w4 : IsStrs w a4 len4 cap4 z4) (w5 : IsInts .i64 w a5 len5 cap5 z5) (w7 : IsStrs w a7 len7 cap7 z7) (w8 : IsInts .i64 w a8 len8 cap8 z8) (w9 : IsStrs w a9 len9 cap9 z9) (w10 : IsStrs w a10 len10 cap10 z10) (w11 : IsStrs w a11 len11 cap11 z11) :
    Calls Try.prog 5 #[.slice a0 len0 cap0, .slice a1 len1 cap1, .slice a2 len2 cap2, .slice a3 len3 cap3, .slice a4 len4 cap4, .slice a5 len5 cap5, .bool a6, .slice a7 len7 cap7, .slice a8 len8 cap8, .slice a9 len9 cap9, .slice a10 len10 cap10, .slice a11 len11 cap11] w fun e w' => e = .returned (.bool true) ∧ Below w.heap.size w w' := by
  have hn22 := fun (w : World) (a : Option Addr) (n c : Nat) => run_neq_slice_nil_any (P := Try.prog) w 22 9 a n c 0 0 Try.underlying22
  have hn23 := fun (w : World) (a : Option Addr) (n c : Nat) => run_neq_slice_nil_any (P := Try.prog) w 23 2 a n c 0 0 Try.underlying23
  obtain ⟨is, his, hzs, hss, hbs⟩ := info_parts info9
  obtain ⟨iv, hiv, hzv, hsv, hbv⟩ := info_parts info2
  go_enter Try.func5, Try.ntmps5
  go_wp2_with fail
  refine (bytes21_any _ _ _ _ _ _ _ _ _ _ _ _ _ _ _ _ _ _ _ _ _ _ _ _ _ _ _ _ _ _ _ _ _ _ _ _ _ _ _ _ _ _ _ _ _ _ w0 w1 w2 w3 w4 w5 w7 w8 w9 w10 w11).mono ?_
  rintro e wc ⟨⟨b, rfl⟩, hw⟩
  rw [hw]
  clear hw wc
  cases b
  · go_wp2
    go_ret
    exact ⟨rfl, Below.refl _ _⟩
  go_wp2_with fail
  refine (fitStale_any _ _ _ _ _ _ _ _ _ _ _ _ _ _ _ _ _ _ _ _ _ _ _ _ _ _ _ _ _ _ _ _ _ _ _ _ _ _ _ _ _ _ _ _ _ w0 w1 w2 w3 w4 w5 w7 w8 w9 w10 w11).mono ?_
  rintro e wc ⟨⟨b, rfl, hb⟩, hw⟩
  rw [hw]
  clear hw wc
  cases b
  · go_wp2
    go_ret
    exact ⟨rfl, Below.refl _ _⟩
  obtain ⟨f0, f3, f10, f11, f1, f2, f4, f5, f7, f8, f9⟩ := hb rfl
  clear hb
  obtain ⟨wc, hwc⟩ : ∃ wc, wc = w := ⟨_, rfl⟩
  have hX : Ext w wc := by rw [hwc]; exact Ext.refl _
  rw [← hwc]
  clear hwc
  go_upto_if 74 with fail
  go_cut [1] from 73 to 81 (fun v wx => ∃ a c, v = .slice a len1 c ∧ IsStrs wx a len1 c z1 ∧ Ext wc wx)
  case first =>
    as_aux_lemma =>
      have hz := w1.ext hX
      cases a1 with
      | none =>
        go_wp2
        go_meet
        exact ⟨_, _, rfl, hz, Ext.refl _⟩
      | some ad =>
        go_upto_region 7 with (first
          | (at_make; refine wpList_make_full _ rfl _ _ 22 rfl wc.heap.size 9 is _ 1 Try.underlying22 his hzs hss .i64 .i64 _ _ len1 rfl rfl rfl rfl (by rw [hbs]; omega) (by unfold maxLen; omega) (Nat.le_refl _) ?_; intro wm hrow hgm)
          | go_in)
        go_wp2_with (first
          | (refine wpList_copy_strs rfl _ _ rfl wc ((Ext.refl _).step hgm (fun k hk => by cases hk)) wc.heap.size len1 (Nat.le_refl _) _ _ z1 rfl rfl (hz.ext ((Ext.refl _).step hgm (fun k hk => by cases hk))) _ hrow ?_; intro wk hEk hzk)
          | go_in)
        go_meet
        exact ⟨_, _, rfl, hzk, hEk⟩
  obtain ⟨p1, d1, rfl, v1, hE⟩ := hcut
  replace hX := hX.trans hE
  clear hE
  go_upto_if 83 with fail
  go_cut [2] from 82 to 90 (fun v wx => ∃ a c, v = .slice a len2 c ∧ IsInts .i64 wx a len2 c z2 ∧ Ext wc wx)
  case first =>
    as_aux_lemma =>
      have hz := w2.ext hX
      cases a2 with
      | none =>
        go_wp2
        go_meet
        exact ⟨_, _, rfl, hz, Ext.refl _⟩
      | some ad =>
        go_upto_region 11 with (first
          | (at_make; refine wpList_make_full _ rfl _ _ 23 rfl wc.heap.size 2 iv _ 1 Try.underlying23 hiv hzv hsv .i64 .i64 _ _ len2 rfl rfl rfl rfl (by rw [hbv]; omega) (by unfold maxLen; omega) (Nat.le_refl _) ?_; intro wm hrow hgm)
          | go_in)
        go_wp2_with (first
          | (refine wpList_copy_ints rfl _ _ rfl wc ((Ext.refl _).step hgm (fun k hk => by cases hk)) wc.heap.size len2 (Nat.le_refl _) _ _ z2 rfl rfl (hz.ext ((Ext.refl _).step hgm (fun k hk => by cases hk))) _ hrow ?_; intro wk hEk hzk)
          | go_in)
        go_meet
        exact ⟨_, _, rfl, hzk, hEk⟩
  obtain ⟨p2, d2, rfl, v2, hE⟩ := hcut
  replace hX := hX.trans hE
  replace v1 := v1.ext hE
  clear hE
  go_upto_if 92 with fail
  go_cut [4] from 91 to 99 (fun v wx => ∃ a c, v = .slice a len4 c ∧ IsStrs wx a len4 c z4 ∧ Ext wc wx)
  case first =>
    as_aux_lemma =>
      have hz := w4.ext hX
      cases a4 with
      | none =>
        go_wp2
        go_meet
        exact ⟨_, _, rfl, hz, Ext.refl _⟩
      | some ad =>
        go_upto_region 15 with (first
          | (at_make; refine wpList_make_full _ rfl _ _ 22 rfl wc.heap.size 9 is _ 1 Try.underlying22 his hzs hss .i64 .i64 _ _ len4 rfl rfl rfl rfl (by rw [hbs]; omega) (by unfold maxLen; omega) (Nat.le_refl _) ?_; intro wm hrow hgm)
          | go_in)
        go_wp2_with (first
          | (refine wpList_copy_strs rfl _ _ rfl wc ((Ext.refl _).step hgm (fun k hk => by cases hk)) wc.heap.size len4 (Nat.le_refl _) _ _ z4 rfl rfl (hz.ext ((Ext.refl _).step hgm (fun k hk => by cases hk))) _ hrow ?_; intro wk hEk hzk)
          | go_in)
        go_meet
        exact ⟨_, _, rfl, hzk, hEk⟩
  obtain ⟨p4, d4, rfl, v4, hE⟩ := hcut
  replace hX := hX.trans hE
  replace v1 := v1.ext hE
  replace v2 := v2.ext hE
  clear hE
  go_upto_if 101 with fail
  go_cut [5] from 100 to 108 (fun v wx => ∃ a c, v = .slice a len5 c ∧ IsInts .i64 wx a len5 c z5 ∧ Ext wc wx)
  case first =>
    as_aux_lemma =>
      have hz := w5.ext hX
      cases a5 with
      | none =>
        go_wp2
        go_meet
        exact ⟨_, _, rfl, hz, Ext.refl _⟩
      | some ad =>
        go_upto_region 19 with (first
          | (at_make; refine wpList_make_full _ rfl _ _ 23 rfl wc.heap.size 2 iv _ 1 Try.underlying23 hiv hzv hsv .i64 .i64 _ _ len5 rfl rfl rfl rfl (by rw [hbv]; omega) (by unfold maxLen; omega) (Nat.le_refl _) ?_; intro wm hrow hgm)
          | go_in)
        go_wp2_with (first
          | (refine wpList_copy_ints rfl _ _ rfl wc ((Ext.refl _).step hgm (fun k hk => by cases hk)) wc.heap.size len5 (Nat.le_refl _) _ _ z5 rfl rfl (hz.ext ((Ext.refl _).step hgm (fun k hk => by cases hk))) _ hrow ?_; intro wk hEk hzk)
          | go_in)
        go_meet
        exact ⟨_, _, rfl, hzk, hEk⟩
  obtain ⟨p5, d5, rfl, v5, hE⟩ := hcut
  replace hX := hX.trans hE
  replace v1 := v1.ext hE
  replace v2 := v2.ext hE
  replace v4 := v4.ext hE
  clear hE
  go_upto_if 110 with fail
  go_cut [7] from 109 to 117 (fun v wx => ∃ a c, v = .slice a len7 c ∧ IsStrs wx a len7 c z7 ∧ Ext wc wx)
  case first =>
    as_aux_lemma =>
      have hz := w7.ext hX
      cases a7 with
      | none =>
        go_wp2
        go_meet
        exact ⟨_, _, rfl, hz, Ext.refl _⟩
      | some ad =>
        go_upto_region 23 with (first
          | (at_make; refine wpList_make_full _ rfl _ _ 22 rfl wc.heap.size 9 is _ 1 Try.underlying22 his hzs hss .i64 .i64 _ _ len7 rfl rfl rfl rfl (by rw [hbs]; omega) (by unfold maxLen; omega) (Nat.le_refl _) ?_; intro wm hrow hgm)
          | go_in)
        go_wp2_with (first
          | (refine wpList_copy_strs rfl _ _ rfl wc ((Ext.refl _).step hgm (fun k hk => by cases hk)) wc.heap.size len7 (Nat.le_refl _) _ _ z7 rfl rfl (hz.ext ((Ext.refl _).step hgm (fun k hk => by cases hk))) _ hrow ?_; intro wk hEk hzk)
          | go_in)
        go_meet
        exact ⟨_, _, rfl, hzk, hEk⟩
  obtain ⟨p7, d7, rfl, v7, hE⟩ := hcut
  replace hX := hX.trans hE
  replace v1 := v1.ext hE
  replace v2 := v2.ext hE
  replace v4 := v4.ext hE
  replace v5 := v5.ext hE
  clear hE
  go_upto_if 119 with fail
  go_cut [8] from 118 to 126 (fun v wx => ∃ a c, v = .slice a len8 c ∧ IsInts .i64 wx a len8 c z8 ∧ Ext wc wx)
  case first =>
    as_aux_lemma =>
      have hz := w8.ext hX
      cases a8 with
      | none =>
        go_wp2
        go_meet
        exact ⟨_, _, rfl, hz, Ext.refl _⟩
      | some ad =>
        go_upto_region 27 with (first
          | (at_make; refine wpList_make_full _ rfl _ _ 23 rfl wc.heap.size 2 iv _ 1 Try.underlying23 hiv hzv hsv .i64 .i64 _ _ len8 rfl rfl rfl rfl (by rw [hbv]; omega) (by unfold maxLen; omega) (Nat.le_refl _) ?_; intro wm hrow hgm)
          | go_in)
        go_wp2_with (first
          | (refine wpList_copy_ints rfl _ _ rfl wc ((Ext.refl _).step hgm (fun k hk => by cases hk)) wc.heap.size len8 (Nat.le_refl _) _ _ z8 rfl rfl (hz.ext ((Ext.refl _).step hgm (fun k hk => by cases hk))) _ hrow ?_; intro wk hEk hzk)
          | go_in)
        go_meet
        exact ⟨_, _, rfl, hzk, hEk⟩
  obtain ⟨p8, d8, rfl, v8, hE⟩ := hcut
  replace hX := hX.trans hE
  replace v1 := v1.ext hE
  replace v2 := v2.ext hE
  replace v4 := v4.ext hE
  replace v5 := v5.ext hE
  replace v7 := v7.ext hE
  clear hE
  go_upto_if 128 with fail
  go_cut [9] from 127 to 135 (fun v wx => ∃ a c, v = .slice a len9 c ∧ IsStrs wx a len9 c z9 ∧ Ext wc wx)
  case first =>
    as_aux_lemma =>
      have hz := w9.ext hX
      cases a9 with
      | none =>
        go_wp2
        go_meet
        exact ⟨_, _, rfl, hz, Ext.refl _⟩
      | some ad =>
        go_upto_region 31 with (first
          | (at_make; refine wpList_make_full _ rfl _ _ 22 rfl wc.heap.size 9 is _ 1 Try.underlying22 his hzs hss .i64 .i64 _ _ len9 rfl rfl rfl rfl (by rw [hbs]; omega) (by unfold maxLen; omega) (Nat.le_refl _) ?_; intro wm hrow hgm)
          | go_in)
        go_wp2_with (first
          | (refine wpList_copy_strs rfl _ _ rfl wc ((Ext.refl _).step hgm (fun k hk => by cases hk)) wc.heap.size len9 (Nat.le_refl _) _ _ z9 rfl rfl (hz.ext ((Ext.refl _).step hgm (fun k hk => by cases hk))) _ hrow ?_; intro wk hEk hzk)
          | go_in)
        go_meet
        exact ⟨_, _, rfl, hzk, hEk⟩
  obtain ⟨p9, d9, rfl, v9, hE⟩ := hcut
  replace hX := hX.trans hE
  replace v1 := v1.ext hE
  replace v2 := v2.ext hE
  replace v4 := v4.ext hE
  replace v5 := v5.ext hE
  replace v7 := v7.ext hE
  replace v8 := v8.ext hE
  clear hE
  have u0 := w0.ext hX
  have u3 := w3.ext hX
  have u10 := w10.ext hX
  have u11 := w11.ext hX
  clear w0 w1 w2 w3 w4 w5 w7 w8 w9 w10 w11
  go_wp2_with fail
  refine (props_any _ _ _ _ _ _ _ _ _ _ _ _ _ v1 v2 (isStrs_nil _) (by omega) (by omega)).mono ?_
  rintro e wp ⟨rfl, hA, hE⟩
  replace hX := hX.trans hE
  replace v1 := v1.ext hE
  replace v2 := v2.ext hE
  replace v4 := v4.ext hE
  replace v5 := v5.ext hE
  replace v7 := v7.ext hE
  replace v8 := v8.ext hE
  replace v9 := v9.ext hE
  replace u0 := u0.ext hE
  replace u3 := u3.ext hE
  replace u10 := u10.ext hE
  replace u11 := u11.ext hE
  clear hE
  generalize wc.heap.size = ba at *
  go_wp2_with fail
  have hE : Ext wp (wp.alloc (.cells #[.int .i64 0, .slice a0 len0 cap0, .map (some ba), .int .u64 0] 31)) := (Ext.refl _).alloc _
  have hN1 : IsNode (wp.alloc (.cells #[.int .i64 0, .slice a0 len0 cap0, .map (some ba), .int .u64 0] 31)) wp.heap.size 0 a0 len0 cap0 ba 0 := ⟨by simp, by simp, by simp, by simp, ⟨_, heap_alloc_new _ _⟩⟩
  replace hX := hX.trans hE
  replace v1 := v1.ext hE
  replace v2 := v2.ext hE
  replace v4 := v4.ext hE
  replace v5 := v5.ext hE
  replace v7 := v7.ext hE
  replace v8 := v8.ext hE
  replace v9 := v9.ext hE
  replace u0 := u0.ext hE
  replace u3 := u3.ext hE
  replace u10 := u10.ext hE
  replace u11 := u11.ext hE
  replace hA := hA.ext hE
  clear hE
  refine (props_any _ _ _ _ _ _ _ _ _ _ _ _ _ v4 v5 (isStrs_nil _) (by omega) (by omega)).mono ?_
  rintro e wq ⟨rfl, hB, hE⟩
  replace hX := hX.trans hE
  replace v1 := v1.ext hE
  replace v2 := v2.ext hE
  replace v4 := v4.ext hE
  replace v5 := v5.ext hE
  replace v7 := v7.ext hE
  replace v8 := v8.ext hE
  replace v9 := v9.ext hE
  replace u0 := u0.ext hE
  replace u3 := u3.ext hE
  replace u10 := u10.ext hE
  replace u11 := u11.ext hE
  replace hA := hA.ext hE
  replace hN1 := hN1.ext hE
  clear hE
  rw [show (wp.alloc (.cells #[.int .i64 0, .slice a0 len0 cap0, .map (some ba), .int .u64 0] 31)).heap.size = wp.heap.size + 1 from by simp] at hB ⊢
  have hlt1 : wp.heap.size < wq.heap.size := by
    obtain ⟨cs, hcs⟩ := hN1.blk
    exact (Array.getElem?_eq_some_iff.1 hcs).1
  generalize wp.heap.size + 1 = bb at *
  generalize wp.heap.size = n1 at *
  go_wp2_with fail
  have hE : Ext wq (wq.alloc (.cells #[.int .i64 0, .slice a3 len3 cap3, .map (some bb), .int .u64 0] 31)) := (Ext.refl _).alloc _
  have hN2 : IsNode (wq.alloc (.cells #[.int .i64 0, .slice a3 len3 cap3, .map (some bb), .int .u64 0] 31)) wq.heap.size 0 a3 len3 cap3 bb 0 := ⟨by simp, by simp, by simp, by simp, ⟨_, heap_alloc_new _ _⟩⟩
  replace hX := hX.trans hE
  replace v1 := v1.ext hE
  replace v2 := v2.ext hE
  replace v4 := v4.ext hE
  replace v5 := v5.ext hE
  replace v7 := v7.ext hE
  replace v8 := v8.ext hE
  replace v9 := v9.ext hE
  replace u0 := u0.ext hE
  replace u3 := u3.ext hE
  replace u10 := u10.ext hE
  replace u11 := u11.ext hE
  replace hA := hA.ext hE
  replace hN1 := hN1.ext hE
  replace hB := hB.ext hE
  clear hE
  refine (props_any _ _ _ _ _ _ _ _ _ _ _ _ _ v7 v8 v9 (by omega) (by omega)).mono ?_
  rintro e wr ⟨rfl, hP, hE⟩
  replace hX := hX.trans hE
  replace v1 := v1.ext hE
  replace v2 := v2.ext hE
  replace v4 := v4.ext hE
  replace v5 := v5.ext hE
  replace v7 := v7.ext hE
  replace v8 := v8.ext hE
  replace v9 := v9.ext hE
  replace u0 := u0.ext hE
  replace u3 := u3.ext hE
  replace u10 := u10.ext hE
  replace u11 := u11.ext hE
  replace hA := hA.ext hE
  replace hN1 := hN1.ext hE
  replace hB := hB.ext hE
  replace hN2 := hN2.ext hE
  clear hE
  rw [show (wq.alloc (.cells #[.int .i64 0, .slice a3 len3 cap3, .map (some bb), .int .u64 0] 31)).heap.size = wq.heap.size + 1 from by simp] at hP ⊢
  have hne12 : n1 ≠ wq.heap.size := by omega
  generalize wq.heap.size + 1 = bp at *
  generalize wq.heap.size = n2 at *
  clear hlt1
  go_wp2_with fail
  have hE : Ext wr (wr.alloc (.cells #[.bool a6, .map (some bp), .slice a10 len10 cap10, .slice a11 len11 cap11] 33)) := (Ext.refl _).alloc _
  have hC := box_cells wr a6 bp (.slice a10 len10 cap10) (.slice a11 len11 cap11)
  replace hX := hX.trans hE
  replace v1 := v1.ext hE
  replace v2 := v2.ext hE
  replace v4 := v4.ext hE
  replace v5 := v5.ext hE
  replace v7 := v7.ext hE
  replace v8 := v8.ext hE
  replace v9 := v9.ext hE
  replace u0 := u0.ext hE
  replace u3 := u3.ext hE
  replace u10 := u10.ext hE
  replace u11 := u11.ext hE
  replace hA := hA.ext hE
  replace hN1 := hN1.ext hE
  replace hB := hB.ext hE
  replace hN2 := hN2.ext hE
  replace hP := hP.ext hE
  clear hE
  have hn21 : n2 ≠ n1 := fun e => hne12 e.symm
  refine (staleNode_any _ _ _ _ _ _ _ _ _ _ _ _ _ _ _ _ _ _ _ _ _ _ _ _ _ _ _ _ _ _ _ _ _ hne12 hP u10 u11 hN1 u0 hA hN2 u3 hB (by omega) (by omega)).mono ?_
  rintro e ws ⟨⟨g, rfl, hg⟩, hE⟩
  have HG : Hid (g = true ↔ StaleL z0 z3 z10 z11 ∨ StaleP a6 (pmk (prs z1 z2) []) (pmk (prs z4 z5) []) (pmk (prs z7 z8) z9)) := hg
  clear hg
  replace hX := hX.trans hE
  replace v1 := v1.ext hE
  replace v2 := v2.ext hE
  replace v4 := v4.ext hE
  replace v5 := v5.ext hE
  replace v7 := v7.ext hE
  replace v8 := v8.ext hE
  replace v9 := v9.ext hE
  replace u0 := u0.ext hE
  replace u3 := u3.ext hE
  replace u10 := u10.ext hE
  replace u11 := u11.ext hE
  replace hA := hA.ext hE
  replace hN1 := hN1.ext hE
  replace hB := hB.ext hE
  replace hN2 := hN2.ext hE
  replace hP := hP.ext hE
  replace hC := hC.ext hE
  clear hE
  generalize wr.heap.size = bc at *
  have c0 := hC.c0
  have c1 := hC.c1
  have c2 := hC.c2
  have c3 := hC.c3
  go_wp2_with fail
  clear c0 c1 c2 c3
  refine (staleNode_any _ _ _ _ _ _ _ _ _ _ _ _ _ _ _ _ _ _ _ _ _ _ _ _ _ _ _ _ _ _ _ _ _ hn21 hP u10 u11 hN2 u3 hB hN1 u0 hA (by omega) (by omega)).mono ?_
  rintro e wt ⟨⟨h, rfl, hh⟩, hE⟩
  have HH : Hid (h = true ↔ StaleL z3 z0 z10 z11 ∨ StaleP a6 (pmk (prs z4 z5) []) (pmk (prs z1 z2) []) (pmk (prs z7 z8) z9)) := hh
  clear hh
  replace hX := hX.trans hE
  replace v1 := v1.ext hE
  replace v2 := v2.ext hE
  replace v4 := v4.ext hE
  replace v5 := v5.ext hE
  replace v7 := v7.ext hE
  replace v8 := v8.ext hE
  replace v9 := v9.ext hE
  replace u0 := u0.ext hE
  replace u3 := u3.ext hE
  replace u10 := u10.ext hE
  replace u11 := u11.ext hE
  replace hC := hC.ext hE
  clear hE
  clear hA hB hN1 hN2 hP hne12 hn21
  have c0 := hC.c0
  have c1 := hC.c1
  have c2 := hC.c2
  have c3 := hC.c3
  go_wp2_with fail
  clear c0 c1 c2 c3
  refine (staleNode_self _ _ _ _ _ _ rfl _).mono ?_
  rintro e wv ⟨rfl, hE⟩
  replace hX := hX.trans hE
  replace v1 := v1.ext hE
  replace v2 := v2.ext hE
  replace v4 := v4.ext hE
  replace v5 := v5.ext hE
  replace v7 := v7.ext hE
  replace v8 := v8.ext hE
  replace v9 := v9.ext hE
  replace u0 := u0.ext hE
  replace u3 := u3.ext hE
  replace u10 := u10.ext hE
  replace u11 := u11.ext hE
  clear hE
  clear hC
  go_wp2_with fail
  have m10 := u10.length
  have m11 := u11.length
  go_loop [38, 39] (fun s i => ∃ k : Nat, k ≤ len10 + len11 ∧ i = .int .i64 k ∧ s = .bool (stL z0 z3 (cat3 z10 z11 []) k)) (fun _ i => len10 + len11 - (intOf i).toNat)
  case atStart => exact ⟨0, Nat.zero_le _, rfl, rfl⟩
  case round =>
    obtain ⟨k, hk, rfl, rfl⟩ := hrel
    by_cases hlt : k < len10 + len11
    · have HS : Hid (stL z0 z3 (cat3 z10 z11 []) (k + 1) = (stL z0 z3 (cat3 z10 z11 []) k || (memB z0 (nth (cat3 z10 z11 []) k) != memB z3 (nth (cat3 z10 z11 []) k)))) := stL_succ _ _ _ _
      go_wp2_with fail
      refine (keyAt_any _ _ _ _ _ _ _ _ _ _ _ _ _ _ u10 u11 (isStrs_nil _) (by omega) (by omega)).mono ?_
      rintro e w' ⟨rfl, hw⟩
      rw [hw]
      clear hw w'
      generalize nth (cat3 z10 z11 []) k = s at *
      go_wp2_with fail
      refine (member_any _ _ _ _ _ _ u0).mono ?_
      rintro e w' ⟨rfl, hw⟩
      rw [hw]
      clear hw w'
      go_wp2_with fail
      refine (member_any _ _ _ _ _ _ u3).mono ?_
      rintro e w' ⟨rfl, hw⟩
      rw [hw]
      clear hw w'
      cases hm1 : memB z0 s <;> cases hm2 : memB z3 s
      all_goals
        rw [hm1, hm2] at HS
        go_wp2
        go_round
        case rel => exact ⟨k + 1, by omega, by go_num, by rw [HS.out]; simp⟩
        case measure => simp [intOf]; omega
    obtain rfl : k = len10 + len11 := by omega
    have HS1 : Hid (stL z0 z3 (cat3 z10 z11 []) (len10 + len11) = true ↔ StaleL z0 z3 z10 z11) := staleL_any (by omega)
    generalize stL z0 z3 (cat3 z10 z11 []) (len10 + len11) = s1 at *
    have m1 := v1.length
    have m2 := v2.length
    have m4 := v4.length
    have m5 := v5.length
    have m7 := v7.length
    have m8 := v8.length
    have m9 := v9.length
    cases a6
    · have HL : Hid (stP (prs z1 z2) (prs z4 z5) (cat3 (z7.take (min len7 len8)) z9 []) (min len7 len8 + len9) = true ↔ StaleP false (pmk (prs z1 z2) []) (pmk (prs z4 z5) []) (pmk (prs z7 z8) z9)) := by
        have := stale_keep (k1 := z1) (k2 := z4) (v1 := z2) (v2 := z5) (ks := z7) (vs := z8) (ds := z9) (n := min len7 len8 + len9) (by omega)
        rw [m7, m8] at this
        exact this
      go_wp2_with (go_at_call 17; refine (min_any _ _ _).mono ?_; rintro e w' ⟨rfl, hw⟩; rw [hw]; clear hw w')
      have hns : min len7 len8 ≤ len7 := Nat.min_le_left _ _
      generalize min len1 len2 = rn at *
      generalize min len4 len5 = nn at *
      generalize min len7 len8 = ns at *
      have s7 := v7.cutTo hns
      have e7 := v7.le
      go_loopw [38, 45] (fun s i wr => ∃ k : Nat, k ≤ ns + len9 ∧ i = .int .i64 k ∧ s = .bool (orB s1 (stP (prs z1 z2) (prs z4 z5) (cat3 (z7.take ns) z9 []) k)) ∧ Ext wv wr) (fun _ i _ => ns + len9 - (intOf i).toNat)
      case atStart => exact ⟨0, Nat.zero_le _, rfl, by rw [stP_zero, orB_false], Ext.refl _⟩
      case round =>
        obtain ⟨k, hk, rfl, rfl, hx⟩ := hrel
        by_cases hlt : k < ns + len9
        · have HS : Hid (stP (prs z1 z2) (prs z4 z5) (cat3 (z7.take ns) z9 []) (k + 1) = (stP (prs z1 z2) (prs z4 z5) (cat3 (z7.take ns) z9 []) k || difB (lv (prs z1 z2) (nth (cat3 (z7.take ns) z9 []) k)) (lv (prs z4 z5) (nth (cat3 (z7.take ns) z9 []) k)))) := stP_succ _ _ _ _
          generalize stP (prs z1 z2) (prs z4 z5) (cat3 (z7.take ns) z9 []) k = sk at *
          have hm7 : Option.map (fun x : Addr => x.add 0) p7 = p7 := by cases p7 <;> simp [addr_add_zero]
          by_cases hz7 : 0 < d7
          all_goals
            go_wp2_with fail
            refine (keyAt_any _ _ _ _ _ _ _ _ _ _ _ _ _ _ (s7.ext hx) (v9.ext hx) (isStrs_nil _) (by omega) (by omega)).mono ?_
            rintro e w' ⟨rfl, hw⟩
            rw [hw]
            clear hw w'
            generalize nth (cat3 (z7.take ns) z9 []) k = s at *
            go_wp2_with fail
            refine (propDiffer_any _ _ _ _ _ _ _ _ _ _ _ _ _ _ _ _ _ _ (v1.ext hx) (v2.ext hx) (v4.ext hx) (v5.ext hx)).mono ?_
            rintro e w' ⟨rfl, hw⟩
            rw [hw]
            clear hw w'
            cases hd : difB (lv (prs z1 z2) s) (lv (prs z4 z5) s)
            all_goals
              rw [hd] at HS
              go_wp2
              go_roundw
              case rel => exact ⟨k + 1, by omega, by go_num, by rw [HS.out]; cases s1 <;> cases sk <;> rfl, hx⟩
              case measure => simp [intOf]; omega
        obtain rfl : k = ns + len9 := by omega
        obtain ⟨r1, r2⟩ := bools_agree HG.out HH.out staleL_swap staleP_swap HS1.out HL.out
        rw [r1, r2]
        generalize orB s1 (stP (prs z1 z2) (prs z4 z5) (cat3 (z7.take ns) z9 []) (ns + len9)) = sB at *
        clear HG HH HS1 HL r1 r2
        cases sB
        all_goals
          go_wp2
          go_ret
          exact ⟨rfl, hX.trans hx⟩
    · have HL : Hid (stP (prs z1 z2) (prs z4 z5) (cat3 (z1.take (min len1 len2)) (z4.take (min len4 len5)) []) (min len1 len2 + min len4 len5) = true ↔ StaleP true (pmk (prs z1 z2) []) (pmk (prs z4 z5) []) (pmk (prs z7 z8) z9)) := by
        have := stale_repl (k1 := z1) (k2 := z4) (v1 := z2) (v2 := z5) (P := pmk (prs z7 z8) z9) (n := min len1 len2 + min len4 len5) (by omega)
        rw [m1, m2, m4, m5] at this
        exact this
      go_wp2_with (go_at_call 17; refine (min_any _ _ _).mono ?_; rintro e w' ⟨rfl, hw⟩; rw [hw]; clear hw w')
      have hrn : min len1 len2 ≤ len1 := Nat.min_le_left _ _
      have hnn : min len4 len5 ≤ len4 := Nat.min_le_left _ _
      generalize min len1 len2 = rn at *
      generalize min len4 len5 = nn at *
      generalize min len7 len8 = ns at *
      have s1' := v1.cutTo hrn
      have s4' := v4.cutTo hnn
      have e1' := v1.le
      have e4' := v4.le
      go_loopw [38, 44] (fun s i wr => ∃ k : Nat, k ≤ rn + nn ∧ i = .int .i64 k ∧ s = .bool (orB s1 (stP (prs z1 z2) (prs z4 z5) (cat3 (z1.take rn) (z4.take nn) []) k)) ∧ Ext wv wr) (fun _ i _ => rn + nn - (intOf i).toNat)
      case atStart => exact ⟨0, Nat.zero_le _, rfl, by rw [stP_zero, orB_false], Ext.refl _⟩
      case round =>
        obtain ⟨k, hk, rfl, rfl, hx⟩ := hrel
        by_cases hlt : k < rn + nn
        · have HS : Hid (stP (prs z1 z2) (prs z4 z5) (cat3 (z1.take rn) (z4.take nn) []) (k + 1) = (stP (prs z1 z2) (prs z4 z5) (cat3 (z1.take rn) (z4.take nn) []) k || difB (lv (prs z1 z2) (nth (cat3 (z1.take rn) (z4.take nn) []) k)) (lv (prs z4 z5) (nth (cat3 (z1.take rn) (z4.take nn) []) k)))) := stP_succ _ _ _ _
          generalize stP (prs z1 z2) (prs z4 z5) (cat3 (z1.take rn) (z4.take nn) []) k = sk at *
          go_wp2_with fail
          go_cut [223] from 211 to 223 (fun v wx => v = .bool (difB (lv (prs z1 z2) (nth (cat3 (z1.take rn) (z4.take nn) []) k)) (lv (prs z4 z5) (nth (cat3 (z1.take rn) (z4.take nn) []) k))) ∧ Ext wr wx)
          case first =>
            have hm1 : Option.map (fun x : Addr => x.add 0) p1 = p1 := by cases p1 <;> simp [addr_add_zero]
            have hm4 : Option.map (fun x : Addr => x.add 0) p4 = p4 := by cases p4 <;> simp [addr_add_zero]
            have e1 := s1'.ext hx
            have e4 := s4'.ext hx
            have y1 := v1.ext hx
            have y2 := v2.ext hx
            have y4 := v4.ext hx
            have y5 := v5.ext hx
            by_cases h1z : 0 < d1
            all_goals by_cases h4z : 0 < d4
            all_goals
              go_quiet (first
                | (go_at_call 18; exact Calls.quiet_of_same (keyAt_any _ _ _ _ _ _ _ _ _ _ _ _ _ _ (e1.ext (Ext.drewN _ _)) (e4.ext (Ext.drewN _ _)) (isStrs_nil _) (by omega) (by omega)))
                | (go_at_call 24; exact Calls.quiet_of_same (propDiffer_any _ _ _ _ _ _ _ _ _ _ _ _ _ _ _ _ _ _ (y1.ext (Ext.drewN _ _)) (y2.ext (Ext.drewN _ _)) (y4.ext (Ext.drewN _ _)) (y5.ext (Ext.drewN _ _)))))
              go_wp2
              go_meet
              exact ⟨rfl, Ext.drewN _ _⟩
          obtain ⟨rfl, hy⟩ := hcut
          generalize nth (cat3 (z1.take rn) (z4.take nn) []) k = s at *
          cases hd : difB (lv (prs z1 z2) s) (lv (prs z4 z5) s)
          all_goals
            rw [hd] at HS
            go_wp2
            go_roundw
            case rel => exact ⟨k + 1, by omega, by go_num, by rw [HS.out]; cases s1 <;> cases sk <;> rfl, hx.trans hy⟩
            case measure => simp [intOf]; omega
        obtain rfl : k = rn + nn := by omega
        obtain ⟨r1, r2⟩ := bools_agree HG.out HH.out staleL_swap staleP_swap HS1.out HL.out
        rw [r1, r2]
        generalize orB s1 (stP (prs z1 z2) (prs z4 z5) (cat3 (z1.take rn) (z4.take nn) []) (rn + nn)) = sB at *
        clear HG HH HS1 HL r1 r2
        cases sB
        all_goals
          go_wp2
          go_ret
          exact ⟨rfl, hX.trans hx⟩

end Go.Proofs.Qxb6612711a
