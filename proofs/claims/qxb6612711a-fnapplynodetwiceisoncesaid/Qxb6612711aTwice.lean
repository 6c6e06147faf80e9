import Derived.Test.Qxb6612711aLaws
import Derived.Test.Qxb6612711aRead3
import Derived.Test.Qxb6612711aFit
import Derived.Test.Qxb6612711aBytes13
namespace Go.Proofs.Qxb6612711a
open Go.RowKit

set_option maxRecDepth 100000 in
set_option maxHeartbeats 4000000 in
theorem twice_walk (a0 : Int) (a1 : Option Addr) (len1 cap1 : Nat) (z1 : List ByteArray) (a2 : Option Addr) (len2 cap2 : Nat) (z2 : List ByteArray) (a3 : Option Addr) (len3 cap3 : Nat) (z3 : List Int) (a4 : Bool) (a5 : Option Addr) (len5 cap5 : Nat) (z5 : List ByteArray) (a6 : Option Addr) (len6 cap6 : Nat) (z6 : List Int) (a7 : Option Addr) (len7 cap7 : Nat) (z7 : List ByteArray) (a8 : Option Addr) (len8 cap8 : Nat) (z8 : List ByteArray) (a9 : Option Addr) (len9 cap9 : Nat) (z9 : List ByteArray) (w : World) (_w0 : (Lit.int .i64 a0).wf = true) (w1 : IsStrs w a1 len1 cap1 z1) (w2 : IsStrs w a2 len2 cap2 z2) (w3 : IsInts .i64 w a3 len3 cap3 z3) (w5 : IsStrs w a5 len5 cap5 z5) (w6 : IsInts .i64 w a6 len6 cap6 z6) (w7 : IsStrs w a7 len7 cap7 z7) (w8 : IsStrs w a8 len8 cap8 z8) (w9 : IsStrs w a9 len9 cap9 z9) :
    Calls Try.prog 4 #[.int .i64 a0, .slice a1 len1 cap1, .slice a2 len2 cap2, .slice a3 len3 cap3, .bool a4, .slice a5 len5 cap5, .slice a6 len6 cap6, .slice a7 len7 cap7, .slice a8 len8 cap8, .slice a9 len9 cap9] w fun e w' => e = .returned (.bool true) ∧ Below w.heap.size w w' := by
  have hn22 := fun (w : World) (a : Option Addr) (n c : Nat) => run_neq_slice_nil_any (P := Try.prog) w 22 9 a n c 0 0 Try.underlying22
  have hn23 := fun (w : World) (a : Option Addr) (n c : Nat) => run_neq_slice_nil_any (P := Try.prog) w 23 2 a n c 0 0 Try.underlying23
  obtain ⟨is, his, hzs, hss, hbs⟩ := info_parts info9
  obtain ⟨iv, hiv, hzv, hsv, hbv⟩ := info_parts info2
  go_enter Try.func4, Try.ntmps4
  go_wp2_with fail
  refine (bytes13_any _ _ _ _ _ _ _ _ _ _ _ _ _ _ _ _ _ _ _ _ _ _ _ _ _ _ _ _ _ _ _ _ _ _ _ w1 w2 w3 w5 w6 w7 w8 w9).mono ?_
  rintro e wc ⟨⟨b, rfl⟩, hw⟩
  have hX : Ext w wc := by rw [hw]; exact Ext.refl _
  rw [hw]
  clear hX hw wc
  cases b
  · go_wp2
    go_ret
    exact ⟨rfl, Below.refl _ _⟩
  go_wp2_with fail
  refine (fitApply_any _ _ _ _ _ _ _ _ _ _ _ _ _ _ _ _ _ _ _ _ _ _ _ _ _ _ _ _ _ _ _ _ _ w1 w2 w3 w5 w6 w7 w8 w9).mono ?_
  rintro e wc ⟨⟨b, rfl, hb⟩, hw⟩
  rw [hw]
  clear hw wc
  cases b
  · go_wp2
    go_ret
    exact ⟨rfl, Below.refl _ _⟩
  obtain ⟨f1, f8, f9, f2, f3, f5, f6, f7⟩ := hb rfl
  clear hb
  go_wp2_with fail
  refine (disjoint_any _ _ _ _ _ _ _ _ _ w8 w9).mono ?_
  rintro e wc ⟨rfl, hw⟩
  rw [hw]
  clear hw wc
  obtain ⟨bd, hbd⟩ : ∃ bd, disB z8 z9 = bd := ⟨_, rfl⟩
  rw [hbd]
  have hdis := hbd
  cases bd
  · go_wp2
    go_ret
    exact ⟨rfl, Below.refl _ _⟩
  have HD : Hid (∀ s ∈ z8, s ∉ z9) := disB_iff.1 hdis
  clear hdis hbd
  obtain ⟨wc, hwc⟩ : ∃ wc, wc = w := ⟨_, rfl⟩
  have hX : Ext w wc := by rw [hwc]; exact Ext.refl _
  rw [← hwc]
  clear hwc
  go_upto_if 75 with fail
  go_cut [2] from 74 to 82 (fun v wx => ∃ a c, v = .slice a len2 c ∧ IsStrs wx a len2 c z2 ∧ Ext wc wx)
  case first =>
    as_aux_lemma =>
      have hz := w2.ext hX
      cases a2 with
      | none =>
        go_wp2
        go_meet
        exact ⟨_, _, rfl, hz, Ext.refl _⟩
      | some ad =>
        go_upto_region 9 with (first
          | (at_make; refine wpList_make_full _ rfl _ _ 22 rfl wc.heap.size 9 is _ 1 Try.underlying22 his hzs hss .i64 .i64 _ _ len2 rfl rfl rfl rfl (by rw [hbs]; omega) (by unfold maxLen; omega) (Nat.le_refl _) ?_; intro wm hrow hgm)
          | go_in)
        go_wp2_with (first
          | (refine wpList_copy_strs rfl _ _ rfl wc ((Ext.refl _).step hgm (fun k hk => by cases hk)) wc.heap.size len2 (Nat.le_refl _) _ _ z2 rfl rfl (hz.ext ((Ext.refl _).step hgm (fun k hk => by cases hk))) _ hrow ?_; intro wk hEk hzk)
          | go_in)
        go_meet
        exact ⟨_, _, rfl, hzk, hEk⟩
  obtain ⟨p2, d2, rfl, v2, hE⟩ := hcut
  replace hX := hX.trans hE
  clear hE
  go_upto_if 84 with fail
  go_cut [3] from 83 to 91 (fun v wx => ∃ a c, v = .slice a len3 c ∧ IsInts .i64 wx a len3 c z3 ∧ Ext wc wx)
  case first =>
    as_aux_lemma =>
      have hz := w3.ext hX
      cases a3 with
      | none =>
        go_wp2
        go_meet
        exact ⟨_, _, rfl, hz, Ext.refl _⟩
      | some ad =>
        go_upto_region 13 with (first
          | (at_make; refine wpList_make_full _ rfl _ _ 23 rfl wc.heap.size 2 iv _ 1 Try.underlying23 hiv hzv hsv .i64 .i64 _ _ len3 rfl rfl rfl rfl (by rw [hbv]; omega) (by unfold maxLen; omega) (Nat.le_refl _) ?_; intro wm hrow hgm)
          | go_in)
        go_wp2_with (first
          | (refine wpList_copy_ints rfl _ _ rfl wc ((Ext.refl _).step hgm (fun k hk => by cases hk)) wc.heap.size len3 (Nat.le_refl _) _ _ z3 rfl rfl (hz.ext ((Ext.refl _).step hgm (fun k hk => by cases hk))) _ hrow ?_; intro wk hEk hzk)
          | go_in)
        go_meet
        exact ⟨_, _, rfl, hzk, hEk⟩
  obtain ⟨p3, d3, rfl, v3, hE⟩ := hcut
  replace hX := hX.trans hE
  replace v2 := v2.ext hE
  clear hE
  go_upto_if 93 with fail
  go_cut [5] from 92 to 100 (fun v wx => ∃ a c, v = .slice a len5 c ∧ IsStrs wx a len5 c z5 ∧ Ext wc wx)
  case first =>
    as_aux_lemma =>
      have hz := w5.ext hX
      cases a5 with
      | none =>
        go_wp2
        go_meet
        exact ⟨_, _, rfl, hz, Ext.refl _⟩
      | some ad =>
        go_upto_region 17 with (first
          | (at_make; refine wpList_make_full _ rfl _ _ 22 rfl wc.heap.size 9 is _ 1 Try.underlying22 his hzs hss .i64 .i64 _ _ len5 rfl rfl rfl rfl (by rw [hbs]; omega) (by unfold maxLen; omega) (Nat.le_refl _) ?_; intro wm hrow hgm)
          | go_in)
        go_wp2_with (first
          | (refine wpList_copy_strs rfl _ _ rfl wc ((Ext.refl _).step hgm (fun k hk => by cases hk)) wc.heap.size len5 (Nat.le_refl _) _ _ z5 rfl rfl (hz.ext ((Ext.refl _).step hgm (fun k hk => by cases hk))) _ hrow ?_; intro wk hEk hzk)
          | go_in)
        go_meet
        exact ⟨_, _, rfl, hzk, hEk⟩
  obtain ⟨p5, d5, rfl, v5, hE⟩ := hcut
  replace hX := hX.trans hE
  replace v2 := v2.ext hE
  replace v3 := v3.ext hE
  clear hE
  go_upto_if 102 with fail
  go_cut [6] from 101 to 109 (fun v wx => ∃ a c, v = .slice a len6 c ∧ IsInts .i64 wx a len6 c z6 ∧ Ext wc wx)
  case first =>
    as_aux_lemma =>
      have hz := w6.ext hX
      cases a6 with
      | none =>
        go_wp2
        go_meet
        exact ⟨_, _, rfl, hz, Ext.refl _⟩
      | some ad =>
        go_upto_region 21 with (first
          | (at_make; refine wpList_make_full _ rfl _ _ 23 rfl wc.heap.size 2 iv _ 1 Try.underlying23 hiv hzv hsv .i64 .i64 _ _ len6 rfl rfl rfl rfl (by rw [hbv]; omega) (by unfold maxLen; omega) (Nat.le_refl _) ?_; intro wm hrow hgm)
          | go_in)
        go_wp2_with (first
          | (refine wpList_copy_ints rfl _ _ rfl wc ((Ext.refl _).step hgm (fun k hk => by cases hk)) wc.heap.size len6 (Nat.le_refl _) _ _ z6 rfl rfl (hz.ext ((Ext.refl _).step hgm (fun k hk => by cases hk))) _ hrow ?_; intro wk hEk hzk)
          | go_in)
        go_meet
        exact ⟨_, _, rfl, hzk, hEk⟩
  obtain ⟨p6, d6, rfl, v6, hE⟩ := hcut
  replace hX := hX.trans hE
  replace v2 := v2.ext hE
  replace v3 := v3.ext hE
  replace v5 := v5.ext hE
  clear hE
  go_upto_if 111 with fail
  go_cut [7] from 110 to 118 (fun v wx => ∃ a c, v = .slice a len7 c ∧ IsStrs wx a len7 c z7 ∧ Ext wc wx)
  case first =>
    as_aux_lemma =>
      have hz := w7.ext hX
      cases a7 with
      | none =>
        go_wp2
        go_meet
        exact ⟨_, _, rfl, hz, Ext.refl _⟩
      | some ad =>
        go_upto_region 25 with (first
          | (at_make; refine wpList_make_full _ rfl _ _ 22 rfl wc.heap.size 9 is _ 1 Try.underlying22 his hzs hss .i64 .i64 _ _ len7 rfl rfl rfl rfl (by rw [hbs]; omega) (by unfold maxLen; omega) (Nat.le_refl _) ?_; intro wm hrow hgm)
          | go_in)
        go_wp2_with (first
          | (refine wpList_copy_strs rfl _ _ rfl wc ((Ext.refl _).step hgm (fun k hk => by cases hk)) wc.heap.size len7 (Nat.le_refl _) _ _ z7 rfl rfl (hz.ext ((Ext.refl _).step hgm (fun k hk => by cases hk))) _ hrow ?_; intro wk hEk hzk)
          | go_in)
        go_meet
        exact ⟨_, _, rfl, hzk, hEk⟩
  obtain ⟨p7, d7, rfl, v7, hE⟩ := hcut
  replace hX := hX.trans hE
  replace v2 := v2.ext hE
  replace v3 := v3.ext hE
  replace v5 := v5.ext hE
  replace v6 := v6.ext hE
  clear hE
  have u1 := w1.ext hX
  have u8 := w8.ext hX
  have u9 := w9.ext hX
  clear w1 w2 w3 w5 w6 w7 w8 w9
  go_wp2_with fail
  refine (props_any _ _ _ _ _ _ _ _ _ _ _ _ _ v2 v3 (isStrs_nil _) (by omega) (by omega)).mono ?_
  rintro e wp ⟨rfl, hM, hE⟩
  replace hX := hX.trans hE
  replace v2 := v2.ext hE
  replace v3 := v3.ext hE
  replace v5 := v5.ext hE
  replace v6 := v6.ext hE
  replace v7 := v7.ext hE
  replace u1 := u1.ext hE
  replace u8 := u8.ext hE
  replace u9 := u9.ext hE
  clear hE
  generalize wc.heap.size = bm at *
  go_wp2_with fail
  have hE : Ext wp (wp.alloc (.cells #[.int .i64 a0, .slice a1 len1 cap1, .map (some bm), .int .u64 0] 31)) := (Ext.refl _).alloc _
  have hN : IsNode (wp.alloc (.cells #[.int .i64 a0, .slice a1 len1 cap1, .map (some bm), .int .u64 0] 31)) wp.heap.size a0 a1 len1 cap1 bm 0 := ⟨by simp, by simp, by simp, by simp, ⟨_, heap_alloc_new _ _⟩⟩
  replace hX := hX.trans hE
  replace v2 := v2.ext hE
  replace v3 := v3.ext hE
  replace v5 := v5.ext hE
  replace v6 := v6.ext hE
  replace v7 := v7.ext hE
  replace u1 := u1.ext hE
  replace u8 := u8.ext hE
  replace u9 := u9.ext hE
  replace hM := hM.ext hE
  clear hE
  refine (props_any _ _ _ _ _ _ _ _ _ _ _ _ _ v5 v6 v7 (by omega) (by omega)).mono ?_
  rintro e wq ⟨rfl, hP, hE⟩
  replace hX := hX.trans hE
  replace v2 := v2.ext hE
  replace v3 := v3.ext hE
  replace v5 := v5.ext hE
  replace v6 := v6.ext hE
  replace v7 := v7.ext hE
  replace u1 := u1.ext hE
  replace u8 := u8.ext hE
  replace u9 := u9.ext hE
  replace hM := hM.ext hE
  replace hN := hN.ext hE
  clear hE
  rw [show (wp.alloc (.cells #[.int .i64 a0, .slice a1 len1 cap1, .map (some bm), .int .u64 0] 31)).heap.size = wp.heap.size + 1 from by simp] at hP ⊢
  generalize wp.heap.size + 1 = bp at *
  generalize wp.heap.size = bn at *
  clear wp wc
  go_wp2_with fail
  have hE : Ext wq (wq.alloc (.cells #[.bool a4, .map (some bp), .slice a8 len8 cap8, .slice a9 len9 cap9] 33)) := (Ext.refl _).alloc _
  have hC : IsChg (wq.alloc (.cells #[.bool a4, .map (some bp), .slice a8 len8 cap8, .slice a9 len9 cap9] 33)) wq.heap.size a4 bp (.slice a8 len8 cap8) (.slice a9 len9 cap9) := ⟨by simp, by simp, by simp, by simp⟩
  replace hX := hX.trans hE
  replace v2 := v2.ext hE
  replace v3 := v3.ext hE
  replace v5 := v5.ext hE
  replace v6 := v6.ext hE
  replace v7 := v7.ext hE
  replace u1 := u1.ext hE
  replace u8 := u8.ext hE
  replace u9 := u9.ext hE
  replace hM := hM.ext hE
  replace hN := hN.ext hE
  replace hP := hP.ext hE
  clear hE
  refine (applyNode_any _ _ _ _ _ _ _ _ _ _ _ _ _ _ _ _ _ _ _ _ _ _ _ hP u8 u9 hN u1 hM (by omega) (by omega) (by omega) (by omega)).mono ?_
  rintro e wr ⟨b1, q1, e1, m1, rfl, hb1, hN1, hL1, hM1, hE⟩
  replace hX := hX.trans hE
  replace v2 := v2.ext hE
  replace v3 := v3.ext hE
  replace v5 := v5.ext hE
  replace v6 := v6.ext hE
  replace v7 := v7.ext hE
  replace u1 := u1.ext hE
  replace u8 := u8.ext hE
  replace u9 := u9.ext hE
  replace hP := hP.ext hE
  replace hC := hC.ext hE
  clear hE
  generalize wq.heap.size = bc at *
  clear hM hN hb1
  have c0 := hC.c0
  have c1 := hC.c1
  have c2 := hC.c2
  have c3 := hC.c3
  clear wq
  go_wp2_with fail
  have hll := newL_length z1 z8 z9
  have l1 := u1.length
  have l8 := u8.length
  rw [l1, l8] at hll
  refine (applyNode_any _ _ _ _ _ _ _ _ _ _ _ _ _ _ _ _ _ _ _ _ _ _ _ hP u8 u9 hN1 hL1 hM1 (by omega) (by omega) (by omega) (by omega)).mono ?_
  rintro e ws ⟨b2, q2, e2, m2, rfl, hb2, hN2, hL2, hM2, hE⟩
  rw [newL_twice HD.out] at hN2 hL2
  rw [chg_twice] at hM2
  replace hX := hX.trans hE
  replace v2 := v2.ext hE
  replace v3 := v3.ext hE
  replace v5 := v5.ext hE
  replace v6 := v6.ext hE
  replace v7 := v7.ext hE
  replace u1 := u1.ext hE
  replace u8 := u8.ext hE
  replace u9 := u9.ext hE
  replace hN1 := hN1.ext hE
  replace hL1 := hL1.ext hE
  replace hM1 := hM1.ext hE
  clear hE
  clear hb2 hP hC c0 c1 c2 c3 l1 l8 wr
  have HA : Hid (∀ s ∈ z8, memB (newL z1 z8 z9) s = true) := fun s hs => memB_iff.2 (newL_add HD.out hs)
  have HR : Hid (∀ s ∈ z9, memB (newL z1 z8 z9) s = false) := fun s hs => memB_false.2 (newL_rem HD.out hs)
  have HC1 : Hid (∀ i, i < z5.length → i < z6.length → memB z7 (nth z5 i) = false → flat (chg a4 (pmk (prs z2 z3) []) (pmk (prs z5 z6) z7) (nth z5 i)) = lv (prs z5 z6) (nth z5 i) ∧ hasB (lv (prs z5 z6) (nth z5 i)) = true) := fun i h1 h2 hd => chg_set h1 h2 hd
  have HC2 : Hid (∀ s ∈ z7, flat (chg a4 (pmk (prs z2 z3) []) (pmk (prs z5 z6) z7) s) = none) := fun s hs => chg_del hs
  generalize chg a4 (pmk (prs z2 z3) []) (pmk (prs z5 z6) z7) = C at *
  generalize newL z1 z8 z9 = L at *
  clear HD
  have n10 := hN1.c0
  have n20 := hN2.c0
  have n11 := hN1.c1
  have n21 := hN2.c1
  go_wp2_with fail
  go_quiet ((go_at_call 15; exact Calls.quiet_of (equal_any _ _ _ _ _ _ _ _ (hL1.ext (Ext.drewN _ _)) (hL2.ext (Ext.drewN _ _)))))
  have hE : Ext ws (ws.drewN nq) := Ext.drewN _ _
  clear n10 n20 n11 n21
  replace hX := hX.trans hE
  replace v2 := v2.ext hE
  replace v3 := v3.ext hE
  replace v5 := v5.ext hE
  replace v6 := v6.ext hE
  replace v7 := v7.ext hE
  replace u1 := u1.ext hE
  replace u8 := u8.ext hE
  replace u9 := u9.ext hE
  replace hN1 := hN1.ext hE
  replace hN2 := hN2.ext hE
  replace hL1 := hL1.ext hE
  replace hM1 := hM1.ext hE
  replace hM2 := hM2.ext hE
  clear hE
  generalize ws.drewN nq = wt at *
  clear ws hL2
  have m8 := u8.length
  have m9 := u9.length
  go_wp2_with fail
  go_loopw [30] (fun i wr => ∃ k : Nat, k ≤ len8 ∧ i = .int .i64 k ∧ Ext wt wr) (fun i _ => len8 - (intOf i).toNat)
  case atStart => exact ⟨0, Nat.zero_le _, rfl, Ext.refl _⟩
  case round =>
    obtain ⟨k, hk, rfl, hx⟩ := hrel
    by_cases hlt : k < len8
    · obtain ⟨b, off, rfl, hcell⟩ := (u8.ext hx).at hlt
      have n11 := hx.cell hN1.c1
      have hmem := HA.out (nth z8 k) (nth_mem (by omega))
      generalize nth z8 k = s at *
      go_wp2_with fail
      go_quiet ((go_at_call 16; exact Calls.quiet_of_same (member_any _ _ _ _ _ _ ((hL1.ext hx).ext (Ext.drewN _ _)))))
      go_wp2
      go_roundw
      case rel => exact ⟨k + 1, by omega, by go_num, hx.trans (Ext.drewN _ _)⟩
      case measure => simp [intOf]; omega
    go_wp2_with fail
    have hE := hx
    clear hx hk hlt
    replace hX := hX.trans hE
    replace v2 := v2.ext hE
    replace v3 := v3.ext hE
    replace v5 := v5.ext hE
    replace v6 := v6.ext hE
    replace v7 := v7.ext hE
    replace u1 := u1.ext hE
    replace u8 := u8.ext hE
    replace u9 := u9.ext hE
    replace hN1 := hN1.ext hE
    replace hN2 := hN2.ext hE
    replace hL1 := hL1.ext hE
    replace hM1 := hM1.ext hE
    replace hM2 := hM2.ext hE
    clear hE HA
    generalize wr = wt1 at *
    go_loopw [31] (fun i wr => ∃ k : Nat, k ≤ len9 ∧ i = .int .i64 k ∧ Ext wt1 wr) (fun i _ => len9 - (intOf i).toNat)
    case atStart => exact ⟨0, Nat.zero_le _, rfl, Ext.refl _⟩
    case round =>
      obtain ⟨k, hk, rfl, hx⟩ := hrel
      by_cases hlt : k < len9
      · obtain ⟨b, off, rfl, hcell⟩ := (u9.ext hx).at hlt
        have n11 := hx.cell hN1.c1
        have hmem := HR.out (nth z9 k) (nth_mem (by omega))
        generalize nth z9 k = s at *
        go_wp2_with fail
        go_quiet ((go_at_call 16; exact Calls.quiet_of_same (member_any _ _ _ _ _ _ ((hL1.ext hx).ext (Ext.drewN _ _)))))
        rw [hmem]
        go_wp2
        go_roundw
        case rel => exact ⟨k + 1, by omega, by go_num, hx.trans (Ext.drewN _ _)⟩
        case measure => simp [intOf]; omega
      go_wp2_with (go_at_call 17; refine (min_any _ _ _).mono ?_; rintro e w' ⟨rfl, hw⟩; rw [hw]; clear hw w')
      have hE := hx
      clear hx hk hlt
      replace hX := hX.trans hE
      replace v2 := v2.ext hE
      replace v3 := v3.ext hE
      replace v5 := v5.ext hE
      replace v6 := v6.ext hE
      replace v7 := v7.ext hE
      replace u1 := u1.ext hE
      replace u8 := u8.ext hE
      replace u9 := u9.ext hE
      replace hN1 := hN1.ext hE
      replace hN2 := hN2.ext hE
      replace hL1 := hL1.ext hE
      replace hM1 := hM1.ext hE
      replace hM2 := hM2.ext hE
      clear hE HR
      have m2 := v2.length
      have m5 := v5.length
      have m7 := v7.length
      have hnp1 : min len2 len3 ≤ len2 := Nat.min_le_left _ _
      have hns1 : min len5 len6 ≤ len5 := Nat.min_le_left _ _
      have hns2 : min len5 len6 ≤ len6 := Nat.min_le_right _ _
      generalize min len2 len3 = np at *
      generalize min len5 len6 = ns at *
      have s2 := v2.cutTo hnp1
      have s5 := v5.cutTo hns1
      have e2 := v2.le
      have e5 := v5.le
      generalize wr = wt2 at *
      go_loopw [34] (fun i wr => ∃ k : Nat, k ≤ np + ns + len7 ∧ i = .int .i64 k ∧ Ext wt2 wr) (fun i _ => np + ns + len7 - (intOf i).toNat)
      case atStart => exact ⟨0, Nat.zero_le _, rfl, Ext.refl _⟩
      case round =>
        obtain ⟨k, hk, rfl, hx⟩ := hrel
        by_cases hlt : k < np + ns + len7
        · have n12 := hx.cell hN1.c2
          have n22 := hx.cell hN2.c2
          have hsn := nth_size (ss := cat3 (z2.take np) (z5.take ns) z7) (fun s hs => by
            rcases cat3_mem.1 hs with h | h | h
            · exact s2.sizes s h
            · exact s5.sizes s h
            · exact v7.sizes s h) k
          go_wp2_with fail
          go_cut [35] from 219 to 227 (fun v wx => v = .string (nth (cat3 (z2.take np) (z5.take ns) z7) k) ∧ Ext wr wx)
          case first =>
            have hm2 : Option.map (fun x : Addr => x.add 0) p2 = p2 := by cases p2 <;> simp [addr_add_zero]
            have hm5 : Option.map (fun x : Addr => x.add 0) p5 = p5 := by cases p5 <;> simp [addr_add_zero]
            by_cases h2z : 0 < d2
            all_goals by_cases h5z : 0 < d5
            all_goals
              go_quiet ((go_at_call 18; exact Calls.quiet_of_same (keyAt_any _ _ _ _ _ _ _ _ _ _ _ _ _ _ (s2.ext (hx.trans (Ext.drewN _ _))) (s5.ext (hx.trans (Ext.drewN _ _))) (v7.ext (hx.trans (Ext.drewN _ _))) hlt (by omega))))
              go_wp2
              go_meet
              exact ⟨rfl, Ext.drewN _ _⟩
          obtain ⟨rfl, hy⟩ := hcut
          have hy2 := hx.trans hy
          clear hx hy n12 n22
          have n12 := hy2.cell hN1.c2
          have n22 := hy2.cell hN2.c2
          generalize nth (cat3 (z2.take np) (z5.take ns) z7) k = s at *
          go_wp2_with fail
          refine (propInt_any _ _ _ _ _ (hM1.ext hy2) hsn).mono ?_
          rintro e w' ⟨rfl, hw⟩
          rw [hw]
          clear hw w'
          go_wp2_with fail
          refine (propInt_any _ _ _ _ _ (hM2.ext hy2) hsn).mono ?_
          rintro e w' ⟨rfl, hw⟩
          rw [hw]
          clear hw w'
          go_wp2
          go_roundw
          case rel => exact ⟨k + 1, by omega, by go_num, hy2⟩
          case measure => simp [intOf]; omega
        have n12 := hx.cell hN1.c2
        have n22 := hx.cell hN2.c2
        obtain ⟨kc, hkc, -, -⟩ := hM1.sized
        have hln1 := (hM1.ext hx).lenN hkc
        have hln2 := (hM2.ext hx).lenN hkc
        go_wp2_with fail
        go_quiet (fail)
        have hE := hx.trans (Ext.drewN wr nq)
        clear hx hk hlt n12 n22 hln1 hln2 hkc s2 s5 e2 e5 hnp1
        replace hX := hX.trans hE
        replace v5 := v5.ext hE
        replace v6 := v6.ext hE
        replace v7 := v7.ext hE
        replace hN1 := hN1.ext hE
        replace hM1 := hM1.ext hE
        clear hE
        generalize wr.drewN nq = wt3 at *
        clear v2 v3 u1 u8 u9 hN2 hL1 hM2
        go_wp2_with fail
        have m6 := v6.length
        go_loopw [40] (fun i wr => ∃ k : Nat, k ≤ ns ∧ i = .int .i64 k ∧ Ext wt3 wr) (fun i _ => ns - (intOf i).toNat)
        case atStart => exact ⟨0, Nat.zero_le _, rfl, Ext.refl _⟩
        case round =>
          obtain ⟨k, hk, rfl, hx⟩ := hrel
          by_cases hlt : k < ns
          · obtain ⟨b, off, rfl, hcell⟩ := (v5.ext hx).at (k := k) (by omega)
            have n12 := hx.cell hN1.c2
            have hsn := nth_size v5.sizes k
            have HK := HC1.out k (by omega) (by omega)
            have HK : Hid (memB z7 (nth z5 k) = false → flat (C (nth z5 k)) = lv (prs z5 z6) (nth z5 k) ∧ hasB (lv (prs z5 z6) (nth z5 k)) = true) := HK
            have hpm := hM1.ext hx
            generalize nth z5 k = s at *
            go_wp2_with fail
            refine (member_any _ _ _ _ _ _ (v7.ext hx)).mono ?_
            rintro e w' ⟨rfl, hw⟩
            rw [hw]
            clear hw w'
            cases hb : memB z7 s
            · obtain ⟨k1, k2⟩ := HK.out hb
              go_wp2_with fail
              refine (lastVal_any _ _ _ _ _ _ _ _ _ _ (v5.ext hx) (v6.ext hx)).mono ?_
              rintro e w' ⟨rfl, hw⟩
              rw [hw]
              clear hw w'
              go_wp2_with fail
              go_quiet ((go_at_call 19; exact Calls.quiet_of_same (propInt_any _ _ _ _ _ (hpm.ext (Ext.drewN _ _)) hsn)))
              rw [k1, k2]
              go_wp2
              go_roundw
              case rel => exact ⟨k + 1, by omega, by go_num, hx.trans (Ext.drewN _ _)⟩
              case measure => simp [intOf]; omega
            · go_wp2
              go_roundw
              case rel => exact ⟨k + 1, by omega, by go_num, hx⟩
              case measure => simp [intOf]; omega
          go_wp2_with fail
          have hE := hx
          clear hx hk hlt
          replace hX := hX.trans hE
          replace v7 := v7.ext hE
          replace hN1 := hN1.ext hE
          replace hM1 := hM1.ext hE
          clear hE
          clear v5 v6 HC1
          generalize wr = wt4 at *
          go_loopw [45] (fun i wr => ∃ k : Nat, k ≤ len7 ∧ i = .int .i64 k ∧ Ext wt4 wr) (fun i _ => len7 - (intOf i).toNat)
          case atStart => exact ⟨0, Nat.zero_le _, rfl, Ext.refl _⟩
          case round =>
            obtain ⟨k, hk, rfl, hx⟩ := hrel
            by_cases hlt : k < len7
            · obtain ⟨b, off, rfl, hcell⟩ := (v7.ext hx).at hlt
              have n12 := hx.cell hN1.c2
              have hsn := nth_size v7.sizes k
              have HK := HC2.out (nth z7 k) (nth_mem (by omega))
              have HK : Hid (flat (C (nth z7 k)) = none) := HK
              have hpm := hM1.ext hx
              generalize nth z7 k = s at *
              go_wp2_with fail
              go_quiet ((go_at_call 19; exact Calls.quiet_of_same (propInt_any _ _ _ _ _ (hpm.ext (Ext.drewN _ _)) hsn)))
              rw [HK.out]
              go_wp2
              go_roundw
              case rel => exact ⟨k + 1, by omega, by go_num, hx.trans (Ext.drewN _ _)⟩
              case measure => simp [intOf]; omega
            go_wp2
            go_ret
            exact ⟨rfl, hX.trans hx⟩

end Go.Proofs.Qxb6612711a
