import Derived.Test.Qxb6612711aSpec
namespace Go.Proofs.Qxb6612711a
open Go.RowKit

set_option maxRecDepth 100000 in
set_option maxHeartbeats 2000000 in
theorem labels_any (aG : Option Addr) (nG cG : Nat) (aL : Option Addr) (nL cL : Nat) (ls : List ByteArray) (aA : Option Addr) (nA cA : Nat) (ad : List ByteArray) (aR : Option Addr) (nR cR : Nat) (rm : List ByteArray) (w : World)
    (hG : IsStrs w aG nG cG (newL ls ad rm)) (hL : IsStrs w aL nL cL ls) (hA : IsStrs w aA nA cA ad) (hR : IsStrs w aR nR cR rm) (b1 : nL ≤ 100000) (b2 : nA ≤ 100000) :
    Calls Try.prog 11 #[.slice aG nG cG, .slice aL nL cL, .slice aA nA cA, .slice aR nR cR] w fun e w' => e = .returned (.bool true) ∧ Ext w w' := by
  have lG := hG.length
  have lL := hL.length
  have lA := hA.length
  have HLen : Hid (nG = (keptL ls rm).length + (keptL ad ls).length) := by show _ = _; rw [← lG]; unfold newL; rw [List.length_append]
  go_enter Try.func11, Try.ntmps11
  go_wp2
  go_loop [9, 10] (fun v j => ∃ k : Nat, k ≤ nL ∧ j = .int .i64 k ∧ v = .int .i64 ((keptL (ls.take k) rm).length : Nat)) (fun _ j => nL - (intOf j).toNat)
  case atStart => exact ⟨0, Nat.zero_le _, rfl, rfl⟩
  case round =>
    obtain ⟨k, hk, rfl, rfl⟩ := hrel
    by_cases hlt : k < nL
    · obtain ⟨b, off, rfl, hcell⟩ := hL.at hlt
      have hkl := keptL_length ls rm k
      have HK1 := keptL_in (ls := ls) (rm := rm) (k := k) (by omega)
      have HK2 := keptL_out (ls := ls) (rm := rm) (k := k) (by omega)
      have HK1 : Hid (memB rm (nth ls k) = false → keptL (ls.take (k + 1)) rm = keptL (ls.take k) rm ++ [nth ls k]) := HK1
      have HK2 : Hid (memB rm (nth ls k) = true → keptL (ls.take (k + 1)) rm = keptL (ls.take k) rm) := HK2
      generalize nth ls k = s at *
      go_wp2_with fail
      refine (member_any _ _ _ _ _ _ hR).mono ?_
      rintro e w' ⟨rfl, hw⟩
      rw [hw]
      clear hw w'
      cases hb : memB rm s
      · have e := HK1.out hb
        go_wp2
        go_round
        case rel => exact ⟨k + 1, by omega, by go_num, by rw [e]; simp⟩
        case measure => simp [intOf]; omega
      · have e := HK2.out hb
        go_wp2
        go_round
        case rel => exact ⟨k + 1, by omega, by go_num, by rw [e]⟩
        case measure => simp [intOf]; omega
    have eL : ls.take k = ls := List.take_of_length_le (by omega)
    rw [eL]
    clear eL
    go_wp2
    go_loop [11, 12] (fun v j => ∃ k : Nat, k ≤ nA ∧ j = .int .i64 k ∧ v = .int .i64 ((keptL (ad.take k) ls).length : Nat)) (fun _ j => nA - (intOf j).toNat)
    case atStart => exact ⟨0, Nat.zero_le _, rfl, rfl⟩
    case round =>
      clear hk hlt
      obtain ⟨k, hk, rfl, rfl⟩ := hrel
      by_cases hlt : k < nA
      · obtain ⟨b, off, rfl, hcell⟩ := hA.at hlt
        have hkl := keptL_length ad ls k
        have HK1 := keptL_in (ls := ad) (rm := ls) (k := k) (by omega)
        have HK2 := keptL_out (ls := ad) (rm := ls) (k := k) (by omega)
        have HK1 : Hid (memB ls (nth ad k) = false → keptL (ad.take (k + 1)) ls = keptL (ad.take k) ls ++ [nth ad k]) := HK1
        have HK2 : Hid (memB ls (nth ad k) = true → keptL (ad.take (k + 1)) ls = keptL (ad.take k) ls) := HK2
        generalize nth ad k = s at *
        go_wp2_with fail
        refine (member_any _ _ _ _ _ _ hL).mono ?_
        rintro e w' ⟨rfl, hw⟩
        rw [hw]
        clear hw w'
        cases hb : memB ls s
        · have e := HK1.out hb
          go_wp2
          go_round
          case rel => exact ⟨k + 1, by omega, by go_num, by rw [e]; simp⟩
          case measure => simp [intOf]; omega
        · have e := HK2.out hb
          go_wp2
          go_round
          case rel => exact ⟨k + 1, by omega, by go_num, by rw [e]⟩
          case measure => simp [intOf]; omega
      have eL : ad.take k = ad := List.take_of_length_le (by omega)
      rw [eL]
      clear eL
      have q1 := keptL_le ls rm
      have q2 := keptL_le ad ls
      have hcl := hG.le
      have hnG := HLen.out
      have hs1 := hG.cutTo (m := (keptL ls rm).length) (by omega)
      have e1 : (newL ls ad rm).take (keptL ls rm).length = keptL ls rm := by unfold newL; simp
      have e2 : (newL ls ad rm).drop (keptL ls rm).length = keptL ad ls := by unfold newL; simp
      rw [e1] at hs1
      have hsub1 := keptL_sub ls rm
      have hsub2 := keptL_sub ad ls
      have hC1 : keptL ls rm = keptL ls rm → (keptL ls rm).length < cG → IsStrs w (Option.map (fun x => x.add (keptL ls rm).length) aG) (nG - (keptL ls rm).length) (cG - (keptL ls rm).length) (keptL ad ls) := fun _ hc => by
        have := hG.cutFrom (m := (keptL ls rm).length) (by omega) hc
        rw [e2] at this
        exact this
      have hC2 : keptL ls rm = keptL ls rm → ¬ (keptL ls rm).length < cG → IsStrs w aG (nG - (keptL ls rm).length) (cG - (keptL ls rm).length) (keptL ad ls) := fun _ hc => by
        have := hG.cutEnd (m := (keptL ls rm).length) (by omega) hc
        rw [e2] at this
        exact this
      have hne : ((nG : Int) == ((keptL ls rm).length : Int) + ((keptL ad ls).length : Int)) = true := by simp; omega
      have hmp : Option.map (fun x : Addr => x.add 0) aG = aG := by cases aG <;> simp [addr_add_zero]
      have hub : nG ≤ 200000 := by omega
      have huk : (keptL ls rm).length ≤ nG := by omega
      have hsubA : Hid ((keptL ls rm).Sublist ls) := hsub1
      have hsubB : Hid ((keptL ad ls).Sublist ad) := hsub2
      have HC1 : Hid ((keptL ls rm).length < cG → IsStrs w (Option.map (fun x => x.add (keptL ls rm).length) aG) (nG - (keptL ls rm).length) (cG - (keptL ls rm).length) (keptL ad ls)) := hC1 rfl
      have HC2 : Hid (¬ (keptL ls rm).length < cG → IsStrs w aG (nG - (keptL ls rm).length) (cG - (keptL ls rm).length) (keptL ad ls)) := hC2 rfl
      clear hC1 hC2 hsub1 hsub2 e1 e2 HLen hnG
      generalize keptL ls rm = KL at *
      generalize keptL ad ls = KA at *
      generalize KL.length = nk at *
      generalize KA.length = ng at *
      have lKL := hs1.length
      go_upto_region 15 with fail
      go_cut [64] from 45 to 64 (fun v wx => v = .bool false ∧ Ext w wx)
      case first =>
        by_cases hz2 : nk < cG
        · have hz : 0 < cG := by omega
          go_wp2_with fail
          refine (subseq_any _ _ _ _ _ _ _ _ _ hs1 hL hsubA.out (by omega)).mono ?_
          rintro e w1 ⟨rfl, hx1⟩
          go_wp2_with fail
          refine (subseq_any _ _ _ _ _ _ _ _ _ ((HC1.out hz2).ext hx1) (hA.ext hx1) hsubB.out (by omega)).mono ?_
          rintro e w2 ⟨rfl, hx2⟩
          go_wp2
          go_meet
          exact ⟨rfl, hx1.trans hx2⟩
        by_cases hz : 0 < cG
        · skip
          go_wp2_with fail
          refine (subseq_any _ _ _ _ _ _ _ _ _ hs1 hL hsubA.out (by omega)).mono ?_
          rintro e w1 ⟨rfl, hx1⟩
          go_wp2_with fail
          refine (subseq_any _ _ _ _ _ _ _ _ _ ((HC2.out hz2).ext hx1) (hA.ext hx1) hsubB.out (by omega)).mono ?_
          rintro e w2 ⟨rfl, hx2⟩
          go_wp2
          go_meet
          exact ⟨rfl, hx1.trans hx2⟩
        · skip
          go_wp2_with fail
          refine (subseq_any _ _ _ _ _ _ _ _ _ hs1 hL hsubA.out (by omega)).mono ?_
          rintro e w1 ⟨rfl, hx1⟩
          go_wp2_with fail
          refine (subseq_any _ _ _ _ _ _ _ _ _ ((HC2.out hz2).ext hx1) (hA.ext hx1) hsubB.out (by omega)).mono ?_
          rintro e w2 ⟨rfl, hx2⟩
          go_wp2
          go_meet
          exact ⟨rfl, hx1.trans hx2⟩
      obtain ⟨rfl, hx⟩ := hcut
      have g1 := hG.ext hx
      have g2 := hL.ext hx
      have g3 := hA.ext hx
      have g4 := hR.ext hx
      clear hG hL hA hR HC1 HC2 hsubA hsubB hs1 hne hmp
      have HW : Hid (∀ x, cnt (newL ls ad rm) x = wlc ls ad rm x) := fun x => cnt_newL ls ad rm x
      go_wp2
      generalize newL ls ad rm = NL at *
      go_loop [13] (fun j => ∃ k : Nat, k ≤ nG + nL + nA ∧ j = .int .i64 k) (fun j => nG + nL + nA - (intOf j).toNat)
      case atStart => exact ⟨0, Nat.zero_le _, rfl⟩
      case round =>
        clear hk hlt
        obtain ⟨k, hk, rfl⟩ := hrel
        by_cases hlt : k < nG + nL + nA
        · go_wp2_with fail
          refine (keyAt_any _ _ _ _ _ _ _ _ _ _ _ _ _ _ g1 g2 g3 (by omega) (by omega)).mono ?_
          rintro e w' ⟨rfl, hw⟩
          rw [hw]
          clear hw w'
          generalize nth (cat3 NL ls ad) k = s at *
          go_wp2_with fail
          refine (count_any _ _ _ _ _ _ g1).mono ?_
          rintro e w' ⟨rfl, hw⟩
          rw [hw]
          clear hw w'
          go_wp2_with fail
          refine (wantLabelCount_any _ _ _ _ _ _ _ _ _ _ _ _ _ _ g2 g3 g4 (by omega) (by omega)).mono ?_
          rintro e w' ⟨rfl, hw⟩
          rw [hw]
          clear hw w'
          rw [HW.out s]
          go_wp2
          go_round
          case rel => exact ⟨k + 1, by omega, by go_num⟩
          case measure => simp [intOf]; omega
        go_wp2
        go_ret
        exact ⟨rfl, hx⟩

end Go.Proofs.Qxb6612711a
