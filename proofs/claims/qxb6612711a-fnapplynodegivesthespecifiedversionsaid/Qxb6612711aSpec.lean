import Derived.Test.Qxb6612711aSpecLaws
import Derived.Test.Qxb6612711aRead3
namespace Go.Proofs.Qxb6612711a
open Go.RowKit

set_option maxRecDepth 100000 in
set_option maxHeartbeats 1000000 in
theorem subseq_any (a : Option Addr) (n c : Nat) (sub : List ByteArray) (a' : Option Addr) (n' c' : Nat) (of : List ByteArray) (w : World) (h : IsStrs w a n c sub) (h' : IsStrs w a' n' c' of) (hs : sub.Sublist of) (b1 : n' ≤ 1048576) :
    Calls Try.prog 32 #[.slice a n c, .slice a' n' c'] w fun e w' => e = .returned (.bool true) ∧ Ext w w' := by
  have hm := h.len_le
  have hl := h.length
  have hl' := h'.length
  have H0 : Hid ((sub.drop 0).Sublist (of.drop 0)) := by simpa [Hid] using hs
  go_enter Try.func32, Try.ntmps32
  go_wp2
  go_loopw [5, 6] (fun vj vi wr => ∃ i j : Nat, i ≤ n ∧ j ≤ n' ∧ vi = .int .i64 i ∧ vj = .int .i64 j ∧ Ext w wr ∧ Hid ((sub.drop i).Sublist (of.drop j))) (fun _ vi _ => n - (intOf vi).toNat)
  case atStart => exact ⟨0, 0, Nat.zero_le _, Nat.zero_le _, rfl, rfl, Ext.refl _, H0⟩
  case round =>
    obtain ⟨i, j, hi, hj, rfl, rfl, hx, HS⟩ := hrel
    by_cases hlt : i < n
    · go_wp2_with fail
      go_loopw [5] (fun vj wr2 => ∃ j : Nat, j ≤ n' ∧ vj = .int .i64 j ∧ Ext w wr2 ∧ Hid ((sub.drop i).Sublist (of.drop j))) (fun vj _ => n' - (intOf vj).toNat)
      case atStart => exact ⟨j, hj, rfl, hx, HS⟩
      case round =>
        clear HS hj
        obtain ⟨k, hk, rfl, hy, HK⟩ := hrel
        have hkn : k < n' := by have := sub_lt (sub := sub) (of := of) (i := i) (j := k) (by omega) HK.out; omega
        obtain ⟨b, off, rfl, hcell⟩ := (h.ext hy).at hlt
        obtain ⟨b', off', rfl, hcell'⟩ := (h'.ext hy).at hkn
        have HA := sub_skip (sub := sub) (of := of) (i := i) (j := k) (by omega) HK.out
        have HA : Hid (((nth of k).toList == (nth sub i).toList) = false → (sub.drop i).Sublist (of.drop (k + 1))) := HA
        have HB : Hid ((sub.drop (i + 1)).Sublist (of.drop (k + 1))) := sub_hit (by omega) HK.out
        generalize nth of k = s at *
        generalize nth sub i = t at *
        go_wp2_with fail
        go_quiet (fail)
        cases hq : (s.toList == t.toList)
        · go_wp2
          go_roundw
          case rel => exact ⟨k + 1, by omega, by go_num, hy.trans (Ext.drewN _ _), HA.out hq⟩
          case measure => simp [intOf]; omega
        · have hnk : ((k : Int) == (n' : Int)) = false := by simp; omega
          go_wp2
          go_roundw
          case rel => exact ⟨i + 1, k + 1, by omega, by omega, by go_num, by go_num, hy.trans (Ext.drewN _ _), HB⟩
          case measure => simp [intOf]; omega
    · go_wp2
      go_ret
      exact ⟨rfl, hx⟩

end Go.Proofs.Qxb6612711a
