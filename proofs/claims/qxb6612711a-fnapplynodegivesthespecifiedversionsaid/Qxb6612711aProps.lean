import Derived.Test.Qxb6612711aRead2
import Derived.Test.Qxb6612711aMaps
import Derived.RegionTactic
import Derived.Deep.RegionLaw
namespace Go.Proofs.Qxb6612711a
open Go.RowKit

set_option maxHeartbeats 1000000 in
theorem props_any (a : Option Addr) (n c : Nat) (ks : List ByteArray) (a' : Option Addr) (n' c' : Nat) (vs : List Int) (a2 : Option Addr) (n2 c2 : Nat) (ds : List ByteArray) (w : World)
    (h : IsStrs w a n c ks) (h' : IsInts .i64 w a' n' c' vs) (h2 : IsStrs w a2 n2 c2 ds) (b1 : n ≤ 1048576) (b2 : n2 ≤ 1048576) :
    Calls Try.prog 9 #[.slice a n c, .slice a' n' c', .slice a2 n2 c2] w fun e w' => e = .returned (.map (some w.heap.size)) ∧ IsPM w' w.heap.size (n + n2) (pmk (prs ks vs) ds) ∧ Ext w w' := by
  have hm := h.len_le
  have hm' := h'.len_le
  have hl := h.length
  have hl' := h'.length
  have hl2 := h2.length
  have hp := prs_length ks vs
  have hmm := @run_makeMap Try.prog
  go_enter Try.func9, Try.ntmps9
  go_wp2
  go_loopw [8] (fun i wr => ∃ k : Nat, k ≤ n ∧ k ≤ n' ∧ i = .int .i64 k ∧ IsPM wr w.heap.size k (pmk ((prs ks vs).take k) []) ∧ Ext w wr) (fun i _ => n - (intOf i).toNat)
  case atStart => exact ⟨0, Nat.zero_le _, Nat.zero_le _, rfl, by rw [List.take_zero, pmk_empty]; exact IsPM.made w, (Ext.refl w).alloc _⟩
  case round =>
    obtain ⟨k, hk, hk', rfl, hpm, hx⟩ := hrel
    by_cases hlt : k < n ∧ k < n'
    · obtain ⟨lt1, lt2⟩ := hlt
      have e1 := h.ext hx
      have e2 := h'.ext hx
      obtain ⟨b, off, rfl, hcell⟩ := e1.at lt1
      obtain ⟨b', off', rfl, hcell'⟩ := e2.at lt2
      have hsz := nth_size h.sizes k
      have HP := pmk_put (ks := ks) (vs := vs) (k := k) (by omega) (by omega)
      obtain ⟨w1, hrun, hpm1, ht1⟩ := IsPM.update (w := wr.drew) hpm (by unfold maxLen; omega) hsz (some (vs.getD k 0))
      rw [HP] at hpm1
      clear HP
      generalize nth ks k = s at *
      generalize vs.getD k 0 = z at *
      have hrun' : (Instr.mapUpdate 27 (.map (some w.heap.size)) (.string s) (.iface 2 (.int .i64 z))).run Try.prog wr.drew = .ok () w1 := hrun
      clear hrun
      go_wp2
      go_region
      go_wp2
      go_roundw
      case rel => exact ⟨k + 1, by omega, by omega, by go_num, hpm1, hx.drew.turned ht1 (Nat.le_refl _)⟩
      case measure => simp [intOf]; omega
    · have hpm2 : IsPM wr w.heap.size n (pmk (prs ks vs) []) := by
        rw [List.take_of_length_le (by omega)] at hpm
        exact hpm.mono hk
      clear hpm
      have h3 := h2.ext hx
      by_cases lt1 : k < n
      all_goals
        go_wp2
        go_loopw [9] (fun i wr => ∃ k : Nat, k ≤ n2 ∧ i = .int .i64 k ∧ IsPM wr w.heap.size (n + k) (pmk (prs ks vs) (ds.take k)) ∧ Ext w wr) (fun i _ => n2 - (intOf i).toNat)
        case atStart => exact ⟨0, Nat.zero_le _, rfl, hpm2, hx⟩
        case round =>
          obtain ⟨j, hj, rfl, hpm3, hx3⟩ := hrel
          by_cases lt2 : j < n2
          · obtain ⟨b, off, rfl, hcell⟩ := (h2.ext hx3).at lt2
            have hsz := nth_size h2.sizes j
            have HP := pmk_nil (ps := prs ks vs) (ds := ds) (k := j) (by omega)
            have HP : Hid (upd (pmk (prs ks vs) (ds.take j)) (nth ds j) (some none) = pmk (prs ks vs) (ds.take (j + 1))) := HP
            generalize nth ds j = s at *
            go_wp2_with (first | (at_mapUpdate; refine wpList_pm_update _ rfl _ _ _ rfl _ _ _ rfl hpm3 (by unfold maxLen; omega) s hsz none rfl rfl ?_; intro w1 hpm4 ht4; go_frame) | go_in)
            go_roundw
            case rel => exact ⟨j + 1, by omega, by go_num, by rw [← HP.out]; exact hpm4, hx3.turned ht4 (Nat.le_refl _)⟩
            case measure => simp [intOf]; omega
          · go_wp2
            go_ret
            exact ⟨rfl, by rw [List.take_of_length_le (by omega)] at hpm3; exact hpm3.mono (by omega), hx3⟩

end Go.Proofs.Qxb6612711a
