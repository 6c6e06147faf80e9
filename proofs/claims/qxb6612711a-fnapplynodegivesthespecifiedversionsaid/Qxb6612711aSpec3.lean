import Derived.Test.Qxb6612711aSpec2
namespace Go.Proofs.Qxb6612711a
open Go.RowKit

set_option maxRecDepth 100000 in
set_option maxHeartbeats 2000000 in
theorem props12_any (b : Nat) (id : Int) (aN : Option Addr) (nN cN bm nm : Nat) (birth : Int) (a1 : Option Addr) (n1 c1 : Nat) (pk : List ByteArray) (a2 : Option Addr) (n2 c2 : Nat) (pv : List Int) (rep : Bool)
    (a4 : Option Addr) (n4 c4 : Nat) (sk : List ByteArray) (a5 : Option Addr) (n5 c5 : Nat) (sv : List Int) (a6 : Option Addr) (n6 c6 : Nat) (ds : List ByteArray) (w : World)
    (hN : IsNode w b id aN nN cN bm birth) (hM : IsPM w bm nm (chg rep (pmk (prs pk pv) []) (pmk (prs sk sv) ds))) (h1 : IsStrs w a1 n1 c1 pk) (h2 : IsInts .i64 w a2 n2 c2 pv) (h4 : IsStrs w a4 n4 c4 sk) (h5 : IsInts .i64 w a5 n5 c5 sv) (h6 : IsStrs w a6 n6 c6 ds)
    (b1 : n1 ≤ 100000) (b4 : n4 ≤ 100000) (b6 : n6 ≤ 100000) :
    Calls Try.prog 12 #[.pointer (some ⟨b, 0, none⟩), .slice a1 n1 c1, .slice a2 n2 c2, .bool rep, .slice a4 n4 c4, .slice a5 n5 c5, .slice a6 n6 c6] w fun e w' => e = .returned (.bool true) ∧ Ext w w' := by
  have m1 := h1.length
  have m2 := h2.length
  have m4 := h4.length
  have m5 := h5.length
  have m6 := h6.length
  have HSZ : Hid (Sized (chg rep (pmk (prs pk pv) []) (pmk (prs sk sv) ds)) (pres (cat3 (pk.take (min n1 n2)) (sk.take (min n4 n5)) ds) (fun s => hasB (wnt rep (prs pk pv) (prs sk sv) ds s)) (min n1 n2 + min n4 n5 + n6))) := by
    have := spec_sized (rep := rep) (k1 := pk) (v1 := pv) (ks := sk) (vs := sv) (ds := ds) (n := min n1 n2 + min n4 n5 + n6) (by omega)
    rw [m1, m2, m4, m5] at this
    exact this
  have HF : Hid (∀ s, flat (chg rep (pmk (prs pk pv) []) (pmk (prs sk sv) ds) s) = wnt rep (prs pk pv) (prs sk sv) ds s) := fun s => flat_wnt _ _ _ _ s
  generalize chg rep (pmk (prs pk pv) []) (pmk (prs sk sv) ds) = C at *
  go_enter Try.func12, Try.ntmps12
  go_wp2_with (go_at_call 17; refine (min_any _ _ _).mono ?_; rintro e w' ⟨rfl, hw⟩; rw [hw]; clear hw w')
  have hnp : min n1 n2 ≤ n1 := Nat.min_le_left _ _
  have hns : min n4 n5 ≤ n4 := Nat.min_le_left _ _
  generalize min n1 n2 = np at *
  generalize min n4 n5 = ns at *
  have s1 := h1.cutTo hnp
  have s4 := h4.cutTo hns
  have e1 := h1.le
  have e4 := h4.le
  go_loopw [17, 18] (fun v i wr => ∃ k : Nat, k ≤ np + ns + n6 ∧ i = .int .i64 k ∧ v = .int .i64 ((pres (cat3 (pk.take np) (sk.take ns) ds) (fun s => hasB (wnt rep (prs pk pv) (prs sk sv) ds s)) k : Nat) : Int) ∧ Ext w wr) (fun _ i _ => np + ns + n6 - (intOf i).toNat)
  case atStart => exact ⟨0, Nat.zero_le _, rfl, rfl, Ext.refl _⟩
  case round =>
    obtain ⟨k, hk, rfl, rfl, hx⟩ := hrel
    by_cases hlt : k < np + ns + n6
    · have hp1 := pres_le (cat3 (pk.take np) (sk.take ns) ds) (fun s => hasB (wnt rep (prs pk pv) (prs sk sv) ds s)) k
      have HS : Hid (pres (cat3 (pk.take np) (sk.take ns) ds) (fun s => hasB (wnt rep (prs pk pv) (prs sk sv) ds s)) (k + 1) = pres (cat3 (pk.take np) (sk.take ns) ds) (fun s => hasB (wnt rep (prs pk pv) (prs sk sv) ds s)) k + if (hasB (wnt rep (prs pk pv) (prs sk sv) ds (nth (cat3 (pk.take np) (sk.take ns) ds) k)) && fstB (cat3 (pk.take np) (sk.take ns) ds) k) = true then 1 else 0) := pres_succ _ _ _
      generalize pres (cat3 (pk.take np) (sk.take ns) ds) (fun s => hasB (wnt rep (prs pk pv) (prs sk sv) ds s)) k = pz at *
      have hsn := nth_size (ss := cat3 (pk.take np) (sk.take ns) ds) (fun s hs => by
        rcases cat3_mem.1 hs with h | h | h
        · exact s1.sizes s h
        · exact s4.sizes s h
        · exact h6.sizes s h) k
      go_wp2_with fail
      go_cut [19] from 44 to 52 (fun v wx => v = .string (nth (cat3 (pk.take np) (sk.take ns) ds) k) ∧ Ext w wx)
      case first =>
        have hq1 : Option.map (fun x : Addr => x.add 0) a1 = a1 := by cases a1 <;> simp [addr_add_zero]
        have hq4 : Option.map (fun x : Addr => x.add 0) a4 = a4 := by cases a4 <;> simp [addr_add_zero]
        have y1 := s1.ext hx
        have y4 := s4.ext hx
        have y6 := h6.ext hx
        by_cases z1 : 0 < c1
        all_goals by_cases z4 : 0 < c4
        all_goals
          go_quiet ((go_at_call 18; exact Calls.quiet_of_same (keyAt_any _ _ _ _ _ _ _ _ _ _ _ _ _ _ (y1.ext (Ext.drewN _ _)) (y4.ext (Ext.drewN _ _)) (y6.ext (Ext.drewN _ _)) (by omega) (by omega))))
          go_wp2
          go_meet
          exact ⟨rfl, hx.trans (Ext.drewN _ _)⟩
      obtain ⟨rfl, hy⟩ := hcut
      clear hx
      obtain ⟨s, hs⟩ : ∃ s, nth (cat3 (pk.take np) (sk.take ns) ds) k = s := ⟨_, rfl⟩
      rw [hs] at HS hsn ⊢
      clear hs
      go_wp2_with fail
      refine (wantProp_any _ _ _ _ _ _ _ _ _ _ _ _ _ _ _ _ _ _ _ _ _ _ _ (h1.ext hy) (h2.ext hy) (h4.ext hy) (h5.ext hy) (h6.ext hy)).mono ?_
      rintro e w' ⟨rfl, hw⟩
      rw [hw]
      clear hw w'
      have hW : aft (bas rep (lv (prs pk pv) s)) (lv (prs sk sv) s) (memB ds s) = wnt rep (prs pk pv) (prs sk sv) ds s := rfl
      rw [hW]
      clear hW
      have q2 := hy.cell hN.c2
      go_wp2_with fail
      refine (propInt_any _ _ _ _ _ (hM.ext hy) hsn).mono ?_
      rintro e w' ⟨rfl, hw⟩
      rw [hw]
      clear hw w'
      rw [HF.out s]
      clear q2
      generalize wnt rep (prs pk pv) (prs sk sv) ds s = W at *
      obtain ⟨hv, hhv⟩ : ∃ hv, hasB W = hv := ⟨_, rfl⟩
      rw [hhv] at HS ⊢
      clear hhv
      cases hv
      · go_wp2_with fail
        go_quiet (fail)
        go_wp2
        go_roundw
        case rel => exact ⟨k + 1, by omega, by go_num, by rw [HS.out]; simp, hy.trans (Ext.drewN _ _)⟩
        case measure => simp [intOf]; omega
      · go_wp2_with fail
        go_cut [92] from 81 to 92 (fun v wx => v = .bool (fstB (cat3 (pk.take np) (sk.take ns) ds) k) ∧ Ext w wx)
        case first =>
          have hq1 : Option.map (fun x : Addr => x.add 0) a1 = a1 := by cases a1 <;> simp [addr_add_zero]
          have hq4 : Option.map (fun x : Addr => x.add 0) a4 = a4 := by cases a4 <;> simp [addr_add_zero]
          have y1 := s1.ext hy
          have y4 := s4.ext hy
          have y6 := h6.ext hy
          by_cases z1 : 0 < c1
          all_goals by_cases z4 : 0 < c4
          all_goals
            go_quiet ((go_at_call 36; exact Calls.quiet_of_same (firstAt_any _ _ _ _ _ _ _ _ _ _ _ _ _ _ (y1.ext (Ext.drewN _ _)) (y4.ext (Ext.drewN _ _)) (y6.ext (Ext.drewN _ _)) (by omega) (by omega))))
            go_wp2
            go_meet
            exact ⟨rfl, hy.trans (Ext.drewN _ _)⟩
        obtain ⟨rfl, hy2⟩ := hcut
        cases hf : fstB (cat3 (pk.take np) (sk.take ns) ds) k
        all_goals
          rw [hf] at HS
          go_wp2
          go_roundw
          case rel => exact ⟨k + 1, by omega, by go_num, by rw [HS.out]; simp, hy2⟩
          case measure => simp [intOf]; omega
    have hkN : np + ns + n6 = k := by omega
    rw [hkN] at HSZ
    clear hkN
    have q2 := hx.cell hN.c2
    generalize pres (cat3 (pk.take np) (sk.take ns) ds) (fun s => hasB (wnt rep (prs pk pv) (prs sk sv) ds s)) k = pz at *
    go_wp2_with (first
      | (at_len; refine wpList_pm_len _ rfl _ rfl bm nm C rfl (hM.ext hx) ?_; intro kc hkc hkc'; have e := hkc.unique HSZ.out; subst e)
      | go_in)
    go_ret
    exact ⟨ret_bool (by simp), hx⟩

end Go.Proofs.Qxb6612711a
