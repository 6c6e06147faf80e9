import Derived.Test.Qxb6612711aStale2
import Derived.LaidEql
namespace Go.Proofs.Qxb6612711a
open Go.RowKit

/-- two versions' labels differ in what a change changes -/
def StaleL (L1 L2 ad rm : List ByteArray) : Prop := ∃ l, (l ∈ ad ∨ l ∈ rm) ∧ ¬ memB L1 l = memB L2 l
theorem agree_all {z L1 L2 : List ByteArray} {k n : Nat} (hz : z.length = n) (hk : ¬ k < n) (h : ∀ j, j < k → memB L1 (nth z j) = memB L2 (nth z j)) : ∀ l ∈ z, memB L1 l = memB L2 l := by
  intro l hl
  obtain ⟨j, hj, rfl⟩ := List.mem_iff_getElem.1 hl
  rw [← nth_eq hj]
  exact h j (by omega)

theorem idx0 (x y : Value) (w : World) : (Instr.index 58 (.agg #[x, y]) (.int .i64 0)).run Try.prog w = .ok x w := by kernel_rfl
theorem idx1 (x y : Value) (w : World) : (Instr.index 58 (.agg #[x, y]) (.int .i64 1)).run Try.prog w = .ok y w := by kernel_rfl

theorem ptr_same (a : Addr) (w : World) : (binOp .eql 26 (.pointer (some a)) (.pointer (some a))).run Try.prog w = .ok (.bool true) w := by
  have hc : (Try.prog.info? 31).map (·.size) = some 4 := by kernel_rfl
  obtain ⟨i, hi, hsz⟩ := Option.map_eq_some_iff.1 hc
  have h : ∀ d : Nat, (Op.equalIn (d + 1) 26 (.pointer (some a)) (.pointer (some a))).run Try.prog w = .ok true w := fun d => by
    simp [Op.equalIn, run_underlying Try.underlying26, sizeOf, typeInfo, hi, run_sameAddr_same]
  simp only [binOp]
  simp [Op.equal, Op.maxDepth, h 9999]
theorem ptr_other {a b : Addr} {ca cb : Array Value} {ta tb : TypeId} (w : World) (hne : a ≠ b) (ha : w.heap[a.block]? = some (.cells ca ta (0, 0))) (hb : w.heap[b.block]? = some (.cells cb tb (0, 0))) :
    (binOp .eql 26 (.pointer (some a)) (.pointer (some b))).run Try.prog w = .ok (.bool false) w := by
  have hc : (Try.prog.info? 31).map (·.size) = some 4 := by kernel_rfl
  obtain ⟨i, hi, hsz⟩ := Option.map_eq_some_iff.1 hc
  have h : ∀ d : Nat, (Op.equalIn (d + 1) 26 (.pointer (some a)) (.pointer (some b))).run Try.prog w = .ok false w := fun d => by
    simp [Op.equalIn, run_underlying Try.underlying26, sizeOf, typeInfo, hi, hsz, run_sameAddr_other w hne ha hb]
  simp only [binOp]
  simp [Op.equal, Op.maxDepth, h 9999]

/-- what holds in the last statement of 'StaleNode', of whatever world -/
abbrev StaleS (W0 : World) (bx : Nat) (rep : Bool) (bp : Nat) (vA vR : Value) (b1 m1 b2 m2 : Nat) (w' : World) : Prop :=
  Ext W0 w' ∧ w'.cell? ⟨bx, 0, none⟩ = some (.bool rep) ∧ w'.cell? ⟨bx, 1, none⟩ = some (.map (some bp)) ∧ w'.cell? ⟨bx, 2, none⟩ = some vA ∧ w'.cell? ⟨bx, 3, none⟩ = some vR ∧
    w'.cell? ⟨b1, 2, none⟩ = some (.map (some m1)) ∧ w'.cell? ⟨b2, 2, none⟩ = some (.map (some m2))
theorem staleS_of {W0 : World} {bx : Nat} {rep : Bool} {bp : Nat} {vA vR : Value} {b1 m1 b2 m2 : Nat} {w1 w2 : World} (h : StaleS W0 bx rep bp vA vR b1 m1 b2 m2 w1) (e : Ext w1 w2) : StaleS W0 bx rep bp vA vR b1 m1 b2 m2 w2 :=
  ⟨h.1.trans e, e.cell h.2.1, e.cell h.2.2.1, e.cell h.2.2.2.1, e.cell h.2.2.2.2.1, e.cell h.2.2.2.2.2.1, e.cell h.2.2.2.2.2.2⟩

set_option maxRecDepth 100000 in
set_option maxHeartbeats 400000 in
theorem staleNode_self (vc : Value) (b1 : Nat) (rep : Bool) (bp : Nat) (v2 v3 : Value) (hv : vc = .agg #[.bool rep, .map (some bp), v2, v3]) (w : World) :
    Calls Try.prog 23 #[vc, .pointer (some ⟨b1, 0, none⟩), .pointer (some ⟨b1, 0, none⟩)] w fun e w' => e = .returned (.bool false) ∧ Ext w w' := by
  subst hv
  have hp := ptr_same ⟨b1, 0, none⟩
  go_enter Try.func23, Try.ntmps23
  go_wp2
  go_ret
  exact ⟨rfl, (Ext.refl w).alloc _⟩

set_option maxRecDepth 100000 in
set_option maxHeartbeats 2000000 in
theorem staleNode_any (rep : Bool) (bp np : Nat) (P : ByteArray → Option (Option Int)) (aA : Option Addr) (nA cA : Nat) (ad : List ByteArray) (aR : Option Addr) (nR cR : Nat) (rm : List ByteArray)
    (b1 : Nat) (id1 : Int) (a1 : Option Addr) (n1 c1 : Nat) (L1 : List ByteArray) (m1 k1 : Nat) (A : ByteArray → Option (Option Int)) (y1 : Int)
    (b2 : Nat) (id2 : Int) (a2 : Option Addr) (n2 c2 : Nat) (L2 : List ByteArray) (m2 k2 : Nat) (B : ByteArray → Option (Option Int)) (y2 : Int) (w : World)
    (hne : b1 ≠ b2) (hP : IsPM w bp np P) (hA : IsStrs w aA nA cA ad) (hR : IsStrs w aR nR cR rm) (hN1 : IsNode w b1 id1 a1 n1 c1 m1 y1) (hL1 : IsStrs w a1 n1 c1 L1) (hM1 : IsPM w m1 k1 A)
    (hN2 : IsNode w b2 id2 a2 n2 c2 m2 y2) (hL2 : IsStrs w a2 n2 c2 L2) (hM2 : IsPM w m2 k2 B) (f1 : nA ≤ 1000000) (f2 : nR ≤ 1000000) :
    Calls Try.prog 23 #[.agg #[.bool rep, .map (some bp), .slice aA nA cA, .slice aR nR cR], .pointer (some ⟨b1, 0, none⟩), .pointer (some ⟨b2, 0, none⟩)] w fun e w' =>
      RetIff (StaleL L1 L2 ad rm ∨ StaleP rep A B P) e ∧ Ext w w' := by
  have i0 := idx0
  have i1 := idx1
  have hxB : Ext w (w.alloc (.cells #[.bool rep, .map (some bp), .slice aA nA cA, .slice aR nR cR] 33)) := (Ext.refl w).alloc _
  have hC := box_cells w rep bp (.slice aA nA cA) (.slice aR nR cR)
  replace hP := hP.ext hxB
  replace hA := hA.ext hxB
  replace hR := hR.ext hxB
  replace hL1 := hL1.ext hxB
  replace hL2 := hL2.ext hxB
  replace hM1 := hM1.ext hxB
  replace hM2 := hM2.ext hxB
  have N1 := hN1.ext hxB
  have N2 := hN2.ext hxB
  clear hN1 hN2
  obtain ⟨_, hk1⟩ := N1.blk
  obtain ⟨_, hk2⟩ := N2.blk
  have hpp := ptr_other (a := ⟨b1, 0, none⟩) (b := ⟨b2, 0, none⟩) _ (fun e => hne (by injection e)) hk1 hk2
  clear hk1 hk2
  go_enter Try.func23, Try.ntmps23
  go_wp2
  clear hpp
  obtain ⟨wB, hwB⟩ : ∃ wB, wB = w.alloc (.cells #[.bool rep, .map (some bp), .slice aA nA cA, .slice aR nR cR] 33) := ⟨_, rfl⟩
  rw [← hwB] at hxB hC hP hA hR hL1 hL2 hM1 hM2 N1 N2 ⊢
  clear hwB
  go_loopw [19] (fun i wr => ∃ j : Nat, j ≤ 2 ∧ i = .int .i64 j ∧ Ext wB wr ∧ Hid ((0 < j → ∀ l ∈ ad, memB L1 l = memB L2 l) ∧ (1 < j → ∀ l ∈ rm, memB L1 l = memB L2 l))) (fun i _ => 2 - (intOf i).toNat)
  case atStart => exact ⟨0, by omega, rfl, Ext.refl _, fun h => by omega, fun h => by omega⟩
  case round =>
    obtain ⟨j, hj, rfl, hx, HG⟩ := hrel
    by_cases j0 : j = 0
    · subst j0
      have hsn := hA.length
      have q1 := hx.cell N1.c1
      have q2 := hx.cell N2.c1
      go_wp2_with fail
      clear q1 q2
      go_loopw [24] (fun i wr2 => ∃ k : Nat, k ≤ nA ∧ i = .int .i64 k ∧ Ext wr wr2 ∧ Hid (∀ j, j < k → memB L1 (nth ad j) = memB L2 (nth ad j))) (fun i _ => nA - (intOf i).toNat)
      case atStart => exact ⟨0, Nat.zero_le _, rfl, Ext.refl _, fun j hj => by omega⟩
      case round =>
        obtain ⟨k, hk, rfl, hy, HJ⟩ := hrel
        have hxy := hx.trans hy
        by_cases hlt : k < nA
        · obtain ⟨b, off, rfl, hcell⟩ := (hA.ext hxy).at hlt
          have q1 := hxy.cell N1.c1
          have q2 := hxy.cell N2.c1
          have hl1 := hL1.ext hxy
          have hl2 := hL2.ext hxy
          have HM := nth_mem (ss := ad) (k := k) (by omega)
          have HM : Hid (nth ad k ∈ ad) := HM
          obtain ⟨s, hs⟩ : ∃ s, nth ad k = s := ⟨_, rfl⟩
          have HSK : Hid (nth ad k = s) := hs
          rw [hs] at hcell HM
          clear hs
          go_wp2_with fail
          go_quiet (first
            | (go_at_call_of 30 (Value.slice a1 n1 c1); exact Calls.quiet_of_same (among_any _ _ _ _ _ _ (hl1.ext (Ext.drewN _ _))))
            | (go_at_call_of 30 (Value.slice a2 n2 c2); exact Calls.quiet_of_same (among_any _ _ _ _ _ _ (hl2.ext (Ext.drewN _ _)))))
          cases hm1 : memB L1 s <;> cases hm2 : memB L2 s
          · go_wp2
            go_roundw
            case rel =>
              refine ⟨k + 1, by omega, by go_num, hy.trans (Ext.drewN _ _), ?_⟩
              intro j hj
              by_cases e : j = k
              · subst e; rw [HSK.out, hm1, hm2]
              · exact HJ.out j (by omega)
            case measure => simp [intOf]; omega
          · have HT : Hid (StaleL L1 L2 ad rm) := ⟨s, Or.inl HM.out, by rw [hm1, hm2]; decide⟩
            go_wp2
            go_ret
            exact ⟨retIff_true (Or.inl HT.out), hxB.trans (hxy.trans (Ext.drewN _ _))⟩
          · have HT : Hid (StaleL L1 L2 ad rm) := ⟨s, Or.inl HM.out, by rw [hm1, hm2]; decide⟩
            go_wp2
            go_ret
            exact ⟨retIff_true (Or.inl HT.out), hxB.trans (hxy.trans (Ext.drewN _ _))⟩
          · go_wp2
            go_roundw
            case rel =>
              refine ⟨k + 1, by omega, by go_num, hy.trans (Ext.drewN _ _), ?_⟩
              intro j hj
              by_cases e : j = k
              · subst e; rw [HSK.out, hm1, hm2]
              · exact HJ.out j (by omega)
            case measure => simp [intOf]; omega
        · go_wp2
          go_roundw
          case rel => exact ⟨1, by omega, by go_num, hxy, fun _ => agree_all hsn hlt HJ.out, fun h => by omega⟩
          case measure => simp [intOf]
    by_cases j1 : j = 1
    · subst j1
      have hsn := hR.length
      have q1 := hx.cell N1.c1
      have q2 := hx.cell N2.c1
      go_wp2_with fail
      clear q1 q2
      go_loopw [24] (fun i wr2 => ∃ k : Nat, k ≤ nR ∧ i = .int .i64 k ∧ Ext wr wr2 ∧ Hid (∀ j, j < k → memB L1 (nth rm j) = memB L2 (nth rm j))) (fun i _ => nR - (intOf i).toNat)
      case atStart => exact ⟨0, Nat.zero_le _, rfl, Ext.refl _, fun j hj => by omega⟩
      case round =>
        obtain ⟨k, hk, rfl, hy, HJ⟩ := hrel
        have hxy := hx.trans hy
        by_cases hlt : k < nR
        · obtain ⟨b, off, rfl, hcell⟩ := (hR.ext hxy).at hlt
          have q1 := hxy.cell N1.c1
          have q2 := hxy.cell N2.c1
          have hl1 := hL1.ext hxy
          have hl2 := hL2.ext hxy
          have HM := nth_mem (ss := rm) (k := k) (by omega)
          have HM : Hid (nth rm k ∈ rm) := HM
          obtain ⟨s, hs⟩ : ∃ s, nth rm k = s := ⟨_, rfl⟩
          have HSK : Hid (nth rm k = s) := hs
          rw [hs] at hcell HM
          clear hs
          go_wp2_with fail
          go_quiet (first
            | (go_at_call_of 30 (Value.slice a1 n1 c1); exact Calls.quiet_of_same (among_any _ _ _ _ _ _ (hl1.ext (Ext.drewN _ _))))
            | (go_at_call_of 30 (Value.slice a2 n2 c2); exact Calls.quiet_of_same (among_any _ _ _ _ _ _ (hl2.ext (Ext.drewN _ _)))))
          cases hm1 : memB L1 s <;> cases hm2 : memB L2 s
          · go_wp2
            go_roundw
            case rel =>
              refine ⟨k + 1, by omega, by go_num, hy.trans (Ext.drewN _ _), ?_⟩
              intro j hj
              by_cases e : j = k
              · subst e; rw [HSK.out, hm1, hm2]
              · exact HJ.out j (by omega)
            case measure => simp [intOf]; omega
          · have HT : Hid (StaleL L1 L2 ad rm) := ⟨s, Or.inr HM.out, by rw [hm1, hm2]; decide⟩
            go_wp2
            go_ret
            exact ⟨retIff_true (Or.inl HT.out), hxB.trans (hxy.trans (Ext.drewN _ _))⟩
          · have HT : Hid (StaleL L1 L2 ad rm) := ⟨s, Or.inr HM.out, by rw [hm1, hm2]; decide⟩
            go_wp2
            go_ret
            exact ⟨retIff_true (Or.inl HT.out), hxB.trans (hxy.trans (Ext.drewN _ _))⟩
          · go_wp2
            go_roundw
            case rel =>
              refine ⟨k + 1, by omega, by go_num, hy.trans (Ext.drewN _ _), ?_⟩
              intro j hj
              by_cases e : j = k
              · subst e; rw [HSK.out, hm1, hm2]
              · exact HJ.out j (by omega)
            case measure => simp [intOf]; omega
        · go_wp2
          go_roundw
          case rel => exact ⟨2, by omega, by go_num, hxy, fun _ => HG.out.1 (by omega), fun _ => agree_all hsn hlt HJ.out⟩
          case measure => simp [intOf]
    obtain rfl : j = 2 := by omega
    have HL : Hid (¬ StaleL L1 L2 ad rm) := fun ⟨l, hl, hn⟩ => by
      rcases hl with hl | hl
      · exact hn (HG.out.1 (by omega) l hl)
      · exact hn (HG.out.2 (by omega) l hl)
    have hS : StaleS wr w.heap.size rep bp (.slice aA nA cA) (.slice aR nR cR) b1 m1 b2 m2 wr := ⟨Ext.refl _, hx.cell hC.c0, hx.cell hC.c1, hx.cell hC.c2, hx.cell hC.c3, hx.cell N1.c2, hx.cell N2.c2⟩
    have HS : Hid (StaleS wr w.heap.size rep bp (.slice aA nA cA) (.slice aR nR cR) b1 m1 b2 m2 wr) := hS
    clear hS
    have hP1 := hP.ext hx
    have hA1 := hM1.ext hx
    have hB1 := hM2.ext hx
    go_wp2_with fail
    go_region_held (StaleS wr w.heap.size rep bp (.slice aA nA cA) (.slice aR nR cR) b1 m1 b2 m2)
      (first | exact staleS_of HS.out (Ext.drew (Ext.refl _)) | exact staleS_of (by assumption) (Ext.alloc (Ext.refl _) _) | exact staleS_of (by assumption) (by assumption))
      ((go_at_call 37; refine (staleProps_any _ _ _ _ _ _ _ _ _ _ _ _ _ (hP1.ext (And.left (by assumption))) (hA1.ext (And.left (by assumption))) (hB1.ext (And.left (by assumption)))).mono ?_; rintro e w1 ⟨⟨b, rfl, hb⟩, hx1⟩))
    go_wp2
    go_ret
    refine ⟨⟨b, rfl, ?_⟩, hxB.trans (hx.trans (((Ext.refl wr).drew).trans hx1))⟩
    rw [hb]
    exact ⟨fun h => Or.inr h, fun h => h.resolve_left HL.out⟩

end Go.Proofs.Qxb6612711a
