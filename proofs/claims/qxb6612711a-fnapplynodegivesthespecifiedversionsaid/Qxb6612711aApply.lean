import Derived.Test.Qxb6612711aProps2
namespace Go.Proofs.Qxb6612711a
open Go.RowKit

theorem made1 (w : World) (o : Obj) : IsPM ((w.alloc o).alloc (.map #[] 0)) (w.heap.size + 1) 0 (fun _ => none) := by
  have := IsPM.made (w.alloc o)
  simpa using this
theorem box_cell1 (w : World) (rep : Bool) (bp : Nat) (v2 v3 : Value) : ((w.alloc (.cells #[.bool rep, .map (some bp), v2, v3] 33)).alloc (.map #[] 0)).cell? ⟨w.heap.size, 1, none⟩ = some (.map (some bp)) := by
  have h : (w.alloc (.cells #[.bool rep, .map (some bp), v2, v3] 33)).cell? ⟨w.heap.size, 1, none⟩ = some (.map (some bp)) := by simp
  exact (Ext.alloc (Ext.refl _) _).cell h

/-- what holds while 'apply' goes: 'changed' in block w.heap.size + 1, the receiver's map, the receiver's cell -/
structure Appl (w : World) (bp np : Nat) (P : ByteArray → Option (Option Int)) (n : Nat) (C : ByteArray → Option (Option Int)) (wr : World) : Prop where
  ext : Ext w wr
  chg : IsPM wr (w.heap.size + 1) n C
  prop : IsPM wr bp np P
  cell : wr.cell? ⟨w.heap.size, 1, none⟩ = some (.map (some bp))
  size : w.heap.size + 2 ≤ wr.heap.size

theorem Appl.step {w : World} {bp np : Nat} {P : ByteArray → Option (Option Int)} {n : Nat} {C : ByteArray → Option (Option Int)} {wr w' : World} {r : Nat} (h : Appl w bp np P n C wr) (hb : bp < w.heap.size) (hr : w.heap.size + 2 ≤ r) (hg : wr.grownBy w' (some r)) : Appl w bp np P n C w' :=
  ⟨h.ext.step hg (fun k hk => by cases hk; omega), h.chg.kept hg (fun e => by have e := Option.some.inj e; (try dsimp only at e); omega), h.prop.kept hg (fun e => by have e := Option.some.inj e; (try dsimp only at e); omega), hg.cell h.cell (fun e => by have e := Option.some.inj e; (try dsimp only at e); omega), Nat.le_trans h.size hg.size⟩
theorem Appl.stepNone {w : World} {bp np : Nat} {P : ByteArray → Option (Option Int)} {n : Nat} {C : ByteArray → Option (Option Int)} {wr w' : World} (h : Appl w bp np P n C wr) (hg : wr.grownBy w' none) : Appl w bp np P n C w' :=
  ⟨h.ext.step hg (fun k hk => by cases hk), h.chg.kept hg (by simp), h.prop.kept hg (by simp), hg.cell h.cell (by simp), Nat.le_trans h.size hg.size⟩
theorem Appl.turn {w : World} {bp np : Nat} {P : ByteArray → Option (Option Int)} {n n' : Nat} {C C' : ByteArray → Option (Option Int)} {wr w' : World} (h : Appl w bp np P n C wr) (hb : bp < w.heap.size) (hc : IsPM w' (w.heap.size + 1) n' C') (ht : wr.mapTurned w' (w.heap.size + 1)) : Appl w bp np P n' C' w' :=
  ⟨h.ext.turned ht (Nat.le_succ _), hc, h.prop.kept ht.grown (fun e => by have e := Option.some.inj e; (try dsimp only at e); omega), ht.grown.cell h.cell (fun e => by have e := Option.some.inj e; (try dsimp only at e); omega), Nat.le_trans h.size ht.grown.size⟩

set_option maxRecDepth 100000 in
set_option maxHeartbeats 1000000 in
theorem apply_keep (bp np : Nat) (P : ByteArray → Option (Option Int)) (v2 v3 : Value) (bm nm : Nat) (M : ByteArray → Option (Option Int)) (w : World) (hP : IsPM w bp np P) (hM : IsPM w bm nm M) (b1 : np ≤ 4000000) (b2 : nm ≤ 4000000) :
    Calls Try.prog 31 #[.agg #[.bool false, .map (some bp), v2, v3], .map (some bm)] w fun e w' => e = .returned (.map (some (w.heap.size + 1))) ∧ IsPM w' (w.heap.size + 1) (nm + np) (fun s => apl (M s) (P s)) ∧ Ext w w' := by
  have hmk := mk27
  have lp := hP.lt
  have lm := hM.lt
  have A0 : Appl w bp np P 0 (fun _ => none) ((w.alloc (.cells #[.bool false, .map (some bp), v2, v3] 33)).alloc (.map #[] 0)) :=
    ⟨((Ext.refl w).alloc _).alloc _, made1 _ _, hP.ext (((Ext.refl w).alloc _).alloc _), box_cell1 _ _ _ _ _, by simp⟩
  have hM0 : IsPM ((w.alloc (.cells #[.bool false, .map (some bp), v2, v3] 33)).alloc (.map #[] 0)) bm nm M := hM.ext (((Ext.refl w).alloc _).alloc _)
  have e1 : ((w.alloc (.cells #[.bool false, .map (some bp), v2, v3] 33)).alloc (.map #[] 0)).heap.size = w.heap.size + 2 := by simp
  go_enter Try.func31, Try.ntmps31
  go_wp2_with (first
    | (at_len; refine wpList_pm_len _ rfl _ rfl bm nm M rfl (hM.ext ((Ext.refl w).alloc _)) ?_; intro k1 hk1 hk1')
    | (at_len; refine wpList_pm_len _ rfl _ rfl bp np P rfl (hP.ext ((Ext.refl w).alloc _)) ?_; intro k2 hk2 hk2')
    | (at_range; refine wpList_pm_range _ rfl _ rfl bm nm M rfl hM0 ?_; intro w0 cnt0 hrg0 hg0 hs0 hc0)
    | go_in)
  go_frame
  have A1 := A0.stepNone hg0
  rw [e1] at hrg0 hs0 ⊢
  clear A0 hM0 hg0 hk1 hk2 hk1' hk2'
  go_loopw [7] (fun _ wr => ∃ (left : ByteArray → Bool) (cnt n : Nat), RgPM wr bm (w.heap.size + 2) nm M left cnt ∧ n + cnt ≤ nm ∧ Appl w bp np P n (cp1 M left) wr)
    (fun _ wr => wr.rangeLeft bm (w.heap.size + 2))
  case atStart => exact ⟨_, cnt0, 0, hrg0, by omega, by rw [cp1_start]; exact A1⟩
  case round =>
    obtain ⟨left, cnt, n, hrg, hn, A⟩ := hrel
    go_wp2_with (first
      | (at_next; refine wpList_pm_next _ rfl _ rfl bm (w.heap.size + 2) nm M left cnt rfl hrg ?_ ?_)
      | go_in)
    · intro hl0
      rw [cp1_end hl0] at A
      have hcell := A.cell
      go_wp2_with (first
        | (at_range; refine wpList_pm_range _ rfl _ rfl bp np P rfl A.prop ?_; intro w1 cnt1 hrg1 hg1 hs1 hc1)
        | go_in)
      go_frame
      have A1 := A.stepNone hg1
      have hz : w.heap.size + 2 ≤ wr.heap.size := A.size
      have hnn : n ≤ nm := by omega
      clear hg1 A hcell hrg hn hl0 hs1
      generalize wr.heap.size = r at *
      go_loopw [9] (fun _ wr => ∃ (left : ByteArray → Bool) (cnt n : Nat), RgPM wr bp r np P left cnt ∧ n + cnt ≤ nm + np ∧ Appl w bp np P n (cp2 M P left) wr)
        (fun _ wr => wr.rangeLeft bp r)
      case atStart => exact ⟨_, cnt1, n, hrg1, by omega, by rw [cp2_start]; exact A1⟩
      case round =>
        obtain ⟨left, cnt, n, hrg, hn, A⟩ := hrel
        go_wp2_with (first
          | (at_next; refine wpList_pm_next _ rfl _ rfl bp r np P left cnt rfl hrg ?_ ?_)
          | go_in)
        · intro hl0
          rw [cp2_end hl0] at A
          go_wp2
          go_ret
          exact ⟨rfl, A.chg.mono (by omega), A.ext⟩
        · intro s u w1 cnt1 hs hls hPs hrg1 hlt hg1 hs1 hen
          have A2 := A.step lp hz hg1
          clear A hg1
          have g1 := eql_int_nil
          have g2 := eql_nil_nil
          cases u with
          | none =>
            dsimp only [anyV] at hen ⊢
            go_wp2_with (first
              | (at_delete; refine wpList_pm_delete _ rfl _ _ rfl _ _ _ rfl A2.chg s hs rfl ?_; intro w2 hpm2 ht2; go_frame)
              | go_in)
            rw [cp2_del hPs] at hpm2
            have A3 := A2.turn lp hpm2 ht2
            have hrg2 := hrg1.kept ht2.grown (fun e => by have e := Option.some.inj e; omega) (fun e => by have e := Option.some.inj e; omega)
            go_roundw
            case rel => exact ⟨_, cnt1, n, hrg2, by omega, A3⟩
            case measure => rw [hrg2.left_eq, hrg.left_eq]; exact hlt
          | some z =>
            dsimp only [anyV] at hen ⊢
            go_wp2_with (first
              | (at_mapUpdate; refine wpList_pm_update _ rfl _ _ _ rfl _ _ _ rfl A2.chg (by unfold maxLen; omega) s hs (some z) rfl rfl ?_; intro w2 hpm2 ht2; go_frame)
              | go_in)
            rw [cp2_set hPs] at hpm2
            have A3 := A2.turn lp hpm2 ht2
            have hrg2 := hrg1.kept ht2.grown (fun e => by have e := Option.some.inj e; omega) (fun e => by have e := Option.some.inj e; omega)
            go_roundw
            case rel => exact ⟨_, cnt1, n + 1, hrg2, by omega, A3⟩
            case measure => rw [hrg2.left_eq, hrg.left_eq]; exact hlt
    · intro s u w1 cnt1 hs hls hMs hrg1 hlt hg1 hs1 hen
      have A2 := A.step lp (Nat.le_refl _) hg1
      go_wp2_with (first
        | (at_mapUpdate; refine wpList_pm_update _ rfl _ _ _ rfl _ _ _ rfl A2.chg (by unfold maxLen; omega) s hs u rfl rfl ?_; intro w2 hpm2 ht2; go_frame)
        | go_in)
      rw [cp1_step hMs] at hpm2
      have A3 := A2.turn lp hpm2 ht2
      have hrg2 := hrg1.kept ht2.grown (fun e => by have e := Option.some.inj e; omega) (fun e => by have e := Option.some.inj e; omega)
      go_roundw
      case rel => exact ⟨_, cnt1, n + 1, hrg2, by omega, A3⟩
      case measure => rw [hrg2.left_eq, hrg.left_eq]; exact hlt

set_option maxRecDepth 100000 in
set_option maxHeartbeats 1000000 in
theorem apply_repl (bp np : Nat) (P : ByteArray → Option (Option Int)) (v2 v3 : Value) (bm : Nat) (w : World) (hP : IsPM w bp np P) (b1 : np ≤ 4000000) :
    Calls Try.prog 31 #[.agg #[.bool true, .map (some bp), v2, v3], .map (some bm)] w fun e w' => e = .returned (.map (some (w.heap.size + 1))) ∧ IsPM w' (w.heap.size + 1) np (fun s => apl none (P s)) ∧ Ext w w' := by
  have hmk := mk27
  have lp := hP.lt
  have A0 : Appl w bp np P 0 (fun _ => none) ((w.alloc (.cells #[.bool true, .map (some bp), v2, v3] 33)).alloc (.map #[] 0)) :=
    ⟨((Ext.refl w).alloc _).alloc _, made1 _ _, hP.ext (((Ext.refl w).alloc _).alloc _), box_cell1 _ _ _ _ _, by simp⟩
  have e1 : ((w.alloc (.cells #[.bool true, .map (some bp), v2, v3] 33)).alloc (.map #[] 0)).heap.size = w.heap.size + 1 + 1 := by simp
  have hln := fun (w : World) (ty : TypeId) => Maps.len_nil (w := w) (P := Try.prog) Try.underlying27 ty
  have hrg := run_range_nilMap (P := Try.prog) ((w.alloc (.cells #[.bool true, .map (some bp), v2, v3] 33)).alloc (.map #[] 0)) 27 9 20 Try.underlying27
  have hnx : ∀ ty, (Instr.next (.pointer (some ⟨((w.alloc (.cells #[.bool true, .map (some bp), v2, v3] 33)).alloc (.map #[] 0)).heap.size, 0, none⟩)) false ty).run Try.prog (((w.alloc (.cells #[.bool true, .map (some bp), v2, v3] 33)).alloc (.map #[] 0)).alloc (.mapIter none 0 #[] 0)) = _ := fun ty => run_next_nilMap _ ty 0 0 #[]
  rw [e1] at hrg hnx
  have A1 := A0.stepNone (World.grownBy_alloc _ (.mapIter none 0 #[] 0) none)
  have hcell := A1.cell
  clear A0
  go_enter Try.func31, Try.ntmps31
  go_wp2_with (first
    | (at_len; refine wpList_pm_len _ rfl _ rfl bp np P rfl (hP.ext ((Ext.refl w).alloc _)) ?_; intro k2 hk2 hk2')
    | go_in)
  refine wp_loop_rounds 1 ?_
  rw [rounds_succ]
  go_wp2_with (first
    | (at_range; refine wpList_pm_range _ rfl _ rfl bp np P rfl A1.prop ?_; intro w1 cnt1 hrg1 hg1 hs1 hc1)
    | go_in)
  go_frame
  have A2 := A1.stepNone hg1
  obtain ⟨r, hr, hz⟩ : ∃ r, (((w.alloc (.cells #[.bool true, .map (some bp), v2, v3] 33)).alloc (.map #[] 0)).alloc (.mapIter none 0 #[] 0)).heap.size = r ∧ w.heap.size + 2 ≤ r := ⟨_, rfl, by simp⟩
  rw [hr] at hrg1 ⊢
  have hL : cnt1 ≤ np := hc1
  clear hr hg1 hs1 A1 hcell hnx e1 hc1
  go_loopw [9] (fun _ wr => ∃ (left : ByteArray → Bool) (cnt n : Nat), RgPM wr bp r np P left cnt ∧ n + cnt ≤ np ∧ Appl w bp np P n (cp2 (fun _ => none) P left) wr)
    (fun _ wr => wr.rangeLeft bp r)
  case atStart => exact ⟨_, cnt1, 0, hrg1, by omega, by rw [cp2_start]; exact A2⟩
  case round =>
    obtain ⟨left, cnt, n, hrg, hn, A⟩ := hrel
    go_wp2_with (first
      | (at_next; refine wpList_pm_next _ rfl _ rfl bp r np P left cnt rfl hrg ?_ ?_)
      | go_in)
    · intro hl0
      rw [cp2_end hl0] at A
      go_wp2
      go_ret
      exact ⟨rfl, A.chg.mono (by omega), A.ext⟩
    · intro s u w1 cnt1 hs hls hPs hrg1 hlt hg1 hs1 hen
      have A2 := A.step lp hz hg1
      clear A hg1
      have g1 := eql_int_nil
      have g2 := eql_nil_nil
      cases u with
      | none =>
        dsimp only [anyV] at hen ⊢
        go_wp2_with (first
          | (at_delete; refine wpList_pm_delete _ rfl _ _ rfl _ _ _ rfl A2.chg s hs rfl ?_; intro w2 hpm2 ht2; go_frame)
          | go_in)
        rw [cp2_del hPs] at hpm2
        have A3 := A2.turn lp hpm2 ht2
        have hrg2 := hrg1.kept ht2.grown (fun e => by have e := Option.some.inj e; omega) (fun e => by have e := Option.some.inj e; omega)
        go_roundw
        case rel => exact ⟨_, cnt1, n, hrg2, by omega, A3⟩
        case measure => rw [hrg2.left_eq, hrg.left_eq]; exact hlt
      | some z =>
        dsimp only [anyV] at hen ⊢
        go_wp2_with (first
          | (at_mapUpdate; refine wpList_pm_update _ rfl _ _ _ rfl _ _ _ rfl A2.chg (by unfold maxLen; omega) s hs (some z) rfl rfl ?_; intro w2 hpm2 ht2; go_frame)
          | go_in)
        rw [cp2_set hPs] at hpm2
        have A3 := A2.turn lp hpm2 ht2
        have hrg2 := hrg1.kept ht2.grown (fun e => by have e := Option.some.inj e; omega) (fun e => by have e := Option.some.inj e; omega)
        go_roundw
        case rel => exact ⟨_, cnt1, n + 1, hrg2, by omega, A3⟩
        case measure => rw [hrg2.left_eq, hrg.left_eq]; exact hlt
end Go.Proofs.Qxb6612711a
