import Derived.Test.Qxb6612711aApply
import Derived.Deep.RegionWith
import Derived.Deep.RegionHeld
namespace Go.Proofs.Qxb6612711a
open Go.RowKit

theorem apply_any (rep : Bool) (bp np : Nat) (P : ByteArray → Option (Option Int)) (v2 v3 : Value) (bm nm : Nat) (M : ByteArray → Option (Option Int)) (w : World) (hP : IsPM w bp np P) (hM : IsPM w bm nm M) (b1 : np ≤ 4000000) (b2 : nm ≤ 4000000) :
    Calls Try.prog 31 #[.agg #[.bool rep, .map (some bp), v2, v3], .map (some bm)] w fun e w' => e = .returned (.map (some (w.heap.size + 1))) ∧ IsPM w' (w.heap.size + 1) (nm + np) (fun s => apl (if rep = true then none else M s) (P s)) ∧ Ext w w' := by
  cases rep
  · exact apply_keep bp np P v2 v3 bm nm M w hP hM b1 b2
  · refine (apply_repl bp np P v2 v3 bm w hP b1).mono ?_
    rintro e w' ⟨rfl, h1, h2⟩
    exact ⟨rfl, h1.mono (by omega), h2⟩

/-- A node lies in block b. -/
structure IsNode (w : World) (b : Nat) (id : Int) (a : Option Addr) (n c : Nat) (bm : Nat) (birth : Int) : Prop where
  c0 : w.cell? ⟨b, 0, none⟩ = some (.int .i64 id)
  c1 : w.cell? ⟨b, 1, none⟩ = some (.slice a n c)
  c2 : w.cell? ⟨b, 2, none⟩ = some (.map (some bm))
  c3 : w.cell? ⟨b, 3, none⟩ = some (.int .u64 birth)
  blk : ∃ cs, w.heap[b]? = some (.cells cs 31 (0, 0))
theorem IsNode.ext {w w' : World} {b : Nat} {id : Int} {a : Option Addr} {n c bm : Nat} {birth : Int} (h : IsNode w b id a n c bm birth) (e : Ext w w') : IsNode w' b id a n c bm birth :=
  ⟨e.cell h.c0, e.cell h.c1, e.cell h.c2, e.cell h.c3, by
    obtain ⟨cs, hb⟩ := h.blk
    exact ⟨cs, (e.block b (Array.getElem?_eq_some_iff.1 hb).1).trans hb⟩⟩

/-- what holds while 'ApplyNode' gathers the labels -/
structure Gath (w : World) (rep : Bool) (bp : Nat) (vA vR : Value) (cap : Nat) (out : List ByteArray) (wr : World) : Prop where
  ext : Ext w wr
  d0 : wr.cell? ⟨w.heap.size, 0, none⟩ = some (.bool rep)
  d1 : wr.cell? ⟨w.heap.size, 1, none⟩ = some (.map (some bp))
  d2 : wr.cell? ⟨w.heap.size, 2, none⟩ = some vA
  d3 : wr.cell? ⟨w.heap.size, 3, none⟩ = some vR
  row : wr.ownsRow (w.heap.size + 1) 9 1 (.slice (some ⟨w.heap.size + 1, 0, none⟩) out.length cap) out.length (out.map Value.string)
  size : w.heap.size + 2 ≤ wr.heap.size

theorem Gath.step {w : World} {rep : Bool} {bp : Nat} {vA vR : Value} {cap : Nat} {out out' : List ByteArray} {wr w' : World} (h : Gath w rep bp vA vR cap out wr)
    (hr : w'.ownsRow (w.heap.size + 1) 9 1 (.slice (some ⟨w.heap.size + 1, 0, none⟩) out'.length cap) out'.length (out'.map Value.string)) (hg : wr.grownBy w' (some (w.heap.size + 1))) : Gath w rep bp vA vR cap out' w' :=
  ⟨h.ext.step hg (fun k hk => by cases hk; omega), hg.cell h.d0 (fun e => by have e := Option.some.inj e; (try dsimp only at e); omega), hg.cell h.d1 (fun e => by have e := Option.some.inj e; (try dsimp only at e); omega),
    hg.cell h.d2 (fun e => by have e := Option.some.inj e; (try dsimp only at e); omega), hg.cell h.d3 (fun e => by have e := Option.some.inj e; (try dsimp only at e); omega), hr, Nat.le_trans h.size hg.size⟩
theorem Gath.later {w : World} {rep : Bool} {bp : Nat} {vA vR : Value} {cap : Nat} {out : List ByteArray} {wr w' : World} (h : Gath w rep bp vA vR cap out wr) (e : Ext wr w') : Gath w rep bp vA vR cap out w' :=
  ⟨h.ext.trans e, e.cell h.d0, e.cell h.d1, e.cell h.d2, e.cell h.d3, h.row.kept e.grown (by right; simp [Value.ownBlock]), Nat.le_trans h.size e.size⟩

theorem info9 : (Try.prog.info? 9).map (fun i => (i.zero, i.size, i.bytes)) = some (some (.string ⟨#[]⟩), 1, 16) := by kernel_rfl

theorem gath_start (w : World) (rep : Bool) (bp : Nat) (vA vR : Value) (cap : Nat) (hc : cap ≤ 4000000) :
    ∃ w', (Instr.makeSlice 22 (.int .i64 0) (.int .i64 (cap : Int))).run Try.prog ((w.alloc (.cells #[.bool rep, .map (some bp), vA, vR] 33)).drew) = .ok (.slice (some ⟨w.heap.size + 1, 0, none⟩) 0 cap) w' ∧ Gath w rep bp vA vR cap [] w' := by
  obtain ⟨i, hi, hz0, hz1, hz2⟩ := info_parts info9
  obtain ⟨w', r1, r2, r3⟩ := run_make_own (P := Try.prog) ((w.alloc (.cells #[.bool rep, .map (some bp), vA, vR] 33)).drew) (w.heap.size + 1) 22 9 i _ 1 Try.underlying22 hi hz0 hz1 .i64 .i64 cap (by rw [hz2]; omega) (by unfold maxLen; omega) (by simp)
  have hs : ((w.alloc (.cells #[.bool rep, .map (some bp), vA, vR] 33)).drew).heap.size = w.heap.size + 1 := by simp
  rw [hs] at r1 r2
  have hlt := (r2.lt (w.heap.size + 1) rfl).2
  have he : Ext w w' := (((Ext.refl w).alloc _).drew).step r3 (fun k hk => by cases hk)
  refine ⟨w', r1, he, ?_, ?_, ?_, ?_, r2, by omega⟩
  all_goals exact r3.cell (by simp) (by simp)

/-- the labels kept, and those gained -/
def keptL (ls rm : List ByteArray) : List ByteArray := ls.filter (fun l => !memB rm l)
theorem keptL_in {ls rm : List ByteArray} {k : Nat} (hk : k < ls.length) (h : memB rm (nth ls k) = false) : keptL (ls.take (k + 1)) rm = keptL (ls.take k) rm ++ [nth ls k] := by
  unfold keptL
  rw [take_snoc hk, List.filter_append]
  simp [h]
theorem keptL_out {ls rm : List ByteArray} {k : Nat} (hk : k < ls.length) (h : memB rm (nth ls k) = true) : keptL (ls.take (k + 1)) rm = keptL (ls.take k) rm := by
  unfold keptL
  rw [take_snoc hk, List.filter_append]
  simp [h]
theorem keptL_length (ls rm : List ByteArray) (k : Nat) : (keptL (ls.take k) rm).length ≤ k := by
  have := List.length_filter_le (fun l => !memB rm l) (ls.take k)
  have h2 : (ls.take k).length ≤ k := List.length_take_le _ _
  unfold keptL
  omega
def newL (ls ad rm : List ByteArray) : List ByteArray := keptL ls rm ++ keptL ad ls

theorem isStrs_of_row {w : World} {base g n cap : Nat} {out : List ByteArray} (h : w.ownsRow base 9 1 (.slice (some ⟨g, 0, none⟩) n cap) n (out.map Value.string)) (hn : out.length = n) (hs : ∀ s ∈ out, s.size ≤ maxLen) (hc : n ≤ cap) (hm : cap ≤ maxLen) :
    IsStrs w (some ⟨g, 0, none⟩) n cap out :=
  ⟨hn, hc, hm, hs, by simp, fun _ => ⟨g, 0, rfl, fun i hi => by
    rw [Nat.zero_add, h.cellAt i (by omega), List.getElem?_map, nth, List.getD_eq_getElem?_getD, List.getElem?_eq_getElem (by omega)]
    rfl⟩⟩
theorem newL_sizes {ls ad rm : List ByteArray} (h1 : ∀ s ∈ ls, s.size ≤ maxLen) (h2 : ∀ s ∈ ad, s.size ≤ maxLen) : ∀ s ∈ newL ls ad rm, s.size ≤ maxLen := by
  intro s hs
  unfold newL keptL at hs
  simp only [List.mem_append, List.mem_filter] at hs
  rcases hs with hs | hs
  · exact h1 s hs.1
  · exact h2 s hs.1
theorem keptL_le (ls rm : List ByteArray) : (keptL ls rm).length ≤ ls.length := List.length_filter_le _ _
theorem newL_length (ls ad rm : List ByteArray) : (newL ls ad rm).length ≤ ls.length + ad.length := by
  have h1 := keptL_le ls rm
  have h2 := keptL_le ad ls
  unfold newL
  rw [List.length_append]
  omega

theorem strs_oneCell (s : ByteArray) : ∀ u ∈ [Value.string s], u.oneCell' = true := by
  intro u hu
  simp at hu
  subst hu
  rfl

/-- what a change makes of a property map -/
def chg (rep : Bool) (M P : ByteArray → Option (Option Int)) : ByteArray → Option (Option Int) := fun s => apl (if rep = true then none else M s) (P s)
/-- it returns a new node -/
def NodeOut (w : World) (id : Int) (L : List ByteArray) (n : Nat) (M : ByteArray → Option (Option Int)) (birth : Int) (e : Ending) (w' : World) : Prop :=
  ∃ b a c bm', e = .returned (.pointer (some ⟨b, 0, none⟩)) ∧ w.heap.size ≤ b ∧ IsNode w' b id a L.length c bm' birth ∧ IsStrs w' a L.length c L ∧ IsPM w' bm' n M ∧ Ext w w'

/-- what holds in the last statement of 'ApplyNode', of whatever world -/
abbrev NodeS (W0 : World) (bx : Nat) (rep : Bool) (bp : Nat) (vA vR : Value) (bn : Nat) (id : Int) (bm : Nat) (birth : Int) (w' : World) : Prop :=
  Ext W0 w' ∧ w'.cell? ⟨bx, 0, none⟩ = some (.bool rep) ∧ w'.cell? ⟨bx, 1, none⟩ = some (.map (some bp)) ∧ w'.cell? ⟨bx, 2, none⟩ = some vA ∧ w'.cell? ⟨bx, 3, none⟩ = some vR ∧
    w'.cell? ⟨bn, 0, none⟩ = some (.int .i64 id) ∧ w'.cell? ⟨bn, 2, none⟩ = some (.map (some bm)) ∧ w'.cell? ⟨bn, 3, none⟩ = some (.int .u64 birth)
theorem nodeS_of {W0 : World} {bx : Nat} {rep : Bool} {bp : Nat} {vA vR : Value} {bn : Nat} {id : Int} {bm : Nat} {birth : Int} {w1 w2 : World} (h : NodeS W0 bx rep bp vA vR bn id bm birth w1) (e : Ext w1 w2) : NodeS W0 bx rep bp vA vR bn id bm birth w2 :=
  ⟨h.1.trans e, e.cell h.2.1, e.cell h.2.2.1, e.cell h.2.2.2.1, e.cell h.2.2.2.2.1, e.cell h.2.2.2.2.2.1, e.cell h.2.2.2.2.2.2.1, e.cell h.2.2.2.2.2.2.2⟩

set_option maxRecDepth 100000 in
set_option maxHeartbeats 1000000 in
theorem applyNode_any (rep : Bool) (bp np : Nat) (P : ByteArray → Option (Option Int)) (aA : Option Addr) (nA cA : Nat) (ad : List ByteArray) (aR : Option Addr) (nR cR : Nat) (rm : List ByteArray)
    (bn : Nat) (id : Int) (aL : Option Addr) (nL cL : Nat) (ls : List ByteArray) (bm nm : Nat) (M : ByteArray → Option (Option Int)) (birth : Int) (w : World)
    (hP : IsPM w bp np P) (hA : IsStrs w aA nA cA ad) (hR : IsStrs w aR nR cR rm) (hN : IsNode w bn id aL nL cL bm birth) (hL : IsStrs w aL nL cL ls) (hM : IsPM w bm nm M)
    (b1 : np ≤ 4000000) (b2 : nm ≤ 4000000) (b3 : nA ≤ 1000000) (b4 : nL ≤ 1000000) :
    Calls Try.prog 10 #[.agg #[.bool rep, .map (some bp), .slice aA nA cA, .slice aR nR cR], .pointer (some ⟨bn, 0, none⟩)] w fun e w' =>
      NodeOut w id (newL ls ad rm) (nm + np) (chg rep M P) birth e w' := by
  have lL := hL.length
  have lA := hA.length
  obtain ⟨w0, hmk, G0⟩ := gath_start w rep bp (.slice aA nA cA) (.slice aR nR cR) (nL + nA) (by omega)
  have ec : ((nL + nA : Nat) : Int) = (nL : Int) + nA := by omega
  rw [ec] at hmk
  have hx0 : Ext w (w.alloc (.cells #[.bool rep, .map (some bp), .slice aA nA cA, .slice aR nR cR] 33)) := (Ext.refl w).alloc _
  have q1 := hx0.cell hN.c1
  go_enter Try.func10, Try.ntmps10
  go_wp2
  go_region
  clear hmk q1 hx0 ec
  have q1 := G0.ext.cell hN.c1
  go_wp2
  clear q1
  obtain ⟨i, hi, hz0, hz1, hz2⟩ := info_parts info9
  go_loopw [5, 25] (fun v j wr => ∃ k : Nat, k ≤ nL ∧ j = .int .i64 k ∧ v = .slice (some ⟨w.heap.size + 1, 0, none⟩) (keptL (ls.take k) rm).length (nL + nA) ∧ Gath w rep bp (.slice aA nA cA) (.slice aR nR cR) (nL + nA) (keptL (ls.take k) rm) wr) (fun _ j _ => nL - (intOf j).toNat)
  case atStart => exact ⟨0, Nat.zero_le _, rfl, rfl, G0⟩
  case round =>
    obtain ⟨k, hk, rfl, rfl, G⟩ := hrel
    by_cases hlt : k < nL
    · obtain ⟨b, off, rfl, hcell⟩ := (hL.ext G.ext).at hlt
      have d3 := G.d3
      have hkl := keptL_length ls rm k
      have HK1 := keptL_in (ls := ls) (rm := rm) (k := k) (by omega)
      have HK2 := keptL_out (ls := ls) (rm := rm) (k := k) (by omega)
      have HK1 : Hid (memB rm (nth ls k) = false → keptL (ls.take (k + 1)) rm = keptL (ls.take k) rm ++ [nth ls k]) := HK1
      have HK2 : Hid (memB rm (nth ls k) = true → keptL (ls.take (k + 1)) rm = keptL (ls.take k) rm) := HK2
      generalize nth ls k = s at *
      go_wp2_with fail
      refine (among_any _ _ _ _ _ _ (hR.ext G.ext)).mono ?_
      rintro e w' ⟨rfl, rfl⟩
      cases hb : memB rm s
      · go_wp2_with (first
          | (at_builtin; refine wpList_append_fits _ rfl _ _ 22 rfl (w.heap.size + 1) 9 i 1 Try.underlying22 hi hz1 (w.heap.size + 1) _ _ _ rfl (G.row.alloc _) ⟨w'.heap.size, 0, none⟩ 1 1 [.string s] rfl rfl (cell_one_new _ _ _) (strs_oneCell s) (by omega) ?_; intro w1 hrow hgr; go_frame)
          | go_in)
        have e := HK1.out hb
        have G1 : Gath w rep bp (.slice aA nA cA) (.slice aR nR cR) (nL + nA) (keptL (ls.take (k + 1)) rm) w1 :=
          G.step (by rw [e]; simpa using hrow) ((World.grownBy_alloc w' _ _).trans hgr)
        go_roundw
        case rel => exact ⟨k + 1, by omega, by go_num, by rw [e]; simp, G1⟩
        case measure => simp [intOf]; omega
      · have e := HK2.out hb
        go_wp2
        go_roundw
        case rel => exact ⟨k + 1, by omega, by go_num, by rw [e], by rw [e]; exact G⟩
        case measure => simp [intOf]; omega
    · have eL : ls.take k = ls := List.take_of_length_le (by omega)
      rw [eL] at G ⊢
      have hkl : (keptL ls rm).length ≤ nL := by have := keptL_length ls rm k; rw [eL] at this; omega
      have d2 := G.d2
      clear eL hk G0
      go_wp2
      clear d2
      go_loopw [5, 42] (fun v j wr => ∃ k : Nat, k ≤ nA ∧ j = .int .i64 k ∧ v = .slice (some ⟨w.heap.size + 1, 0, none⟩) (keptL ls rm ++ keptL (ad.take k) ls).length (nL + nA) ∧ Gath w rep bp (.slice aA nA cA) (.slice aR nR cR) (nL + nA) (keptL ls rm ++ keptL (ad.take k) ls) wr) (fun _ j _ => nA - (intOf j).toNat)
      case atStart => exact ⟨0, Nat.zero_le _, rfl, by simp [keptL], by simpa [keptL] using G⟩
      case round =>
        obtain ⟨k, hk, rfl, rfl, G⟩ := hrel
        by_cases hlt : k < nA
        · obtain ⟨b, off, rfl, hcell⟩ := (hA.ext G.ext).at hlt
          have q1 := G.ext.cell hN.c1
          have hkl2 := keptL_length ad ls k
          have hll : (keptL ls rm ++ keptL (ad.take k) ls).length = (keptL ls rm).length + (keptL (ad.take k) ls).length := by simp
          have HK1 := keptL_in (ls := ad) (rm := ls) (k := k) (by omega)
          have HK2 := keptL_out (ls := ad) (rm := ls) (k := k) (by omega)
          have HK1 : Hid (memB ls (nth ad k) = false → keptL (ad.take (k + 1)) ls = keptL (ad.take k) ls ++ [nth ad k]) := HK1
          have HK2 : Hid (memB ls (nth ad k) = true → keptL (ad.take (k + 1)) ls = keptL (ad.take k) ls) := HK2
          generalize nth ad k = s at *
          obtain ⟨o1, ho1⟩ : ∃ o1, keptL ls rm ++ keptL (ad.take k) ls = o1 := ⟨_, rfl⟩
          have HO : Hid (keptL ls rm ++ keptL (ad.take k) ls = o1) := ho1
          rw [ho1] at G hll ⊢
          have hol : o1.length + 1 ≤ nL + nA := by omega
          clear ho1 hll
          go_wp2_with fail
          refine (among_any _ _ _ _ _ _ (hL.ext G.ext)).mono ?_
          rintro e w' ⟨rfl, rfl⟩
          cases hb : memB ls s
          · go_wp2_with (first
              | (at_builtin; refine wpList_append_fits _ rfl _ _ 22 rfl (w.heap.size + 1) 9 i 1 Try.underlying22 hi hz1 (w.heap.size + 1) _ _ _ rfl (G.row.alloc _) ⟨w'.heap.size, 0, none⟩ 1 1 [.string s] rfl rfl (cell_one_new _ _ _) (strs_oneCell s) hol ?_; intro w1 hrow hgr; go_frame)
              | go_in)
            have e : keptL ls rm ++ keptL (ad.take (k + 1)) ls = o1 ++ [s] := by rw [HK1.out hb, ← HO.out, List.append_assoc]
            have G1 := G.step (out' := keptL ls rm ++ keptL (ad.take (k + 1)) ls) (w' := w1) (by rw [e]; simpa using hrow) ((World.grownBy_alloc w' _ _).trans hgr)
            go_roundw
            case rel => exact ⟨k + 1, by omega, by go_num, by rw [e]; simp, G1⟩
            case measure => simp [intOf]; omega
          · have e : keptL ls rm ++ keptL (ad.take (k + 1)) ls = o1 := by rw [HK2.out hb, HO.out]
            go_wp2
            go_roundw
            case rel => exact ⟨k + 1, by omega, by go_num, by rw [e], by rw [e]; exact G⟩
            case measure => simp [intOf]; omega
        · have eL : ad.take k = ad := List.take_of_length_le (by omega)
          rw [eL] at G ⊢
          have eN : keptL ls rm ++ keptL ad ls = newL ls ad rm := rfl
          rw [eN] at G ⊢
          have hS : NodeS wr w.heap.size rep bp (.slice aA nA cA) (.slice aR nR cR) bn id bm birth wr := ⟨Ext.refl _, G.d0, G.d1, G.d2, G.d3, G.ext.cell hN.c0, G.ext.cell hN.c2, G.ext.cell hN.c3⟩
          have HS : Hid (NodeS wr w.heap.size rep bp (.slice aA nA cA) (.slice aR nR cR) bn id bm birth wr) := hS
          have hP1 := hP.ext G.ext
          have hM1 := hM.ext G.ext
          go_wp2
          go_region_held (NodeS wr w.heap.size rep bp (.slice aA nA cA) (.slice aR nR cR) bn id bm birth)
            (first | exact nodeS_of HS.out (Ext.drew (Ext.refl _)) | exact nodeS_of (by assumption) (Ext.alloc (Ext.refl _) _) | exact nodeS_of (by assumption) (by assumption))
            ((go_at_call 31; refine (apply_any _ _ _ _ _ _ _ _ _ _ (hP1.ext (And.left (by assumption))) (hM1.ext (And.left (by assumption))) b1 b2).mono ?_; rintro e w1 ⟨rfl, hpm1, hx1⟩))
          go_wp2
          go_ret
          have hl := newL_length ls ad rm
          have hE : Ext wr (w1.alloc (.cells #[.int .i64 id, .slice (some ⟨w.heap.size + 1, 0, none⟩) (newL ls ad rm).length (nL + nA), .map (some (wr.heap.size + 1)), .int .u64 birth] 31)) := (((Ext.refl wr).drew).trans hx1).alloc _
          have hsz := (((Ext.refl wr).drew).trans hx1).size
          have G2 := G.later hE
          refine ⟨w1.heap.size, some ⟨w.heap.size + 1, 0, none⟩, nL + nA, wr.heap.size + 1, rfl, Nat.le_trans G.ext.size hsz, ⟨by simp, by simp, by simp, by simp, ⟨_, heap_alloc_new _ _⟩⟩, isStrs_of_row G2.row rfl (newL_sizes hL.sizes hA.sizes) (by omega) (by unfold maxLen; omega), ?_, G2.ext⟩
          exact hpm1.ext ((Ext.refl _).alloc _)

end Go.Proofs.Qxb6612711a
