import Derived.Test.Qxb6612711aNode
import Derived.Laws.CopyOwn
import Derived.Deep.DeepCutAuto
import Derived.Deep.Light
namespace Go.Proofs.Qxb6612711a
open Go.RowKit

theorem info2 : (Try.prog.info? 2).map (fun i => (i.zero, i.size, i.bytes)) = some (some (.int .i64 0), 1, 8) := by kernel_rfl
theorem size9 : (Try.prog.info? 9).map (·.size) = some 1 := by kernel_rfl
theorem size2 : (Try.prog.info? 2).map (·.size) = some 1 := by kernel_rfl

theorem splice_all {α : Type} (L cs : List α) (h : cs.length = L.length) : splice L 0 cs = cs := by
  simp [splice, h]

theorem isStrs_of_block {w : World} {g n : Nat} {z : List ByteArray} (h : w.heap[g]? = some (.cells (z.map Value.string).toArray 9 (0, 0))) (hn : z.length = n) (hm : n ≤ maxLen) (hs : ∀ s ∈ z, s.size ≤ maxLen) : IsStrs w (some ⟨g, 0, none⟩) n n z :=
  ⟨hn, Nat.le_refl _, hm, hs, by simp, fun _ => ⟨g, 0, rfl, fun i hi => by
    rw [Nat.zero_add, cell_of_row w g i _ 9 (0, 0) h]
    simp [nth, List.getElem?_eq_getElem (show i < z.length by omega)]⟩⟩
theorem isInts_of_block {w : World} {g n : Nat} {z : List Int} (h : w.heap[g]? = some (.cells (z.map (Value.int .i64)).toArray 2 (0, 0))) (hn : z.length = n) (hm : n ≤ maxLen) (hs : ∀ x ∈ z, (Lit.int .i64 x).wf = true) : IsInts .i64 w (some ⟨g, 0, none⟩) n n z :=
  ⟨hn, Nat.le_refl _, hm, hs, by simp, fun _ => ⟨g, 0, rfl, fun i hi => by
    rw [Nat.zero_add, cell_of_row w g i _ 2 (0, 0) h]
    simp [List.getElem?_eq_getElem (show i < z.length by omega)]⟩⟩

section
variable {w : World} {ops : Array Oper} {rest : List Oper} {o : Oper} {a : Act} {Q : Exit → Act → World → Prop}

/-- 'copy(zzc, x)', zzc just made as long as x: strings -/
theorem wpList_copy_strs (hgd : o.guard = none) (d s : Operand) (ho : o.op = .call { callee := .builtin .copy, args := #[d, s], argTypes := #[22, 22] }) (W0 : World) (hE : Ext W0 w) (g n : Nat) (hg : W0.heap.size ≤ g) (sp : Option Addr) (sCap : Nat) (z : List ByteArray)
    (hd : a.eval d = .slice (some ⟨g, 0, none⟩) n n) (hs : a.eval s = .slice sp n sCap) (hz : IsStrs w sp n sCap z) (xs : List Value) (hrow : w.ownsRow g 9 1 (.slice (some ⟨g, 0, none⟩) n n) n xs)
    (hK : ∀ w', Ext W0 w' → IsStrs w' (some ⟨g, 0, none⟩) n n z → wpList Try.prog ops Q rest (a.put o.dst (goInt n)) w') : wpList Try.prog ops Q (o :: rest) a w := by
  obtain ⟨_, h2⟩ := hrow
  rcases h2 with ⟨h2, _⟩ | ⟨g', cap, cur, hv, _, hh, _, _, hsz, _⟩
  · cases h2
  · simp only [Value.slice.injEq, Option.some.injEq, Addr.mk.injEq] at hv
    obtain ⟨⟨rfl, _⟩, _, rfl⟩ := hv
    have hl := hz.length
    refine wpList_copy_splice hgd d s 22 22 ho 9 Try.underlying22 size9 _ _ _ _ _ _ hd hs g 0 cur.toList 9 (by simpa using hh) (z.map Value.string) (by simp [hl]) (fun hpos => ?_) (by simp [hl, hsz]) (by intro v hv; simp at hv; obtain ⟨_, _, rfl⟩ := hv; rfl) W0.heap.size W0 hE hg ?_
    · obtain ⟨b, off, rfl, hc⟩ := hz.cells (by simp [hl] at hpos; exact hpos)
      refine ⟨rfl, _, rfl, fun j v hv => ?_⟩
      simp only [List.getElem?_map, Option.map_eq_some_iff] at hv
      obtain ⟨s, hs, rfl⟩ := hv
      have hj : j < z.length := (List.getElem?_eq_some_iff.1 hs).1
      rw [Addr.add_lit, hc j (by omega), nth, List.getD_eq_getElem?_getD, hs]
      rfl
    · intro w' hh' hb'
      rw [splice_all _ _ (by simp [hl, hsz])] at hh'
      have := hK w' hb' (isStrs_of_block hh'.out hl (Nat.le_trans hz.le hz.fits) hz.sizes)
      simpa [hl] using this

/-- .. int64s -/
theorem wpList_copy_ints (hgd : o.guard = none) (d s : Operand) (ho : o.op = .call { callee := .builtin .copy, args := #[d, s], argTypes := #[23, 23] }) (W0 : World) (hE : Ext W0 w) (g n : Nat) (hg : W0.heap.size ≤ g) (sp : Option Addr) (sCap : Nat) (z : List Int)
    (hd : a.eval d = .slice (some ⟨g, 0, none⟩) n n) (hs : a.eval s = .slice sp n sCap) (hz : IsInts .i64 w sp n sCap z) (xs : List Value) (hrow : w.ownsRow g 2 1 (.slice (some ⟨g, 0, none⟩) n n) n xs)
    (hK : ∀ w', Ext W0 w' → IsInts .i64 w' (some ⟨g, 0, none⟩) n n z → wpList Try.prog ops Q rest (a.put o.dst (goInt n)) w') : wpList Try.prog ops Q (o :: rest) a w := by
  obtain ⟨_, h2⟩ := hrow
  rcases h2 with ⟨h2, _⟩ | ⟨g', cap, cur, hv, _, hh, _, _, hsz, _⟩
  · cases h2
  · simp only [Value.slice.injEq, Option.some.injEq, Addr.mk.injEq] at hv
    obtain ⟨⟨rfl, _⟩, _, rfl⟩ := hv
    have hl := hz.length
    refine wpList_copy_splice hgd d s 23 23 ho 2 Try.underlying23 size2 _ _ _ _ _ _ hd hs g 0 cur.toList 2 (by simpa using hh) (z.map (Value.int .i64)) (by simp [hl]) (fun hpos => ?_) (by simp [hl, hsz]) (by intro v hv; simp at hv; obtain ⟨_, _, rfl⟩ := hv; rfl) W0.heap.size W0 hE hg ?_
    · obtain ⟨b, off, rfl, hc⟩ := hz.cells (by simp [hl] at hpos; exact hpos)
      refine ⟨rfl, _, rfl, fun j v hv => ?_⟩
      simp only [List.getElem?_map, Option.map_eq_some_iff] at hv
      obtain ⟨s, hs, rfl⟩ := hv
      have hj : j < z.length := (List.getElem?_eq_some_iff.1 hs).1
      rw [Addr.add_lit, hc j (by omega), List.getD_eq_getElem?_getD, hs]
      rfl
    · intro w' hh' hb'
      rw [splice_all _ _ (by simp [hl, hsz])] at hh'
      have := hK w' hb' (isInts_of_block hh'.out hl (Nat.le_trans hz.le hz.fits) hz.wf)
      simpa [hl] using this
end

end Go.Proofs.Qxb6612711a
