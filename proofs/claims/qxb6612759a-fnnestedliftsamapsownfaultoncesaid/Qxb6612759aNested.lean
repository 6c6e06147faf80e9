import Derived.Test.Qxb6612759aRows
import Derived.WalkKit
import Derived.WalkSpells
import Derived.WalkLawsBesides
import Derived.LaidEql
import Derived.Deep.QuietTactic
import Derived.BigQuiet
import Derived.RegionTactic
namespace Go.Proofs.Qxb6612759a
open Go.RowKit

/-- it returns a bool -/
def RetBool (e : Ending) : Prop := ∃ b, e = .returned (.bool b)

/-- an item error lies in block b -/
structure IsItem (w : World) (b : Nat) (s t : ByteArray) (o : Bool) : Prop where
  c0 : w.cell? ⟨b, 0, none⟩ = some (.string s)
  c1 : w.cell? ⟨b, 1, none⟩ = some (.string t)
  c2 : w.cell? ⟨b, 2, none⟩ = some (.bool o)
  blk : ∃ cs, w.heap[b]? = some (.cells cs 33 (0, 0))

theorem ptr_same (a : Addr) (w : World) : (binOp .eql 23 (.pointer (some a)) (.pointer (some a))).run Try.prog w = .ok (.bool true) w := by
  have hc : (Try.prog.info? 33).map (·.size) = some 3 := by kernel_rfl
  obtain ⟨i, hi, hsz⟩ := Option.map_eq_some_iff.1 hc
  have h : ∀ d : Nat, (Op.equalIn (d + 1) 23 (.pointer (some a)) (.pointer (some a))).run Try.prog w = .ok true w := fun d => by
    simp [Op.equalIn, run_underlying Try.underlying23, sizeOf, typeInfo, hi, run_sameAddr_same]
  simp only [binOp]
  simp [Op.equal, Op.maxDepth, h 9999]
theorem ptr_other {a b : Addr} {ca cb : Array Value} {ta tb : TypeId} (w : World) (hne : a ≠ b) (ha : w.heap[a.block]? = some (.cells ca ta (0, 0))) (hb : w.heap[b.block]? = some (.cells cb tb (0, 0))) :
    (binOp .eql 23 (.pointer (some a)) (.pointer (some b))).run Try.prog w = .ok (.bool false) w := by
  have hc : (Try.prog.info? 33).map (·.size) = some 3 := by kernel_rfl
  obtain ⟨i, hi, hsz⟩ := Option.map_eq_some_iff.1 hc
  have h : ∀ d : Nat, (Op.equalIn (d + 1) 23 (.pointer (some a)) (.pointer (some b))).run Try.prog w = .ok false w := fun d => by
    simp [Op.equalIn, run_underlying Try.underlying23, sizeOf, typeInfo, hi, hsz, run_sameAddr_other w hne ha hb]
  simp only [binOp]
  simp [Op.equal, Op.maxDepth, h 9999]
theorem ta_item (a : Addr) (w : World) : (Instr.typeAssert (.iface 23 (.pointer (some a))) 35 23 true).run Try.prog w = .ok (.tuple #[.pointer (some a), .bool true]) w := by kernel_rfl

set_option maxRecDepth 100000 in
set_option maxHeartbeats 400000 in
theorem bytes_any (s t : ByteArray) (o : Bool) (w : World) (h1 : s.size ≤ maxLen) (h2 : t.size ≤ maxLen) :
    Calls Try.prog 6 #[.string s, .string t, .bool o] w fun e w' => RetBool e ∧ w' = w := by
  unfold maxLen at h1 h2
  go_enter Try.func6, Try.ntmps6
  go_wp2
  all_goals (go_ret; exact ⟨⟨_, rfl⟩, rfl⟩)

set_option maxRecDepth 100000 in
set_option maxHeartbeats 400000 in
theorem newItem_any (s t : ByteArray) (o : Bool) (w : World) :
    Calls Try.prog 7 #[.string s, .string t, .bool o] w fun e w' => e = .returned (.pointer (some ⟨w.heap.size, 0, none⟩)) ∧ IsItem w' w.heap.size s t o ∧ Below w.heap.size w w' := by
  go_enter Try.func7, Try.ntmps7
  go_wp2
  go_ret
  exact ⟨rfl, ⟨by simp, by simp, by simp, ⟨_, heap_alloc_new _ _⟩⟩, (Below.refl _ _).alloc (Nat.le_refl _) _⟩

set_option maxRecDepth 100000 in
set_option maxHeartbeats 400000 in
theorem fields_any (b : Nat) (s t : ByteArray) (o : Bool) (w : World) (h : IsItem w b s t o) :
    Calls Try.prog 9 #[.pointer (some ⟨b, 0, none⟩)] w fun e w' => e = .returned (.tuple #[.string s, .string t, .bool o]) ∧ ∃ n, w' = w.drewN n := by
  have c0 := h.c0
  have c1 := h.c1
  have c2 := h.c2
  go_enter Try.func9, Try.ntmps9
  go_wp2
  go_quiet (fail)
  go_wp2
  go_ret3
  exact ⟨rfl, nq, rfl⟩

set_option maxRecDepth 100000 in
set_option maxHeartbeats 400000 in
theorem nestedNot_any (b : Nat) (s t : ByteArray) (w : World) (h : IsItem w b s t false) :
    Calls Try.prog 11 #[.iface 23 (.pointer (some ⟨b, 0, none⟩))] w fun e w' => e = .returned (.iface 23 (.pointer (some ⟨b, 0, none⟩))) ∧ w' = w := by
  have c2 := h.c2
  have ht := ta_item
  go_enter Try.func11, Try.ntmps11
  go_wp2
  go_ret
  exact ⟨rfl, rfl⟩

/-- it returns a new item error that is no map's own -/
def NewItem (w : World) (s t : ByteArray) (e : Ending) (w' : World) : Prop :=
  ∃ b, e = .returned (.iface 23 (.pointer (some ⟨b, 0, none⟩))) ∧ w.heap.size ≤ b ∧ IsItem w' b s t false ∧ Below w.heap.size w w'

set_option maxRecDepth 100000 in
set_option maxHeartbeats 400000 in
theorem nestedOwn_any (b : Nat) (s t : ByteArray) (w : World) (h : IsItem w b s t true) :
    Calls Try.prog 11 #[.iface 23 (.pointer (some ⟨b, 0, none⟩))] w fun e w' => NewItem w s t e w' := by
  have c0 := h.c0
  have c1 := h.c1
  have c2 := h.c2
  have ht := ta_item
  go_enter Try.func11, Try.ntmps11
  go_wp2
  go_region
  go_wp2
  go_ret
  exact ⟨w.heap.size, rfl, Nat.le_refl _, ⟨by simp, by simp, by simp, ⟨_, heap_alloc_new _ _⟩⟩, ((Below.refl _ _).drew).alloc (Nat.le_refl _) _⟩

set_option maxRecDepth 100000 in
set_option maxHeartbeats 400000 in
theorem zzNot_any (b : Nat) (s t : ByteArray) (w : World) (h : IsItem w b s t false) :
    Calls Try.prog 8 #[.pointer (some ⟨b, 0, none⟩)] w fun e w' => e = .returned (.tuple #[.pointer (some ⟨b, 0, none⟩), .bool true]) ∧ w' = w := by
  have ht := ta_item
  go_enter Try.func8, Try.ntmps8
  go_wp2_with fail
  refine (nestedNot_any _ _ _ _ h).mono ?_
  rintro e w' ⟨rfl, rfl⟩
  go_wp2
  go_ret2
  exact ⟨rfl, rfl⟩

/-- it returns a pointer to such an error, and true -/
def NewPtr (w : World) (s t : ByteArray) (e : Ending) (w' : World) : Prop :=
  ∃ b, e = .returned (.tuple #[.pointer (some ⟨b, 0, none⟩), .bool true]) ∧ w.heap.size ≤ b ∧ IsItem w' b s t false ∧ Below w.heap.size w w'

set_option maxRecDepth 100000 in
set_option maxHeartbeats 400000 in
theorem zzOwn_any (b : Nat) (s t : ByteArray) (w : World) (h : IsItem w b s t true) :
    Calls Try.prog 8 #[.pointer (some ⟨b, 0, none⟩)] w fun e w' => NewPtr w s t e w' := by
  have ht := ta_item
  go_enter Try.func8, Try.ntmps8
  go_wp2_with fail
  refine (nestedOwn_any _ _ _ _ h).mono ?_
  rintro e w' ⟨b', rfl, h1, h2, h3⟩
  go_wp2
  go_ret2
  exact ⟨b', rfl, h1, h2, h3⟩

theorem IsItem.below {w w' : World} {b : Nat} {s t : ByteArray} {o : Bool} (h : IsItem w b s t o) (e : Below w.heap.size w w') : IsItem w' b s t o := by
  have hb : b < w.heap.size := by
    obtain ⟨cs, hc⟩ := h.blk
    exact (Array.getElem?_eq_some_iff.1 hc).1
  exact ⟨(e.cell (p := ⟨b, 0, none⟩) hb).trans h.c0, (e.cell (p := ⟨b, 1, none⟩) hb).trans h.c1, (e.cell (p := ⟨b, 2, none⟩) hb).trans h.c2, by
    obtain ⟨cs, hc⟩ := h.blk
    exact ⟨cs, (e.block b hb).trans hc⟩⟩
theorem IsItem.drewN {w : World} {b : Nat} {s t : ByteArray} {o : Bool} (h : IsItem w b s t o) (n : Nat) : IsItem (w.drewN n) b s t o := ⟨h.c0, h.c1, h.c2, h.blk⟩

theorem seq_refl (s : ByteArray) : (s.toList == s.toList) = true := by simp

set_option maxRecDepth 100000 in
set_option maxHeartbeats 1000000 in
theorem nested_walk (a0 : ByteArray) (a1 : ByteArray) (a2 : Bool) (w : World) (w0 : a0.size ≤ maxLen) (w1 : a1.size ≤ maxLen) :
    Calls Try.prog 3 #[.string a0, .string a1, .bool a2] w fun e w' => e = .returned (.bool true) ∧ Below w.heap.size w w' := by
  have k0 := w0
  have k1 := w1
  unfold maxLen at k0 k1
  have hps := ptr_same
  go_enter Try.func3, Try.ntmps3
  go_wp2_with fail
  refine (bytes_any _ _ _ _ w0 w1).mono ?_
  rintro e w' ⟨⟨b, rfl⟩, hw⟩
  rw [hw]
  clear hw w'
  cases b
  · go_wp2
    go_ret
    exact ⟨rfl, Below.refl _ _⟩
  by_cases c1 : 1048576 < a0.size
  · go_wp2
    go_ret
    exact ⟨rfl, Below.refl _ _⟩
  by_cases c2 : 1048576 < a1.size
  · go_wp2
    go_ret
    exact ⟨rfl, Below.refl _ _⟩
  by_cases c3 : 1048576 < a0.size + a1.size
  · go_wp2
    go_ret
    exact ⟨rfl, Below.refl _ _⟩
  go_wp2_with fail
  refine (newItem_any _ _ _ _).mono ?_
  rintro e wa ⟨rfl, hI, hB⟩
  cases a2
  · go_wp2_with fail
    refine (zzNot_any _ _ _ _ hI).mono ?_
    rintro e w' ⟨rfl, hw⟩
    rw [hw]
    clear hw w'
    go_wp2_with fail
    refine (fields_any _ _ _ _ _ hI).mono ?_
    rintro e w' ⟨rfl, n, hw⟩
    rw [hw]
    clear hw w'
    go_wp2_with fail
    refine (zzNot_any _ _ _ _ (hI.drewN n)).mono ?_
    rintro e w' ⟨rfl, hw⟩
    rw [hw]
    clear hw w'
    go_wp2
    go_ret
    exact ⟨rfl, ⟨hB.os, hB.tape, hB.output, hB.size, hB.block⟩⟩
  · go_wp2_with fail
    refine (zzOwn_any _ _ _ _ hI).mono ?_
    rintro e wb ⟨b, rfl, hlt, hI2, hB2⟩
    have hI1 := hI.below hB2
    have hne : b ≠ w.heap.size := by
      obtain ⟨cs, hc⟩ := hI.blk
      have := (Array.getElem?_eq_some_iff.1 hc).1
      omega
    have hB3 : Below w.heap.size w wb := hB.trans (hB2.mono hB.size)
    clear hB hB2 hI hlt
    go_wp2_with fail
    refine (fields_any _ _ _ _ _ hI2).mono ?_
    rintro e w' ⟨rfl, n, hw⟩
    rw [hw]
    clear hw w'
    go_wp2_with fail
    refine (zzNot_any _ _ _ _ (hI2.drewN n)).mono ?_
    rintro e w' ⟨rfl, hw⟩
    rw [hw]
    clear hw w'
    obtain ⟨_, hk1⟩ := (hI1.drewN n).blk
    obtain ⟨_, hk2⟩ := (hI2.drewN n).blk
    have hpo := ptr_other (a := ⟨b, 0, none⟩) (b := ⟨w.heap.size, 0, none⟩) (wb.drewN n) (fun e => hne (by injection e)) hk2 hk1
    clear hk1 hk2
    go_wp2
    go_ret
    exact ⟨rfl, ⟨hB3.os, hB3.tape, hB3.output, hB3.size, hB3.block⟩⟩

end Go.Proofs.Qxb6612759a
