import Derived.Test.Qxb6612711aRows
import Derived.WalkKit
import Derived.ProofKit
import Derived.Test.Qxb6612711aPlain
import Derived.SliceStrings
namespace Go.Proofs.Qxb6612711a
open Go.ChangeShapes Go.WideShapes Go.ChangeAt Go.RowKit

/-- What the walk is told of a slice of strings that came in: its strings; where it holds any, the cells in which they lie. -/
structure IsStrs (w : World) (a : Option Addr) (len cap : Nat) (ss : List ByteArray) : Prop where
  length : ss.length = len
  le : len ≤ cap
  fits : cap ≤ maxLen
  sizes : ∀ s ∈ ss, s.size ≤ maxLen
  nil : a = none → len = 0 ∧ cap = 0
  cells : 0 < len → ∃ b off, a = some ⟨b, off, none⟩ ∧ ∀ i, i < len → w.cell? ⟨b, off + i, none⟩ = some (.string (nth ss i))

theorem addr_of_cell {w : World} {a : Addr} {v : Value} (h : w.cell? a = some v) : ∃ b off, a = ⟨b, off, none⟩ := by
  obtain ⟨b, off, p⟩ := a
  cases p with
  | none => exact ⟨b, off, rfl⟩
  | some p =>
    simp only [World.cell?] at h
    split at h <;> simp at h

theorem isStrs_of_trod {H : Type} {enc : TypeId × Value → H} {P : Program} {W : World} {t e : TypeId} {a : Option Addr} {len cap : Nat} {d : DataW H} {p : List MemPlace}
    (ht : P.underlying t = some (.slice e)) (he : P.underlying e = some .string) (hc : P.cellsOf e = 1) (h : DataW.Trod enc P W 0 (fun _ => true) true t (.slice a len cap) d p) :
    ∃ ss, IsStrs W a len cap ss := by
  obtain ⟨fuel, hf⟩ := h
  rcases open_strings ht he hc hf with ⟨hcs, _⟩ | ⟨x, l, c, zs, hcs, _, hl, hm, hz, _, hcell, hwz⟩
  · simp [Value.cells] at hcs
    obtain ⟨rfl, rfl, rfl⟩ := hcs
    exact ⟨[], rfl, Nat.le_refl _, Nat.zero_le _, by simp, fun _ => ⟨rfl, rfl⟩, fun h => by omega⟩
  · simp [Value.cells] at hcs
    obtain ⟨rfl, rfl, rfl⟩ := hcs
    simp at hz
    refine ⟨zs.take len, by simp; omega, hl, hm, fun s hs => hwz s (List.mem_of_mem_take hs), by simp, fun h => ?_⟩
    have h0 := hcell 0 (by omega)
    obtain ⟨b, off, hx⟩ := addr_of_cell h0
    obtain ⟨b', off', px⟩ := x
    cases px with
    | some px => simp [Addr.add] at hx
    | none =>
      refine ⟨b', off', rfl, fun i hi => ?_⟩
      have h1 := hcell i (by omega)
      rw [Addr.add_lit] at h1
      rw [h1]
      simp [nth, List.getD, hi]

/-- .. of a slice of integers. -/
structure IsInts (q : IntKind) (w : World) (a : Option Addr) (len cap : Nat) (zs : List Int) : Prop where
  length : zs.length = len
  le : len ≤ cap
  fits : cap ≤ maxLen
  wf : ∀ n ∈ zs, (Lit.int q n).wf = true
  nil : a = none → len = 0 ∧ cap = 0
  cells : 0 < len → ∃ b off, a = some ⟨b, off, none⟩ ∧ ∀ i, i < len → w.cell? ⟨b, off + i, none⟩ = some (.int q (zs.getD i 0))

theorem isInts_of_trod {H : Type} {enc : TypeId × Value → H} {P : Program} {W : World} {t e : TypeId} {q : IntKind} {a : Option Addr} {len cap : Nat} {d : DataW H} {p : List MemPlace}
    (ht : P.underlying t = some (.slice e)) (he : P.underlying e = some (.int q)) (hc : P.cellsOf e = 1) (h : DataW.Trod enc P W 0 (fun _ => true) true t (.slice a len cap) d p) :
    ∃ zs, IsInts q W a len cap zs := by
  obtain ⟨fuel, hf⟩ := h
  rcases open_ints ht he hc hf with ⟨hcs, _⟩ | ⟨x, l, c, zs, hcs, _, hl, hm, hz, _, hcell, hwz⟩
  · simp [Value.cells] at hcs
    obtain ⟨rfl, rfl, rfl⟩ := hcs
    exact ⟨[], rfl, Nat.le_refl _, Nat.zero_le _, by simp, fun _ => ⟨rfl, rfl⟩, fun h => by omega⟩
  · simp [Value.cells] at hcs
    obtain ⟨rfl, rfl, rfl⟩ := hcs
    simp at hz
    refine ⟨zs.take len, by simp; omega, hl, hm, fun s hs => hwz s (List.mem_of_mem_take hs), by simp, fun h => ?_⟩
    have h0 := hcell 0 (by omega)
    obtain ⟨b, off, hx⟩ := addr_of_cell h0
    obtain ⟨b', off', px⟩ := x
    cases px with
    | some px => simp [Addr.add] at hx
    | none =>
      refine ⟨b', off', rfl, fun i hi => ?_⟩
      have h1 := hcell i (by omega)
      rw [Addr.add_lit] at h1
      rw [h1]
      simp [List.getD, hi]

/-- Nothing that was there has turned. -/
def Ext (w w' : World) : Prop := Below w.heap.size w w'
theorem Ext.refl (w : World) : Ext w w := Below.refl _ _
theorem Ext.trans {a b c : World} (h : Ext a b) (k : Ext b c) : Ext a c := Below.trans h (Below.mono k h.size)
theorem Ext.alloc {a w : World} (h : Ext a w) (o : Obj) : Ext a (w.alloc o) := Below.alloc h h.size o
theorem Ext.drew {a w : World} (h : Ext a w) : Ext a w.drew := Below.drew h
theorem Ext.cell {w w' : World} (h : Ext w w') {p : Addr} {v : Value} (hp : w.cell? p = some v) : w'.cell? p = some v :=
  (Below.cell h (World.block_lt_of_cell? w p hp)).trans hp
theorem Ext.grown {w w' : World} (h : Ext w w') : w.grownBy w' none := ⟨h.os, h.tape, h.output, h.size, fun k hk _ => h.block k hk⟩

theorem IsStrs.ext {w w' : World} {a : Option Addr} {len cap : Nat} {ss : List ByteArray} (h : IsStrs w a len cap ss) (e : Ext w w') : IsStrs w' a len cap ss :=
  ⟨h.length, h.le, h.fits, h.sizes, h.nil, fun h0 => by
    obtain ⟨b, off, ha, hc⟩ := h.cells h0
    exact ⟨b, off, ha, fun i hi => e.cell (hc i hi)⟩⟩
theorem IsInts.ext {q : IntKind} {w w' : World} {a : Option Addr} {len cap : Nat} {zs : List Int} (h : IsInts q w a len cap zs) (e : Ext w w') : IsInts q w' a len cap zs :=
  ⟨h.length, h.le, h.fits, h.wf, h.nil, fun h0 => by
    obtain ⟨b, off, ha, hc⟩ := h.cells h0
    exact ⟨b, off, ha, fun i hi => e.cell (hc i hi)⟩⟩

end Go.Proofs.Qxb6612711a
