import Derived.Test.Qxb6612711aCopy
namespace Go.Proofs.Qxb6612711a
open Go.RowKit

theorem keptL_mem {ls rm : List ByteArray} {s : ByteArray} : s ∈ keptL ls rm ↔ s ∈ ls ∧ s ∉ rm := by
  unfold keptL
  rw [List.mem_filter, Bool.not_eq_true', memB_false]
theorem newL_mem {ls ad rm : List ByteArray} {s : ByteArray} : s ∈ newL ls ad rm ↔ (s ∈ ls ∧ s ∉ rm) ∨ (s ∈ ad ∧ s ∉ ls) := by
  unfold newL
  rw [List.mem_append, keptL_mem, keptL_mem]
theorem newL_add {ls ad rm : List ByteArray} (hd : ∀ s ∈ ad, s ∉ rm) {s : ByteArray} (hs : s ∈ ad) : s ∈ newL ls ad rm := by
  rw [newL_mem]
  cases hm : memB ls s with
  | true => exact Or.inl ⟨memB_iff.1 hm, hd s hs⟩
  | false => exact Or.inr ⟨hs, memB_false.1 hm⟩
theorem newL_rem {ls ad rm : List ByteArray} (hd : ∀ s ∈ ad, s ∉ rm) {s : ByteArray} (hs : s ∈ rm) : s ∉ newL ls ad rm := by
  rw [newL_mem]
  rintro (⟨_, h⟩ | ⟨h, _⟩)
  · exact h hs
  · exact hd s h hs
theorem newL_twice {ls ad rm : List ByteArray} (hd : ∀ s ∈ ad, s ∉ rm) : newL (newL ls ad rm) ad rm = newL ls ad rm := by
  have h1 : keptL (newL ls ad rm) rm = newL ls ad rm := by
    conv => lhs; unfold keptL
    rw [List.filter_eq_self]
    intro s hs
    rw [Bool.not_eq_true', memB_false]
    exact fun h => newL_rem hd h hs
  have h2 : keptL ad (newL ls ad rm) = [] := by
    conv => lhs; unfold keptL
    rw [List.filter_eq_nil_iff]
    intro s hs
    rw [Bool.not_eq_true', memB_false]
    exact fun h => h (newL_add hd hs)
  show keptL (newL ls ad rm) rm ++ keptL ad (newL ls ad rm) = newL ls ad rm
  rw [h1, h2, List.append_nil]

theorem chg_twice (rep : Bool) (M P : ByteArray → Option (Option Int)) : chg rep (chg rep M P) P = chg rep M P := by
  funext s
  unfold chg
  cases rep <;> rcases P s with _ | _ | v <;> simp [apl]

/-- a key that the change sets and does not remove -/
theorem chg_set {rep : Bool} {M : ByteArray → Option (Option Int)} {ks : List ByteArray} {vs : List Int} {ds : List ByteArray} {i : Nat} (h1 : i < ks.length) (h2 : i < vs.length) (hd : memB ds (nth ks i) = false) :
    flat (chg rep M (pmk (prs ks vs) ds) (nth ks i)) = lv (prs ks vs) (nth ks i) ∧ hasB (lv (prs ks vs) (nth ks i)) = true := by
  have hs : lv (prs ks vs) (nth ks i) ≠ none := by
    rw [Ne, lv_none_iff, Classical.not_not, prs_keys]
    rw [List.mem_iff_getElem?]
    refine ⟨i, ?_⟩
    rw [List.getElem?_take, if_pos (by omega), List.getElem?_eq_getElem h1, nth_eq h1]
  obtain ⟨v, hv⟩ := Option.ne_none_iff_exists'.1 hs
  simp [chg, pmk, hd, hv, apl, flat, hasB]
/-- a key that it removes -/
theorem chg_del {rep : Bool} {M : ByteArray → Option (Option Int)} {ps : List (ByteArray × Int)} {ds : List ByteArray} {s : ByteArray} (hd : s ∈ ds) : flat (chg rep M (pmk ps ds) s) = none := by
  simp [chg, pmk, memB_iff.2 hd, apl, flat]

theorem isStrs_nil (w : World) : IsStrs w none 0 0 [] := ⟨rfl, Nat.le_refl _, Nat.zero_le _, by simp, fun _ => ⟨rfl, rfl⟩, fun h => by omega⟩
theorem isInts_nil (w : World) : IsInts .i64 w none 0 0 [] := ⟨rfl, Nat.le_refl _, Nat.zero_le _, by simp, fun _ => ⟨rfl, rfl⟩, fun h => by omega⟩

/-- 'x[:m]' of a slice of strings -/
theorem IsStrs.cutTo {w : World} {a : Option Addr} {n c : Nat} {ss : List ByteArray} (h : IsStrs w a n c ss) {m : Nat} (hm : m ≤ n) : IsStrs w a m c (ss.take m) :=
  ⟨by rw [List.length_take, h.length]; omega, Nat.le_trans hm h.le, h.fits, fun s hs => h.sizes s (List.mem_of_mem_take hs), fun ha => ⟨by have := h.nil ha; omega, (h.nil ha).2⟩, fun h0 => by
    obtain ⟨b, off, ha, hc⟩ := h.cells (by omega)
    exact ⟨b, off, ha, fun i hi => by rw [hc i (by omega)]; simp [nth, hi]⟩⟩

theorem addr_add_zero (x : Addr) : x.add 0 = x := by
  unfold Addr.add
  split <;> simp_all
theorem slice_to (w : World) (a : Option Addr) (n c m : Nat) (hm : m ≤ c) : (Instr.slice 22 (.slice a n c) none (some (.int .i64 (m : Int))) none).run Try.prog w = .ok (.slice a m c) w := by
  have h9 : Try.prog.elem 22 = 9 := by kernel_rfl
  have hsz : (sizeOf 9).run Try.prog w = .ok 1 w := by kernel_rfl
  rw [run_slice_h w 22 a n c (by rw [h9]; exact Try.underlying22) .i64 m (by omega) (by omega), h9, hsz]
  have e : Option.map (fun x : Addr => x.add (0 * 1)) a = a := by cases a <;> simp [addr_add_zero]
  simp only [Result.andThen, sliced, e, ite_self, Nat.sub_zero, Int.toNat_natCast]

/-- 'len(m)', after whatever draws -/
theorem IsPM.lenN {w : World} {b n : Nat} {M : ByteArray → Option (Option Int)} (h : IsPM w b n M) {k : Nat} (hk : Sized M k) (nq : Nat) (ty : TypeId) : (Builtin.len_ #[27] ty #[.map (some b)]).run Try.prog (w.drewN nq) = .ok (.int .i64 (k : Int)) (w.drewN nq) := by
  obtain ⟨k', h1, _, h2⟩ := (h.ext (Ext.drewN w nq)).sized
  rw [hk.unique h1]
  exact h2 ty

/-- A change lies in block b. -/
structure IsChg (w : World) (b : Nat) (rep : Bool) (bp : Nat) (vA vR : Value) : Prop where
  c0 : w.cell? ⟨b, 0, none⟩ = some (.bool rep)
  c1 : w.cell? ⟨b, 1, none⟩ = some (.map (some bp))
  c2 : w.cell? ⟨b, 2, none⟩ = some vA
  c3 : w.cell? ⟨b, 3, none⟩ = some vR
theorem IsChg.ext {w w' : World} {b : Nat} {rep : Bool} {bp : Nat} {vA vR : Value} (h : IsChg w b rep bp vA vR) (e : Ext w w') : IsChg w' b rep bp vA vR :=
  ⟨e.cell h.c0, e.cell h.c1, e.cell h.c2, e.cell h.c3⟩

end Go.Proofs.Qxb6612711a
