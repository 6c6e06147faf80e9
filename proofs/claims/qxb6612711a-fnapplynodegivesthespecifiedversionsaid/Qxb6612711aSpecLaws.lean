import Derived.Test.Qxb6612711aLaws
namespace Go.Proofs.Qxb6612711a
open Go.RowKit

theorem drop_cons {ss : List ByteArray} {k : Nat} (h : k < ss.length) : ss.drop k = nth ss k :: ss.drop (k + 1) := by
  rw [nth_eq h, ← List.drop_eq_getElem_cons h]

theorem sub_lt {sub of : List ByteArray} {i j : Nat} (hi : i < sub.length) (h : (sub.drop i).Sublist (of.drop j)) : j < of.length := by
  refine Classical.byContradiction fun hj => ?_
  rw [List.drop_eq_nil_of_le (by omega : of.length ≤ j), drop_cons hi] at h
  cases h
theorem sub_cons {a b : ByteArray} {l m : List ByteArray} (h : (a :: l).Sublist (b :: m)) : (a :: l).Sublist m ∨ (b = a ∧ l.Sublist m) := by
  cases h with
  | cons _ h => exact Or.inl h
  | cons_cons _ h => exact Or.inr ⟨rfl, h⟩
theorem sub_skip {sub of : List ByteArray} {i j : Nat} (hi : i < sub.length) (h : (sub.drop i).Sublist (of.drop j)) (hne : ((nth of j).toList == (nth sub i).toList) = false) : (sub.drop i).Sublist (of.drop (j + 1)) := by
  have hj := sub_lt hi h
  rw [seq_iff] at hne
  simp only [decide_eq_false_iff_not] at hne
  rw [drop_cons hj] at h
  rw [drop_cons hi] at h ⊢
  rcases sub_cons h with h | h
  · exact h
  · exact absurd h.1 hne
theorem sub_hit {sub of : List ByteArray} {i j : Nat} (hi : i < sub.length) (h : (sub.drop i).Sublist (of.drop j)) : (sub.drop (i + 1)).Sublist (of.drop (j + 1)) := by
  have hj := sub_lt hi h
  rw [drop_cons hj, drop_cons hi] at h
  rcases sub_cons h with h | h
  · exact (List.sublist_cons_self _ _).trans h
  · exact h.2

theorem keptL_sub (ls rm : List ByteArray) : (keptL ls rm).Sublist ls := List.filter_sublist

/-- 'x[m:]' of a slice of strings, m below its capacity -/
theorem IsStrs.cutFrom {w : World} {a : Option Addr} {n c : Nat} {ss : List ByteArray} (h : IsStrs w a n c ss) {m : Nat} (hm : m ≤ n) (hc : m < c) : IsStrs w (Option.map (fun x => x.add m) a) (n - m) (c - m) (ss.drop m) :=
  ⟨by rw [List.length_drop, h.length], by have := h.le; omega, by have := h.fits; omega, fun s hs => h.sizes s (List.mem_of_mem_drop hs), fun ha => by
    have : a = none := by cases a <;> simp_all
    have := h.nil this
    omega, fun h0 => by
    obtain ⟨b, off, ha, hcell⟩ := h.cells (by omega)
    refine ⟨b, off + m, by rw [ha]; simp [Addr.add_lit], fun i hi => ?_⟩
    rw [Nat.add_assoc, hcell (m + i) (by omega)]
    simp [nth, List.getElem?_drop]⟩
/-- .. m its length and capacity -/
theorem IsStrs.cutEnd {w : World} {a : Option Addr} {n c : Nat} {ss : List ByteArray} (h : IsStrs w a n c ss) {m : Nat} (hm : m ≤ n) (hc : ¬ m < c) : IsStrs w a (n - m) (c - m) (ss.drop m) :=
  have hle := h.le
  ⟨by rw [List.length_drop, h.length], by omega, by have := h.fits; omega, fun s hs => h.sizes s (List.mem_of_mem_drop hs), fun _ => by omega, fun h0 => by omega⟩

theorem countP_keptL (ls rm : List ByteArray) (x : ByteArray) : cnt (keptL ls rm) x = if memB rm x = true then 0 else cnt ls x := by
  unfold cnt keptL
  rw [List.countP_filter]
  split
  · rename_i h
    rw [List.countP_eq_zero]
    intro s hs hc
    simp only [Bool.and_eq_true, decide_eq_true_eq, Bool.not_eq_true'] at hc
    rw [hc.1, h] at hc
    exact absurd hc.2 (by simp)
  · rename_i h
    congr 1
    funext s
    by_cases e : s = x
    · subst e; simp at h; simp [h]
    · simp [e]
theorem cnt_newL (ls ad rm : List ByteArray) (x : ByteArray) : cnt (newL ls ad rm) x = wlc ls ad rm x := by
  have : cnt (newL ls ad rm) x = cnt (keptL ls rm) x + cnt (keptL ad ls) x := by unfold cnt newL; rw [List.countP_append]
  rw [this, countP_keptL, countP_keptL]
  rfl

/-! properties -/
/-- what is wanted at s -/
def wnt (rep : Bool) (p q : List (ByteArray × Int)) (ds : List ByteArray) (s : ByteArray) : Option Int := aft (bas rep (lv p s)) (lv q s) (memB ds s)
theorem chg_wnt (rep : Bool) (p q : List (ByteArray × Int)) (ds : List ByteArray) (s : ByteArray) : chg rep (pmk p []) (pmk q ds) s = (wnt rep p q ds s).map some := by
  unfold chg wnt pmk aft bas
  have hm : memB [] s = false := rfl
  rw [hm]
  cases rep <;> cases memB ds s <;> cases hq : lv q s <;> simp [apl, hasB]
theorem flat_wnt (rep : Bool) (p q : List (ByteArray × Int)) (ds : List ByteArray) (s : ByteArray) : flat (chg rep (pmk p []) (pmk q ds) s) = wnt rep p q ds s := by
  rw [chg_wnt]; cases wnt rep p q ds s <;> rfl

/-- how many of K's first k strings stand there for the first time and are wanted -/
def pres (K : List ByteArray) (f : ByteArray → Bool) (k : Nat) : Nat := (List.range k).countP (fun j => f (nth K j) && fstB K j)
theorem pres_zero (K : List ByteArray) (f : ByteArray → Bool) : pres K f 0 = 0 := rfl
theorem pres_succ (K : List ByteArray) (f : ByteArray → Bool) (k : Nat) : pres K f (k + 1) = pres K f k + if (f (nth K k) && fstB K k) = true then 1 else 0 := by
  unfold pres
  rw [List.range_succ, List.countP_append, List.countP_singleton]
theorem pres_le (K : List ByteArray) (f : ByteArray → Bool) (k : Nat) : pres K f k ≤ k := by
  have := List.countP_le_length (p := fun j => f (nth K j) && fstB K j) (l := List.range k)
  rw [List.length_range] at this
  exact this
theorem pres_list (K : List ByteArray) (f : ByteArray → Bool) : ∀ k, k ≤ K.length → ∃ ks : List ByteArray, ks.Nodup ∧ ks.length = pres K f k ∧ ∀ s, s ∈ ks ↔ s ∈ K.take k ∧ f s = true
  | 0, _ => ⟨[], List.nodup_nil, rfl, by simp⟩
  | k + 1, hk => by
    obtain ⟨ks, h1, h2, h3⟩ := pres_list K f k (by omega)
    have hs := pres_succ K f k
    have ht := take_snoc (ss := K) (k := k) (by omega)
    by_cases hf : (f (nth K k) && fstB K k) = true
    · rw [if_pos hf] at hs
      simp only [Bool.and_eq_true] at hf
      have hn : nth K k ∉ K.take k := by
        have := hf.2
        unfold fstB at this
        rw [Bool.not_eq_true'] at this
        exact memB_false.1 this
      refine ⟨nth K k :: ks, List.nodup_cons.2 ⟨fun hm => hn ((h3 _).1 hm).1, h1⟩, by rw [List.length_cons, h2, hs], fun s => ?_⟩
      rw [List.mem_cons, h3 s, ht, List.mem_append, List.mem_singleton]
      constructor
      · rintro (rfl | h)
        · exact ⟨Or.inr rfl, hf.1⟩
        · exact ⟨Or.inl h.1, h.2⟩
      · rintro ⟨h | h, hfs⟩
        · exact Or.inr ⟨h, hfs⟩
        · exact Or.inl h
    · rw [if_neg hf] at hs
      refine ⟨ks, h1, by rw [h2, hs]; rfl, fun s => ?_⟩
      rw [h3 s, ht, List.mem_append, List.mem_singleton]
      constructor
      · rintro ⟨h, hfs⟩
        exact ⟨Or.inl h, hfs⟩
      · rintro ⟨h | h, hfs⟩
        · exact ⟨h, hfs⟩
        · subst h
          refine ⟨?_, hfs⟩
          refine Classical.byContradiction fun hn => hf ?_
          simp only [Bool.and_eq_true]
          exact ⟨hfs, by unfold fstB; rw [memB_false.2 hn]; rfl⟩

theorem spec_sized {rep : Bool} {k1 ks ds : List ByteArray} {v1 vs : List Int} {n : Nat} (hn : min k1.length v1.length + min ks.length vs.length + ds.length = n) :
    Sized (chg rep (pmk (prs k1 v1) []) (pmk (prs ks vs) ds)) (pres (cat3 (k1.take (min k1.length v1.length)) (ks.take (min ks.length vs.length)) ds) (fun s => hasB (wnt rep (prs k1 v1) (prs ks vs) ds s)) n) := by
  have hl : (cat3 (k1.take (min k1.length v1.length)) (ks.take (min ks.length vs.length)) ds).length = n := by rw [cat3_length]; simp; omega
  obtain ⟨l, h1, h2, h3⟩ := pres_list (cat3 (k1.take (min k1.length v1.length)) (ks.take (min ks.length vs.length)) ds) (fun s => hasB (wnt rep (prs k1 v1) (prs ks vs) ds s)) n (by omega)
  refine ⟨l, h1, h2, fun s => ?_⟩
  rw [h3 s, List.take_of_length_le (by omega), chg_wnt]
  have e : ((wnt rep (prs k1 v1) (prs ks vs) ds s).map some).isSome = hasB (wnt rep (prs k1 v1) (prs ks vs) ds s) := by unfold hasB; cases wnt rep (prs k1 v1) (prs ks vs) ds s <;> rfl
  rw [e]
  refine ⟨fun h => h.2, fun h => ⟨?_, h⟩⟩
  rw [cat3_mem, ← prs_keys, ← prs_keys]
  refine Classical.byContradiction fun hk => ?_
  have a1 : s ∉ (prs k1 v1).map (·.1) := fun h => hk (Or.inl h)
  have a2 : s ∉ (prs ks vs).map (·.1) := fun h => hk (Or.inr (Or.inl h))
  have a3 : memB ds s = false := memB_false.2 fun h => hk (Or.inr (Or.inr h))
  unfold wnt at h
  rw [lv_none_iff.2 a1, lv_none_iff.2 a2, a3] at h
  cases rep <;> cases h

end Go.Proofs.Qxb6612711a
