import Derived.Test.Qxb6612711aStale3
namespace Go.Proofs.Qxb6612711a
open Go.RowKit

/-- is f true of one of 0 .. k-1? -/
def anyB (f : Nat → Bool) (k : Nat) : Bool := (List.range k).any f
theorem anyB_zero (f : Nat → Bool) : anyB f 0 = false := rfl
theorem anyB_succ (f : Nat → Bool) (k : Nat) : anyB f (k + 1) = (anyB f k || f k) := by simp [anyB, List.range_succ, List.any_append]
theorem anyB_iff {f : Nat → Bool} {k : Nat} : anyB f k = true ↔ ∃ j, j < k ∧ f j = true := by simp [anyB]
theorem anyB_list {K : List ByteArray} {f : ByteArray → Bool} {n : Nat} (h : K.length = n) : anyB (fun j => f (nth K j)) n = true ↔ ∃ s ∈ K, f s = true := by
  rw [anyB_iff]
  constructor
  · rintro ⟨j, hj, hf⟩
    exact ⟨nth K j, nth_mem (by omega), hf⟩
  · rintro ⟨s, hs, hf⟩
    obtain ⟨j, hj, rfl⟩ := List.mem_iff_getElem.1 hs
    exact ⟨j, by omega, by rw [nth_eq hj]; exact hf⟩

theorem staleL_any {L1 L2 ad rm : List ByteArray} {n : Nat} (hn : ad.length + rm.length = n) : anyB (fun j => memB L1 (nth (cat3 ad rm []) j) != memB L2 (nth (cat3 ad rm []) j)) n = true ↔ StaleL L1 L2 ad rm := by
  rw [anyB_list (f := fun s => memB L1 s != memB L2 s) (by rw [cat3_length]; simpa using hn)]
  unfold StaleL
  constructor
  · rintro ⟨s, hs, hf⟩
    refine ⟨s, ?_, by simpa using hf⟩
    rcases cat3_mem.1 hs with h | h | h
    · exact Or.inl h
    · exact Or.inr h
    · simp at h
  · rintro ⟨s, hs, hf⟩
    refine ⟨s, cat3_mem.2 ?_, by simpa using hf⟩
    rcases hs with h | h
    · exact Or.inl h
    · exact Or.inr (Or.inl h)
theorem staleL_swap {L1 L2 ad rm : List ByteArray} : StaleL L2 L1 ad rm ↔ StaleL L1 L2 ad rm := by
  unfold StaleL
  exact ⟨fun ⟨l, h, hn⟩ => ⟨l, h, fun e => hn e.symm⟩, fun ⟨l, h, hn⟩ => ⟨l, h, fun e => hn e.symm⟩⟩
theorem staleP_swap {rep : Bool} {A B P : ByteArray → Option (Option Int)} : StaleP rep B A P ↔ StaleP rep A B P := by
  cases rep
  · rw [staleP_false, staleP_false]
    exact ⟨fun ⟨l, h, hn⟩ => ⟨l, h, fun e => hn e.symm⟩, fun ⟨l, h, hn⟩ => ⟨l, h, fun e => hn e.symm⟩⟩
  · rw [staleP_true, staleP_true]
    exact ⟨fun hn e => hn e.symm, fun hn e => hn e.symm⟩

theorem pmk_at (ps : List (ByteArray × Int)) (s : ByteArray) : pmk ps [] s = (lv ps s).map some := by simp [pmk, memB]
theorem flat_pmk (ps : List (ByteArray × Int)) (s : ByteArray) : flat (pmk ps [] s) = lv ps s := by
  rw [pmk_at]; cases lv ps s <;> rfl
theorem flat_map_inj {a b : Option Int} (h : a.map some = b.map some) : a = b := by cases a <;> cases b <;> simp_all

/-- two property maps made of pairs are one just if no key's last value differs -/
theorem stale_repl {k1 k2 : List ByteArray} {v1 v2 : List Int} {P : ByteArray → Option (Option Int)} {n : Nat} (hn : min k1.length v1.length + min k2.length v2.length = n) :
    anyB (fun j => difB (lv (prs k1 v1) (nth (cat3 (k1.take (min k1.length v1.length)) (k2.take (min k2.length v2.length)) []) j)) (lv (prs k2 v2) (nth (cat3 (k1.take (min k1.length v1.length)) (k2.take (min k2.length v2.length)) []) j))) n = true ↔
      StaleP true (pmk (prs k1 v1) []) (pmk (prs k2 v2) []) P := by
  rw [anyB_list (f := fun s => difB (lv (prs k1 v1) s) (lv (prs k2 v2) s)) (by rw [cat3_length]; simp; omega), staleP_true]
  constructor
  · rintro ⟨s, _, hf⟩ e
    have := congrFun e s
    rw [pmk_at, pmk_at] at this
    simp [difB, flat_map_inj this] at hf
  · intro hne
    refine Classical.byContradiction fun hno => hne ?_
    funext s
    rw [pmk_at, pmk_at]
    congr 1
    refine Classical.byContradiction fun hd => hno ⟨s, cat3_mem.2 ?_, by simpa [difB] using hd⟩
    rw [← prs_keys, ← prs_keys]
    refine Classical.byContradiction fun hk => hd ?_
    have h1 : s ∉ (prs k1 v1).map (·.1) := fun h => hk (Or.inl h)
    have h2 : s ∉ (prs k2 v2).map (·.1) := fun h => hk (Or.inr (Or.inl h))
    rw [lv_none_iff.2 h1, lv_none_iff.2 h2]

theorem pmk_isSome {ks : List ByteArray} {vs : List Int} {ds : List ByteArray} {s : ByteArray} : (pmk (prs ks vs) ds s).isSome = true ↔ s ∈ ks.take (min ks.length vs.length) ∨ s ∈ ds := by
  rw [← prs_keys]
  unfold pmk
  cases hd : memB ds s with
  | true => simp [memB_iff.1 hd]
  | false =>
    have hd' := memB_false.1 hd
    cases hl : lv (prs ks vs) s with
    | none =>
      have := lv_none_iff.1 hl
      simp only [Option.map_none, Option.isSome_none, Bool.false_eq_true, ite_false, false_iff]
      exact fun h => h.elim this hd'
    | some v =>
      have : s ∈ (prs ks vs).map (·.1) := Classical.byContradiction fun h => by rw [lv_none_iff.2 h] at hl; cases hl
      simp only [Option.map_some, Option.isSome_some, Bool.false_eq_true, ite_false, true_iff]
      exact Or.inl this

theorem stale_keep {k1 k2 ks ds : List ByteArray} {v1 v2 vs : List Int} {n : Nat} (hn : min ks.length vs.length + ds.length = n) :
    anyB (fun j => difB (lv (prs k1 v1) (nth (cat3 (ks.take (min ks.length vs.length)) ds []) j)) (lv (prs k2 v2) (nth (cat3 (ks.take (min ks.length vs.length)) ds []) j))) n = true ↔
      StaleP false (pmk (prs k1 v1) []) (pmk (prs k2 v2) []) (pmk (prs ks vs) ds) := by
  rw [anyB_list (f := fun s => difB (lv (prs k1 v1) s) (lv (prs k2 v2) s)) (by rw [cat3_length]; simp; omega), staleP_false]
  constructor
  · rintro ⟨s, hs, hf⟩
    refine ⟨s, pmk_isSome.2 ?_, by rw [flat_pmk, flat_pmk]; simpa [difB] using hf⟩
    rcases cat3_mem.1 hs with h | h | h
    · exact Or.inl h
    · exact Or.inr h
    · simp at h
  · rintro ⟨s, hs, hf⟩
    rw [flat_pmk, flat_pmk] at hf
    refine ⟨s, cat3_mem.2 ?_, by simpa [difB] using hf⟩
    rcases pmk_isSome.1 hs with h | h
    · exact Or.inl h
    · exact Or.inr (Or.inl h)

/-- 'stale' while the loops go -/
def stL (L1 L2 K : List ByteArray) (k : Nat) : Bool := anyB (fun j => memB L1 (nth K j) != memB L2 (nth K j)) k
theorem stL_zero (L1 L2 K : List ByteArray) : stL L1 L2 K 0 = false := rfl
theorem stL_succ (L1 L2 K : List ByteArray) (k : Nat) : stL L1 L2 K (k + 1) = (stL L1 L2 K k || (memB L1 (nth K k) != memB L2 (nth K k))) := anyB_succ _ _
def stP (p1 p2 : List (ByteArray × Int)) (K : List ByteArray) (k : Nat) : Bool := anyB (fun j => difB (lv p1 (nth K j)) (lv p2 (nth K j))) k
theorem stP_zero (p1 p2 : List (ByteArray × Int)) (K : List ByteArray) : stP p1 p2 K 0 = false := rfl
theorem stP_succ (p1 p2 : List (ByteArray × Int)) (K : List ByteArray) (k : Nat) : stP p1 p2 K (k + 1) = (stP p1 p2 K k || difB (lv p1 (nth K k)) (lv p2 (nth K k))) := anyB_succ _ _
def orB (a b : Bool) : Bool := a || b
theorem orB_false (a : Bool) : orB a false = a := by cases a <;> rfl

/-- the answers: 'got == stale && back == stale && !self' -/
theorem bools_agree {g b s1 s2 : Bool} {p q p' q' : Prop} (hg : g = true ↔ p ∨ q) (hb : b = true ↔ p' ∨ q') (hp : p' ↔ p) (hq : q' ↔ q) (h1 : s1 = true ↔ p) (h2 : s2 = true ↔ q) : g = orB s1 s2 ∧ b = orB s1 s2 := by
  unfold orB
  have e1 : g = true ↔ (s1 || s2) = true := by rw [hg, Bool.or_eq_true, h1, h2]
  have e2 : b = true ↔ (s1 || s2) = true := by rw [hb, Bool.or_eq_true, h1, h2, hp, hq]
  exact ⟨Bool.eq_iff_iff.2 e1, Bool.eq_iff_iff.2 e2⟩

end Go.Proofs.Qxb6612711a
