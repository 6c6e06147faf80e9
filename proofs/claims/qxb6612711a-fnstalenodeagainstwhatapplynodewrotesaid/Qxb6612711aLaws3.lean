import Derived.Test.Qxb6612711aLaws2
namespace Go.Proofs.Qxb6612711a
open Go.RowKit

theorem lmv_eq (ls dA dR : List ByteArray) (s : ByteArray) : lmv ls dA dR s = (memB ls s != memB (newL ls dA dR) s) := by
  cases hl : memB ls s with
  | true =>
    rw [lmv_true hl]
    have hs := memB_iff.1 hl
    cases hr : memB dR s with
    | true =>
      have : memB (newL ls dA dR) s = false := by
        rw [memB_false, newL_mem]
        rintro (⟨_, h⟩ | ⟨_, h⟩)
        · exact h (memB_iff.1 hr)
        · exact h hs
      rw [this]; rfl
    | false =>
      have : memB (newL ls dA dR) s = true := memB_iff.2 (newL_mem.2 (Or.inl ⟨hs, memB_false.1 hr⟩))
      rw [this]; rfl
  | false =>
    rw [lmv_false hl]
    have hs := memB_false.1 hl
    cases ha : memB dA s with
    | true =>
      have : memB (newL ls dA dR) s = true := memB_iff.2 (newL_mem.2 (Or.inr ⟨memB_iff.1 ha, hs⟩))
      rw [this]; rfl
    | false =>
      have : memB (newL ls dA dR) s = false := by
        rw [memB_false, newL_mem]
        rintro (⟨h, _⟩ | ⟨h, _⟩)
        · exact hs h
        · exact memB_false.1 ha h
      rw [this]; rfl

def stM (ls dA dR K : List ByteArray) (k : Nat) : Bool := anyB (fun j => lmv ls dA dR (nth K j)) k
theorem stM_succ (ls dA dR K : List ByteArray) (k : Nat) : stM ls dA dR K (k + 1) = (stM ls dA dR K k || lmv ls dA dR (nth K k)) := anyB_succ _ _
theorem stM_iff {ls dA dR ad rm : List ByteArray} {n : Nat} (hn : ad.length + rm.length = n) : stM ls dA dR (cat3 ad rm []) n = true ↔ StaleL ls (newL ls dA dR) ad rm := by
  rw [← staleL_any hn]
  unfold stM
  have : (fun j => lmv ls dA dR (nth (cat3 ad rm []) j)) = fun j => memB ls (nth (cat3 ad rm []) j) != memB (newL ls dA dR) (nth (cat3 ad rm []) j) := by
    funext j; exact lmv_eq _ _ _ _
  rw [this]

/-- has a change that sets q and removes ds moved the value at s? -/
def pmv (p q : List (ByteArray × Int)) (ds : List ByteArray) (s : ByteArray) : Bool := difB (lv p s) (aft (lv p s) (lv q s) (memB ds s))
def stQ (p q : List (ByteArray × Int)) (ds K : List ByteArray) (k : Nat) : Bool := anyB (fun j => pmv p q ds (nth K j)) k
theorem stQ_zero (p q : List (ByteArray × Int)) (ds K : List ByteArray) : stQ p q ds K 0 = false := rfl
theorem stQ_succ (p q : List (ByteArray × Int)) (ds K : List ByteArray) (k : Nat) : stQ p q ds K (k + 1) = (stQ p q ds K k || pmv p q ds (nth K k)) := anyB_succ _ _

theorem chg_at (p q : List (ByteArray × Int)) (ds : List ByteArray) (s : ByteArray) : chg false (pmk p []) (pmk q ds) s = (aft (lv p s) (lv q s) (memB ds s)).map some := by
  unfold chg
  rw [pmk_at]
  unfold pmk aft
  cases memB ds s with
  | true => simp [apl]
  | false => cases hq : lv q s <;> simp [apl, hasB]
theorem flat_chg (p q : List (ByteArray × Int)) (ds : List ByteArray) (s : ByteArray) : flat (chg false (pmk p []) (pmk q ds) s) = aft (lv p s) (lv q s) (memB ds s) := by
  rw [chg_at]; cases aft (lv p s) (lv q s) (memB ds s) <;> rfl

theorem moved_repl {k1 ks ds : List ByteArray} {v1 vs : List Int} {P : ByteArray → Option (Option Int)} {n : Nat} (hn : min k1.length v1.length + min ks.length vs.length + ds.length = n) :
    stQ (prs k1 v1) (prs ks vs) ds (cat3 (k1.take (min k1.length v1.length)) (ks.take (min ks.length vs.length)) ds) n = true ↔ StaleP true (pmk (prs k1 v1) []) (chg false (pmk (prs k1 v1) []) (pmk (prs ks vs) ds)) P := by
  unfold stQ
  rw [anyB_list (f := pmv (prs k1 v1) (prs ks vs) ds) (by rw [cat3_length]; simp; omega), staleP_true]
  constructor
  · rintro ⟨s, _, hf⟩ e
    have := congrFun e s
    rw [pmk_at, chg_at] at this
    simp only [pmv, difB, decide_eq_true_eq] at hf
    exact hf (flat_map_inj this)
  · intro hne
    refine Classical.byContradiction fun hno => hne ?_
    funext s
    rw [pmk_at, chg_at]
    congr 1
    refine Classical.byContradiction fun hd => hno ⟨s, cat3_mem.2 ?_, by simp only [pmv, difB, decide_eq_true_eq]; exact hd⟩
    rw [← prs_keys, ← prs_keys]
    refine Classical.byContradiction fun hk => hd ?_
    have h1 : s ∉ (prs k1 v1).map (·.1) := fun h => hk (Or.inl h)
    have h2 : s ∉ (prs ks vs).map (·.1) := fun h => hk (Or.inr (Or.inl h))
    have h3 : memB ds s = false := memB_false.2 fun h => hk (Or.inr (Or.inr h))
    rw [lv_none_iff.2 h1, lv_none_iff.2 h2, h3]
    rfl

theorem moved_keep {k1 ks ds cs : List ByteArray} {v1 vs : List Int} {n : Nat} (hn : cs.length = n) :
    stQ (prs k1 v1) (prs ks vs) ds cs n = true ↔ StaleP false (pmk (prs k1 v1) []) (chg false (pmk (prs k1 v1) []) (pmk (prs ks vs) ds)) (pmk (prs [] []) cs) := by
  unfold stQ
  rw [anyB_list (f := pmv (prs k1 v1) (prs ks vs) ds) hn, staleP_false]
  constructor
  · rintro ⟨s, hs, hf⟩
    refine ⟨s, pmk_isSome.2 (Or.inr hs), ?_⟩
    rw [flat_pmk, flat_chg]
    simpa only [pmv, difB, decide_eq_true_eq] using hf
  · rintro ⟨s, hs, hf⟩
    rw [flat_pmk, flat_chg] at hf
    refine ⟨s, ?_, by simp only [pmv, difB, decide_eq_true_eq]; exact hf⟩
    rcases pmk_isSome.1 hs with h | h
    · simp at h
    · exact h

theorem bools_agree1 {g s1 s2 : Bool} {p q : Prop} (hg : g = true ↔ p ∨ q) (h1 : s1 = true ↔ p) (h2 : s2 = true ↔ q) : g = orB s1 s2 := by
  have e1 : g = true ↔ (s1 || s2) = true := by rw [hg, Bool.or_eq_true, h1, h2]
  exact Bool.eq_iff_iff.2 e1

end Go.Proofs.Qxb6612711a
