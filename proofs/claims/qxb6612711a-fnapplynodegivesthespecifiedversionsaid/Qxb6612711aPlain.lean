import Derived.WalkKit
namespace Go.Proofs.Qxb6612711a

/-! Strings, as byte arrays. -/
theorem seq_iff (a b : ByteArray) : (a.toList == b.toList) = decide (a = b) := by
  rw [Bool.eq_iff_iff]
  simp only [beq_iff_eq, decide_eq_true_eq, ByteArray.toList_eq]
  constructor
  · intro h
    exact ByteArray.ext (Array.toList_inj.1 h)
  · intro h
    rw [h]

/-- the k-th string (empty where there is none) -/
def nth (ss : List ByteArray) (k : Nat) : ByteArray := ss.getD k ByteArray.empty

theorem nth_eq {ss : List ByteArray} {k : Nat} (h : k < ss.length) : nth ss k = ss[k] := by
  unfold nth; simp [List.getD, h]

theorem nth_mem {ss : List ByteArray} {k : Nat} (h : k < ss.length) : nth ss k ∈ ss := by
  rw [nth_eq h]; exact List.getElem_mem h

theorem take_snoc {ss : List ByteArray} {k : Nat} (h : k < ss.length) : ss.take (k + 1) = ss.take k ++ [nth ss k] := by
  rw [nth_eq h, List.take_succ_eq_append_getElem h]

theorem nth_size {ss : List ByteArray} (h : ∀ s ∈ ss, s.size ≤ maxLen) (i : Nat) : (nth ss i).size ≤ maxLen := by
  unfold nth
  rw [List.getD_eq_getElem?_getD]
  cases hi : ss[i]? with
  | none => simp [maxLen]
  | some s => exact h s (List.mem_of_getElem? hi)

/-- three lists, one behind another -/
def cat3 (a b c : List ByteArray) : List ByteArray := a ++ b ++ c
theorem cat3_length (a b c : List ByteArray) : (cat3 a b c).length = a.length + b.length + c.length := by simp [cat3]; omega
theorem cat3_mem {a b c : List ByteArray} {x : ByteArray} : x ∈ cat3 a b c ↔ x ∈ a ∨ x ∈ b ∨ x ∈ c := by simp [cat3]

/-- is x among ss? -/
def memB (ss : List ByteArray) (x : ByteArray) : Bool := ss.any (fun s => decide (s = x))
theorem memB_iff {ss : List ByteArray} {x : ByteArray} : memB ss x = true ↔ x ∈ ss := by simp [memB]
theorem memB_false {ss : List ByteArray} {x : ByteArray} : memB ss x = false ↔ x ∉ ss := by rw [← memB_iff]; simp

theorem memB_hit {ss : List ByteArray} {x : ByteArray} {k : Nat} (hk : k < ss.length) (h : ((nth ss k).toList == x.toList) = true) : memB ss x = true := by
  rw [seq_iff] at h
  simp at h
  rw [memB_iff, ← h]
  exact nth_mem hk

theorem memB_miss {ss : List ByteArray} {x : ByteArray} {k : Nat} (hk : k < ss.length) (h0 : memB (ss.take k) x = false) (h : ((nth ss k).toList == x.toList) = false) : memB (ss.take (k + 1)) x = false := by
  rw [seq_iff] at h
  simp at h
  rw [memB_false] at h0 ⊢
  rw [take_snoc hk]
  simp only [List.mem_append, List.mem_singleton, not_or]
  exact ⟨h0, fun e => h e.symm⟩

/-- how often does x stand in ss? -/
def cnt (ss : List ByteArray) (x : ByteArray) : Nat := ss.countP (fun s => decide (s = x))
theorem cnt_le (ss : List ByteArray) (x : ByteArray) : cnt ss x ≤ ss.length := List.countP_le_length
theorem cnt_snoc {ss : List ByteArray} {x : ByteArray} {k : Nat} (hk : k < ss.length) : cnt (ss.take (k + 1)) x = cnt (ss.take k) x + if ((nth ss k).toList == x.toList) = true then 1 else 0 := by
  unfold cnt
  rw [take_snoc hk, seq_iff]
  simp [List.countP_append, List.countP_singleton]

/-- the pairs of two lists, as far as both go -/
def prs (ks : List ByteArray) (vs : List Int) : List (ByteArray × Int) := ks.zip vs
theorem prs_length (ks : List ByteArray) (vs : List Int) : (prs ks vs).length = min ks.length vs.length := by simp [prs]
theorem prs_at {ks : List ByteArray} {vs : List Int} {m : Nat} (h1 : m < ks.length) (h2 : m < vs.length) : (prs ks vs)[m]? = some (nth ks m, vs.getD m 0) := by
  simp [prs, List.getElem?_zip_eq_some, nth, h1, h2]
theorem prs_snoc {ks : List ByteArray} {vs : List Int} {m : Nat} (h1 : m < ks.length) (h2 : m < vs.length) : (prs ks vs).take (m + 1) = (prs ks vs).take m ++ [(nth ks m, vs.getD m 0)] := by
  rw [List.take_add_one, prs_at h1 h2]; rfl

theorem snoc_ind {α : Type} {M : List α → Prop} (h0 : M []) (h1 : ∀ l p, M l → M (l ++ [p])) (l : List α) : M l := by
  rw [← List.reverse_reverse l]
  induction l.reverse with
  | nil => exact h0
  | cons p r ih => rw [List.reverse_cons]; exact h1 _ _ ih

/-- the value that stands last at k -/
def lv (ps : List (ByteArray × Int)) (k : ByteArray) : Option Int := ps.foldl (fun acc p => if p.1 = k then some p.2 else acc) none
theorem lv_nil (k : ByteArray) : lv [] k = none := rfl
theorem lv_snoc (l : List (ByteArray × Int)) (p : ByteArray × Int) (k : ByteArray) : lv (l ++ [p]) k = if p.1 = k then some p.2 else lv l k := by
  simp [lv, List.foldl_append]

theorem lv_hit {ks : List ByteArray} {vs : List Int} {k : ByteArray} {m : Nat} (h1 : m < ks.length) (h2 : m < vs.length) (h0 : lv ((prs ks vs).take (m + 1)) k = lv (prs ks vs) k) (h : ((nth ks m).toList == k.toList) = true) :
    lv (prs ks vs) k = some (vs.getD m 0) := by
  rw [seq_iff] at h
  simp only [decide_eq_true_eq] at h
  rw [← h0, prs_snoc h1 h2, lv_snoc, if_pos h]
theorem lv_miss {ks : List ByteArray} {vs : List Int} {k : ByteArray} {m : Nat} (h1 : m < ks.length) (h2 : m < vs.length) (h0 : lv ((prs ks vs).take (m + 1)) k = lv (prs ks vs) k) (h : ((nth ks m).toList == k.toList) = false) :
    lv ((prs ks vs).take m) k = lv (prs ks vs) k := by
  rw [seq_iff] at h
  simp only [decide_eq_false_iff_not] at h
  rw [← h0, prs_snoc h1 h2, lv_snoc, if_neg h]

theorem lv_some_mem {ps : List (ByteArray × Int)} {k : ByteArray} {v : Int} : lv ps k = some v → (k, v) ∈ ps := by
  refine snoc_ind (M := fun ps => lv ps k = some v → (k, v) ∈ ps) (fun h => by simp [lv_nil] at h) (fun l p ih h => ?_) ps
  rw [lv_snoc] at h
  split at h
  · rename_i e
    obtain ⟨p1, p2⟩ := p
    simp at h e
    simp [h, e]
  · exact List.mem_append_left _ (ih h)
theorem lv_none_iff {ps : List (ByteArray × Int)} {k : ByteArray} : lv ps k = none ↔ k ∉ ps.map (·.1) := by
  refine snoc_ind (M := fun ps => lv ps k = none ↔ k ∉ ps.map (·.1)) (by simp [lv_nil]) (fun l p ih => ?_) ps
  rw [lv_snoc]
  by_cases e : p.1 = k
  · simp [e]
  · rw [if_neg e, ih]
    simp only [List.map_append, List.mem_append, List.map_cons, List.map_nil, List.mem_singleton, not_or]
    exact ⟨fun h => ⟨h, fun e1 => e e1.symm⟩, fun h => h.1⟩
theorem prs_keys : ∀ (ks : List ByteArray) (vs : List Int), (prs ks vs).map (·.1) = ks.take (min ks.length vs.length)
  | [], vs => by simp [prs]
  | k :: ks, [] => by simp [prs]
  | k :: ks, v :: vs => by
    have := prs_keys ks vs
    simp only [prs] at this ⊢
    simp only [List.zip_cons_cons, List.map_cons, List.length_cons, Nat.succ_min_succ, List.take_succ_cons, this]

/-- an answer 'v, ok' -/
def valI (v : Option Int) : Int := v.getD 0
def hasB (v : Option Int) : Bool := v.isSome
def difB (a b : Option Int) : Bool := decide (a ≠ b)
theorem difB_eq (a b : Option Int) : ((hasB a != hasB b) || (valI a != valI b)) = difB a b := by
  rw [Bool.eq_iff_iff]
  cases a <;> cases b <;> simp [hasB, valI, difB]
theorem difB_has {a b : Option Int} (h : ¬ hasB a = hasB b) : difB a b = true := by
  rw [← difB_eq]; simp [h]
theorem difB_val {a b : Option Int} (h : hasB a = hasB b) : difB a b = (valI a != valI b) := by
  rw [← difB_eq, h]; simp

/-- no string of a stands in b -/
def disB (sa sb : List ByteArray) : Bool := sa.all (fun s => !memB sb s)
theorem disB_snoc {sa sb : List ByteArray} {k : Nat} (hk : k < sa.length) : disB (sa.take (k + 1)) sb = (disB (sa.take k) sb && !memB sb (nth sa k)) := by
  unfold disB
  rw [take_snoc hk]
  simp [List.all_append]
theorem disB_hit {sa sb : List ByteArray} {k : Nat} (hk : k < sa.length) (h : memB sb (nth sa k) = true) : disB sa sb = false := by
  unfold disB
  rw [List.all_eq_false]
  exact ⟨nth sa k, nth_mem hk, by simp [h]⟩
theorem disB_iff {sa sb : List ByteArray} : disB sa sb = true ↔ ∀ s ∈ sa, s ∉ sb := by
  simp [disB, memB_false]

/-- does a change that adds dA and removes dR move label x of a node that carries ls? -/
def lmv (ls dA dR : List ByteArray) (x : ByteArray) : Bool := if memB ls x = true then memB dR x else memB dA x
theorem lmv_true {ls dA dR : List ByteArray} {x : ByteArray} (h : memB ls x = true) : lmv ls dA dR x = memB dR x := by simp [lmv, h]
theorem lmv_false {ls dA dR : List ByteArray} {x : ByteArray} (h : memB ls x = false) : lmv ls dA dR x = memB dA x := by simp [lmv, h]

/-- the first place of its string? -/
def fstB (ss : List ByteArray) (i : Nat) : Bool := !memB (ss.take i) (nth ss i)

theorem fstB_hit {ss : List ByteArray} {i j : Nat} (hi : i < ss.length) (hj : j < i) (h : ((nth ss j).toList == (nth ss i).toList) = true) : fstB ss i = false := by
  have e : nth (ss.take i) j = nth ss j := by simp [nth, hj]
  have : memB (ss.take i) (nth ss i) = true := memB_hit (k := j) (by simp; omega) (by rw [e]; exact h)
  simp [fstB, this]
theorem memB_missAt {ss : List ByteArray} {x : ByteArray} {k : Nat} (hk : k < ss.length) (h0 : memB (ss.take k) x = false) (h : ((nth ss k).toList == x.toList) = false) : memB (ss.take (k + 1)) x = false := memB_miss hk h0 h

/-- what a change that sets ds and removes dD makes of a value -/
def aft (b : Option Int) (s : Option Int) (del : Bool) : Option Int := if del = true then none else if hasB s = true then s else b
theorem aft_del {b s : Option Int} : aft b s true = none := rfl
theorem aft_set {b s : Option Int} (h : hasB s = true) : aft b s false = s := by simp [aft, h]
theorem aft_not {b s : Option Int} (h : hasB s = false) : aft b s false = b := by simp [aft, h]
theorem valI_none : valI none = 0 := rfl
theorem hasB_none : hasB none = false := rfl

/-- what a change starts from: nothing, where it replaces -/
def bas (rep : Bool) (b : Option Int) : Option Int := if rep = true then none else b
theorem bas_true {b : Option Int} : bas true b = none := rfl
theorem bas_false {b : Option Int} : bas false b = b := rfl

/-- how often the label x is wanted -/
def wlc (ls ad rm : List ByteArray) (x : ByteArray) : Nat := (if memB rm x = true then 0 else cnt ls x) + (if memB ls x = true then 0 else cnt ad x)

/-! sizes of finite maps -/
/-- M has k keys. -/
def Sized (M : ByteArray → Option (Option Int)) (k : Nat) : Prop := ∃ ks : List ByteArray, ks.Nodup ∧ ks.length = k ∧ ∀ s, s ∈ ks ↔ (M s).isSome = true

theorem nodup_sub_length : ∀ {l m : List ByteArray}, l.Nodup → (∀ x ∈ l, x ∈ m) → l.length ≤ m.length
  | [], m, _, _ => by simp
  | a :: l, m, h, hs => by
    obtain ⟨h1, h2⟩ := List.nodup_cons.1 h
    obtain ⟨m1, m2, rfl⟩ := List.append_of_mem (hs a (by simp))
    have := nodup_sub_length (l := l) (m := m1 ++ m2) h2 (fun x hx => by
      have hxm := hs x (by simp [hx])
      simp only [List.mem_append, List.mem_cons] at hxm ⊢
      rcases hxm with hx1 | rfl | hx2
      · exact Or.inl hx1
      · exact absurd hx h1
      · exact Or.inr hx2)
    simp only [List.length_append, List.length_cons] at this ⊢
    omega
theorem Sized.unique {M : ByteArray → Option (Option Int)} {k k' : Nat} (h : Sized M k) (h' : Sized M k') : k = k' := by
  obtain ⟨ks, n1, rfl, m1⟩ := h
  obtain ⟨ks', n2, rfl, m2⟩ := h'
  have := nodup_sub_length n1 (fun x hx => (m2 x).2 ((m1 x).1 hx))
  have := nodup_sub_length n2 (fun x hx => (m1 x).2 ((m2 x).1 hx))
  omega
theorem nodup_full : ∀ {l m : List ByteArray}, l.Nodup → (∀ x ∈ l, x ∈ m) → m.length ≤ l.length → ∀ x ∈ m, x ∈ l := by
  intro l m h hs hl x hx
  cases hm : memB l x with
  | true => exact memB_iff.1 hm
  | false =>
    have hx' := memB_false.1 hm
    have := nodup_sub_length (l := x :: l) (m := m) (List.nodup_cons.2 ⟨hx', h⟩) (fun y hy => by
      rcases List.mem_cons.1 hy with rfl | hy
      · exact hx
      · exact hs y hy)
    simp at this
    omega
/-- one map within another of the same size is that other -/
theorem Sized.eq_of_sub {A B : ByteArray → Option (Option Int)} {k : Nat} (hA : Sized A k) (hB : Sized B k) (h : ∀ s u, A s = some u → B s = some u) : A = B := by
  obtain ⟨ks, n1, l1, m1⟩ := hA
  obtain ⟨ks', n2, l2, m2⟩ := hB
  have sub : ∀ x ∈ ks, x ∈ ks' := fun x hx => by
    obtain ⟨u, hu⟩ := Option.isSome_iff_exists.1 ((m1 x).1 hx)
    rw [m2 x, h x u hu]; rfl
  have full := nodup_full n1 sub (by omega)
  funext s
  cases hs : A s with
  | some u => exact (h s u hs).symm
  | none =>
    cases hb : B s with
    | none => rfl
    | some u =>
      have : s ∈ ks := full s ((m2 s).2 (by rw [hb]; rfl))
      have := (m1 s).1 this
      rw [hs] at this
      cases this

end Go.Proofs.Qxb6612711a
