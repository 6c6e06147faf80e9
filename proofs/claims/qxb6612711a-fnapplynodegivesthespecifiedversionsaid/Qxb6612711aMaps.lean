import Derived.Test.Qxb6612711aKit
import Derived.Maps.RangeWalk
import Derived.Maps.Ext
import Derived.StringKeys
import Derived.Laws.IdiomRangeMap
namespace Go.Proofs.Qxb6612711a
open Go.RowKit Go.WideMaps
open Go.Maps (Keyed)

/-! A property map: at each string nothing, nil or an int64. -/
def anyV : Option Int → Value
  | none => .nilIface
  | some n => .iface 2 (.int .i64 n)
def anyD : Option Int → DataW Unit
  | none => .nil
  | some n => .lit (.int .i64 n)
def anyR (v : Value) : Option (DataW Unit × List MemPlace) :=
  match v with
  | .nilIface => some (.nil, [])
  | .iface t (.int q n) => if t = 2 ∧ q = .i64 then some (.lit (.int .i64 n), []) else none
  | _ => none
def unD : DataW Unit → Option Int
  | .lit (.int _ n) => some n
  | _ => none

theorem unD_anyD (u : Option Int) : unD (anyD u) = u := by cases u <;> rfl
theorem anyR_anyV (u : Option Int) : anyR (anyV u) = some (anyD u, []) := by cases u <;> simp [anyR, anyV, anyD]
theorem anyR_inv {v : Value} {z : DataW Unit × List MemPlace} (h : anyR v = some z) : ∃ u, v = anyV u ∧ z = (anyD u, []) := by
  unfold anyR at h
  split at h
  · cases h; exact ⟨none, rfl, rfl⟩
  · split at h
    · rename_i hc
      obtain ⟨rfl, rfl⟩ := hc
      cases h
      exact ⟨some _, rfl, rfl⟩
    · cases h
  · cases h

def skey (s : ByteArray) : Lit := .string s.data.toList
theorem skey_inj {a b : ByteArray} (h : skey a = skey b) : a = b := by
  unfold skey at h
  simp at h
  exact ByteArray.ext h
theorem skey_key (s : ByteArray) : WideAt.IsKeyLit (skey s) := trivial
theorem skey_same (a b : ByteArray) : (skey a).sameKey (skey b) = decide (a = b) := by
  by_cases e : a = b
  · subst e; simp [WideAt.sameKey_self (skey_key a)]
  · rw [Maps.sameKey_ne (fun h => e (skey_inj h))]; simp [e]

theorem law : Keyed Try.prog 9 := Maps.string_keyed Try.underlying9
theorem key_mk {s : ByteArray} (h : s.size ≤ maxLen) : keyOf Try.prog 9 (.string s) = some (skey s) := keyOf_string_mk Try.underlying9 h
theorem key_inv {v : Value} {kl : Lit} (h : keyOf Try.prog 9 v = some kl) : ∃ s, v = .string s ∧ kl = skey s ∧ s.size ≤ maxLen := by
  rw [keyOf_string Try.underlying9] at h
  cases v <;> simp [mapKey, Try.underlying9] at h
  exact ⟨_, rfl, h.2.symm, h.1⟩
theorem zero20 (w : World) : (zeroValue 20).run Try.prog w = .ok .nilIface w := by kernel_rfl

/-- what the datum holds at s -/
def look (D : DataW Unit) (s : ByteArray) : Option (Option Int) := if Maps.has D (skey s) = true then some (unD (D.atKey (skey s) .nil)) else none

/-- 'm' with 'u' at 's' -/
def upd (M : ByteArray → Option (Option Int)) (s : ByteArray) (u : Option (Option Int)) : ByteArray → Option (Option Int) := fun x => if x = s then u else M x

theorem look_put {D : DataW Unit} (hD : Maps.IsMap D) (s : ByteArray) (u : Option Int) : look (D.put (skey s) (anyD u)) = upd (look D) s (some u) := by
  funext x
  unfold look upd
  by_cases e : x = s
  · subst e
    rw [Maps.has_put_same hD (skey_key x), Maps.atKey_put_same hD (skey_key x)]
    simp [unD_anyD]
  · have hne : skey x ≠ skey s := fun h => e (skey_inj h)
    rw [Maps.has_put_other hne, Maps.atKey_put_other hne, if_neg e]
theorem look_del (D : DataW Unit) (s : ByteArray) : look (D.del (skey s)) = upd (look D) s none := by
  funext x
  unfold look upd
  by_cases e : x = s
  · subst e
    rw [Maps.has_del_same]
    simp
  · have hne : skey x ≠ skey s := fun h => e (skey_inj h)
    rw [Maps.has_del_other hne, Maps.atKey_del_other hne, if_neg e]
theorem look_empty : look (.map []) = fun _ => none := by funext x; rfl
theorem look_isSome (D : DataW Unit) (s : ByteArray) : (look D s).isSome = Maps.has D (skey s) := by
  unfold look
  cases Maps.has D (skey s) <;> simp

/-- BLOCK b OF w IS A PROPERTY MAP OF AT MOST n ENTRIES THAT HOLDS M. -/
def IsPM (w : World) (b n : Nat) (M : ByteArray → Option (Option Int)) : Prop := ∃ D : DataW Unit, w.ownsMap Try.prog 9 anyR b n D ∧ look D = M

theorem IsPM.made (w : World) : IsPM (w.alloc (.map #[] 0)) w.heap.size 0 (fun _ => none) := ⟨_, World.ownsMap_made w Try.prog 9 anyR, look_empty⟩
theorem IsPM.kept {w w' : World} {b n : Nat} {M : ByteArray → Option (Option Int)} {row : Option Nat} (h : IsPM w b n M) (hg : w.grownBy w' row) (hne : some b ≠ row) : IsPM w' b n M := by
  obtain ⟨D, h1, h2⟩ := h
  exact ⟨D, h1.kept hg hne, h2⟩
theorem IsPM.ext {w w' : World} {b n : Nat} {M : ByteArray → Option (Option Int)} (h : IsPM w b n M) (e : Ext w w') : IsPM w' b n M := h.kept e.grown (by simp)
theorem IsPM.mono {w : World} {b n n' : Nat} {M : ByteArray → Option (Option Int)} (h : IsPM w b n M) (hn : n ≤ n') : IsPM w b n' M := by
  obtain ⟨D, h1, h2⟩ := h
  exact ⟨D, h1.mono hn, h2⟩
theorem IsPM.lt {w : World} {b n : Nat} {M : ByteArray → Option (Option Int)} (h : IsPM w b n M) : b < w.heap.size := by
  obtain ⟨D, h1, h2⟩ := h
  exact h1.lt

/-- 'm[s]' -/
def anyL (o : Option (Option Int)) : Value := anyV (o.getD none)
theorem IsPM.lookup {w : World} {b n : Nat} {M : ByteArray → Option (Option Int)} (h : IsPM w b n M) {s : ByteArray} (hs : s.size ≤ maxLen) :
    (Instr.lookup 27 (.map (some b)) (.string s) false).run Try.prog w = .ok (anyL (M s)) w := by
  obtain ⟨D, h1, rfl⟩ := h
  obtain ⟨v, ps, hrun, hv⟩ := h1.lookup law Try.underlying27 (zero20 w) (anyR_anyV none) (key_mk hs)
  rw [hrun]
  obtain ⟨u, rfl, hu⟩ := anyR_inv hv
  simp only [Prod.mk.injEq] at hu
  have hd : D.atKey (skey s) .nil = anyD u := hu.1
  unfold look anyL
  cases hh : Maps.has D (skey s)
  · rw [Maps.atKey_of_not_has hh] at hd
    cases u with
    | none => rfl
    | some n => cases hd
  · rw [hd, unD_anyD]; rfl
/-- 'v, ok := m[s]' -/
theorem IsPM.lookup_ok {w : World} {b n : Nat} {M : ByteArray → Option (Option Int)} (h : IsPM w b n M) {s : ByteArray} (hs : s.size ≤ maxLen) :
    (Instr.lookup 27 (.map (some b)) (.string s) true).run Try.prog w = .ok (.tuple #[anyL (M s), .bool (M s).isSome]) w := by
  obtain ⟨D, h1, rfl⟩ := h
  obtain ⟨v, ps, hrun, hv⟩ := h1.look_ok law Try.underlying27 (zero20 w) (anyR_anyV none) (key_mk hs)
  rw [hrun, look_isSome]
  obtain ⟨u, rfl, hu⟩ := anyR_inv hv
  simp only [Prod.mk.injEq] at hu
  have hd : D.atKey (skey s) .nil = anyD u := hu.1
  have : anyL (look D s) = anyV u := by
    unfold look anyL
    cases hh : Maps.has D (skey s)
    · rw [Maps.atKey_of_not_has hh] at hd
      cases u with
      | none => rfl
      | some n => cases hd
    · rw [hd, unD_anyD]; rfl
  rw [this]
/-- 'm[s] = v' -/
theorem IsPM.update {w : World} {b n : Nat} {M : ByteArray → Option (Option Int)} (h : IsPM w b n M) (hn : n < maxLen) {s : ByteArray} (hs : s.size ≤ maxLen) (u : Option Int) :
    ∃ w', (Instr.mapUpdate 27 (.map (some b)) (.string s) (anyV u)).run Try.prog w = .ok () w' ∧ IsPM w' b (n + 1) (upd M s (some u)) ∧ w.mapTurned w' b := by
  obtain ⟨D, h1, rfl⟩ := h
  obtain ⟨w', hrun, h2, h3⟩ := h1.store law Try.underlying27 hn (key_mk hs) (anyR_anyV u)
  exact ⟨w', hrun, ⟨_, h2, look_put h1.isMap s u⟩, h3⟩
/-- 'delete(m, s)' -/
theorem IsPM.drop {w : World} {b n : Nat} {M : ByteArray → Option (Option Int)} (h : IsPM w b n M) {s : ByteArray} (hs : s.size ≤ maxLen) (ty : TypeId) :
    ∃ w', (Builtin.delete_ #[27, 9] ty #[.map (some b), .string s]).run Try.prog w = .ok (.tuple #[]) w' ∧ IsPM w' b n (upd M s none) ∧ w.mapTurned w' b := by
  obtain ⟨D, h1, rfl⟩ := h
  obtain ⟨w', hrun, h2, h3⟩ := h1.drop law Try.underlying27 (key_mk hs) ty
  exact ⟨w', hrun, ⟨_, h2, look_del D s⟩, h3⟩

theorem strs_of_keys {es : List (Lit × DataW Unit)} (h : ∀ p ∈ es, ∃ s, p.1 = skey s) (hp : es.Pairwise (fun p q => p.1 ≠ q.1)) : ∃ ks : List ByteArray, ks.Nodup ∧ ks.length = es.length ∧ ∀ s, s ∈ ks ↔ ∃ p ∈ es, p.1 = skey s := by
  induction es with
  | nil => exact ⟨[], List.nodup_nil, rfl, by simp⟩
  | cons p r ih =>
    obtain ⟨h1, h2⟩ := List.pairwise_cons.1 hp
    obtain ⟨ks, k1, k2, k3⟩ := ih (fun q hq => h q (by simp [hq])) h2
    obtain ⟨s, hs⟩ := h p (by simp)
    refine ⟨s :: ks, List.nodup_cons.2 ⟨fun hm => ?_, k1⟩, by simp [k2], fun x => ?_⟩
    · obtain ⟨q, hq, hqs⟩ := (k3 s).1 hm
      exact h1 q hq (hs.trans hqs.symm)
    · rw [List.mem_cons, k3 x]
      constructor
      · rintro (rfl | ⟨q, hq, hqs⟩)
        · exact ⟨p, by simp, hs⟩
        · exact ⟨q, by simp [hq], hqs⟩
      · rintro ⟨q, hq, hqs⟩
        rcases List.mem_cons.1 hq with rfl | hq'
        · exact Or.inl (skey_inj (hqs.symm.trans hs))
        · exact Or.inr ⟨q, hq', hqs⟩

theorem IsPM.sized {w : World} {b n : Nat} {M : ByteArray → Option (Option Int)} (h : IsPM w b n M) :
    ∃ k, Sized M k ∧ k ≤ n ∧ ∀ ty, (Builtin.len_ #[27] ty #[.map (some b)]).run Try.prog w = .ok (.int .i64 (k : Int)) w := by
  obtain ⟨D, h1, rfl⟩ := h
  have hlen := fun ty => h1.len Try.underlying27 ty
  have hsz := h1.size_le
  obtain ⟨es, clock, hb, F, hs, rfl⟩ := h1
  refine ⟨_, ?_, hsz, hlen⟩
  have hk : ∀ p ∈ (es.toList.map (WideElems.rg Try.prog 9 anyR)).foldr DataW.insert [], ∃ s, p.1 = skey s := by
    intro p hp
    obtain ⟨x, hx, rfl⟩ := List.mem_map.1 (mem_sorted.1 hp)
    obtain ⟨y, hy⟩ := F.reads x hx
    rw [WideElems.rg_of hy]
    obtain ⟨s, _, e, _⟩ := key_inv (WideElems.rd_key hy)
    exact ⟨s, e⟩
  have hp : ((es.toList.map (WideElems.rg Try.prog 9 anyR)).foldr DataW.insert []).Pairwise (fun p q => p.1 ≠ q.1) :=
    ((WideShapes.sorted_perm _).pairwise_iff (fun {_ _} hne => Ne.symm hne)).2 (Maps.fit_apart law F)
  obtain ⟨ks, k1, k2, k3⟩ := strs_of_keys hk hp
  refine ⟨ks, k1, k2, fun s => ?_⟩
  rw [k3 s, look_isSome, Maps.has_eq, List.any_eq_true]
  constructor
  · rintro ⟨p, hp, e⟩
    exact ⟨p, hp, by rw [e]; exact WideAt.sameKey_self (skey_key s)⟩
  · rintro ⟨p, hp, e⟩
    exact ⟨p, hp, WideAt.sameKey_eq e⟩

theorem IsPM.small {w : World} {b n : Nat} {M : ByteArray → Option (Option Int)} (h : IsPM w b n M) {s : ByteArray} {u : Option Int} (hs : M s = some u) : s.size ≤ maxLen := by
  obtain ⟨D, h1, rfl⟩ := h
  have hh : Maps.has D (skey s) = true := by rw [← look_isSome, hs]; rfl
  obtain ⟨es, clock, hb, F, _, rfl⟩ := h1
  rw [Maps.has_eq, List.any_eq_true] at hh
  obtain ⟨p, hp, e⟩ := hh
  obtain ⟨x, hx, rfl⟩ := List.mem_map.1 (mem_sorted.1 hp)
  obtain ⟨y, hy⟩ := F.reads x hx
  rw [WideElems.rg_of hy] at e
  obtain ⟨s', _, e', hs'⟩ := key_inv (WideElems.rd_key hy)
  have := WideAt.sameKey_eq e
  rw [e'] at this
  rw [← skey_inj this]
  exact hs'

/-- 'for k, v := range m' under way: 'left': the keys still to come. -/
def RgPM (w : World) (b r n : Nat) (M : ByteArray → Option (Option Int)) (left : ByteArray → Bool) (cnt : Nat) : Prop :=
  ∃ (D : DataW Unit) (lf : Lit → Bool), w.ranges Try.prog 9 anyR b r n D lf cnt ∧ look D = M ∧ ∀ s, lf (skey s) = left s

theorem RgPM.owns {w : World} {b r n : Nat} {M : ByteArray → Option (Option Int)} {left : ByteArray → Bool} {cnt : Nat} (h : RgPM w b r n M left cnt) : IsPM w b n M := by
  obtain ⟨D, lf, h1, h2, _⟩ := h
  exact ⟨D, h1.owns, h2⟩
theorem RgPM.left_eq {w : World} {b r n : Nat} {M : ByteArray → Option (Option Int)} {left : ByteArray → Bool} {cnt : Nat} (h : RgPM w b r n M left cnt) : w.rangeLeft b r = cnt := by
  obtain ⟨D, lf, h1, _⟩ := h
  exact h1.left_eq
theorem RgPM.lt {w : World} {b r n : Nat} {M : ByteArray → Option (Option Int)} {left : ByteArray → Bool} {cnt : Nat} (h : RgPM w b r n M left cnt) : r < w.heap.size := by
  obtain ⟨D, lf, h1, _⟩ := h
  exact h1.lt
theorem RgPM.kept {w w' : World} {b r n : Nat} {M : ByteArray → Option (Option Int)} {left : ByteArray → Bool} {cnt : Nat} {row : Option Nat} (h : RgPM w b r n M left cnt) (hg : w.grownBy w' row) (hb : some b ≠ row) (hr : some r ≠ row) : RgPM w' b r n M left cnt := by
  obtain ⟨D, lf, h1, h2⟩ := h
  exact ⟨D, lf, h1.kept hg hb hr, h2⟩

theorem IsPM.range {w : World} {b n : Nat} {M : ByteArray → Option (Option Int)} (h : IsPM w b n M) :
    ∃ w' cnt, (Instr.range 27 (.map (some b))).run Try.prog w = .ok (.pointer (some ⟨w.heap.size, 0, none⟩)) w' ∧ RgPM w' b w.heap.size n M (fun s => (M s).isSome) cnt ∧ w.grownBy w' none ∧ w'.heap.size = w.heap.size + 1 ∧ cnt ≤ n := by
  obtain ⟨D, h1, rfl⟩ := h
  obtain ⟨w', r1, r2, r3, r4⟩ := h1.range law Try.underlying27
  exact ⟨w', _, r1, ⟨D, _, r2, rfl, fun s => (look_isSome D s).symm⟩, r3, r4, h1.size_le⟩

theorem RgPM.next {w : World} {b r n : Nat} {M : ByteArray → Option (Option Int)} {left : ByteArray → Bool} {cnt : Nat} (h : RgPM w b r n M left cnt) (ty : TypeId) :
    ((∀ s, left s = false) ∧ (Instr.next (.pointer (some ⟨r, 0, none⟩)) false ty).run Try.prog w = .ok (.tuple #[.bool false]) w) ∨
    ∃ s u w' cnt', s.size ≤ maxLen ∧ left s = true ∧ M s = some u ∧ (Instr.next (.pointer (some ⟨r, 0, none⟩)) false ty).run Try.prog w = .ok (.tuple #[.bool true, .string s, anyV u]) w' ∧
      RgPM w' b r n M (fun x => left x && !decide (x = s)) cnt' ∧ cnt' < cnt ∧ w.grownBy w' (some r) ∧ w'.heap.size = w.heap.size ∧ (Instr.entry (.pointer (some ⟨r, 0, none⟩))).run Try.prog w' = .ok (.tuple #[.string s, anyV u]) w' := by
  obtain ⟨D, lf, h1, rfl, h3⟩ := h
  rcases h1.next law ty with ⟨h0, hl, hrun⟩ | ⟨key, v, kl, y, w', cnt', hkey, hlk, hv, hat, hrun, hrg, hlt, hgr, hsz, hen⟩
  · exact Or.inl ⟨fun s => by rw [← h3 s]; exact hl _, hrun⟩
  · obtain ⟨s, rfl, rfl, hs⟩ := key_inv hkey
    obtain ⟨u, rfl, rfl⟩ := anyR_inv hv
    refine Or.inr ⟨s, u, w', cnt', hs, by rw [← h3 s]; exact hlk, ?_, hrun, ⟨D, _, hrg, rfl, fun x => ?_⟩, hlt, hgr, hsz, hen⟩
    · unfold look
      rw [Maps.has_true_of_atKey hat, if_pos rfl, hat, unD_anyD]
    · show (lf (skey x) && !(skey x).sameKey (skey s)) = _
      rw [h3 x, skey_same]

/-! at the operation, for the walk -/
section
variable (w : World) {ops : Array Oper} {rest : List Oper} {o : Oper} {a : Act} {Q : Exit → Act → World → Prop}

theorem wpList_pm_update (hg : o.guard = none) (m x v : Operand) (hop : o.op = Op.mapUpdate 27 m x v) (b n : Nat) (M : ByteArray → Option (Option Int)) (hm : a.eval m = .map (some b)) (h : IsPM w b n M) (hn : n < maxLen)
    (s : ByteArray) (hs : s.size ≤ maxLen) (u : Option Int) (hx : a.eval x = .string s) (hv : a.eval v = anyV u)
    (hK : ∀ w', IsPM w' b (n + 1) (upd M s (some u)) → w.mapTurned w' b → wpList Try.prog ops Q rest (a.put o.dst undef) w') :
    wpList Try.prog ops Q (o :: rest) a w := by
  refine wpList_plain hg fun K' hK' => ?_
  obtain ⟨w', hrun, r1, r2⟩ := h.update hn hs u
  unfold Oper.wp
  simp [execOp, hop, hm, hx, hv, hrun, Result.andThen]
  exact hK' _ _ (hK w' r1 r2)

theorem wpList_pm_delete (hg : o.guard = none) (m x : Operand) (hop : o.op = Op.call { callee := Callee.builtin Builtin.delete, args := #[m, x], argTypes := #[27, 9] }) (b n : Nat) (M : ByteArray → Option (Option Int)) (hm : a.eval m = .map (some b)) (h : IsPM w b n M)
    (s : ByteArray) (hs : s.size ≤ maxLen) (hx : a.eval x = .string s)
    (hK : ∀ w', IsPM w' b n (upd M s none) → w.mapTurned w' b → wpList Try.prog ops Q rest (a.put o.dst (.tuple #[])) w') :
    wpList Try.prog ops Q (o :: rest) a w := by
  refine wpList_plain hg fun K' hK' => ?_
  obtain ⟨w', hrun, r1, r2⟩ := h.drop hs o.type
  unfold Oper.wp
  simp [execOp, hop, resolve, invoke, builtin, hm, hx, hrun, Result.andThen]
  exact hK' _ _ (hK w' r1 r2)

theorem wpList_pm_len (hg : o.guard = none) (m : Operand) (hop : o.op = Op.call { callee := Callee.builtin Builtin.len, args := #[m], argTypes := #[27] }) (b n : Nat) (M : ByteArray → Option (Option Int)) (hm : a.eval m = .map (some b)) (h : IsPM w b n M)
    (hK : ∀ k : Nat, Sized M k → k ≤ n → wpList Try.prog ops Q rest (a.put o.dst (.int .i64 k)) w) :
    wpList Try.prog ops Q (o :: rest) a w := by
  refine wpList_plain hg fun K' hK' => ?_
  obtain ⟨k, r1, r2, hrun⟩ := h.sized
  unfold Oper.wp
  simp [execOp, hop, resolve, invoke, builtin, hm, hrun o.type, Result.andThen]
  exact hK' _ _ (hK k r1 r2)

theorem wpList_pm_range (hg : o.guard = none) (m : Operand) (hop : o.op = Op.range 27 m) (b n : Nat) (M : ByteArray → Option (Option Int)) (hm : a.eval m = .map (some b)) (h : IsPM w b n M)
    (hK : ∀ w' cnt, RgPM w' b w.heap.size n M (fun s => (M s).isSome) cnt → w.grownBy w' none → w'.heap.size = w.heap.size + 1 → cnt ≤ n → wpList Try.prog ops Q rest (a.put o.dst (.pointer (some ⟨w.heap.size, 0, none⟩))) w') :
    wpList Try.prog ops Q (o :: rest) a w := by
  refine wpList_plain hg fun K' hK' => ?_
  obtain ⟨w', cnt, hrun, r1, r2, r3, r4⟩ := h.range
  unfold Oper.wp
  simp [execOp, hop, hm, hrun, Result.andThen]
  exact hK' _ _ (hK w' cnt r1 r2 r3 r4)

theorem wpList_pm_next (hg : o.guard = none) (it : Operand) (hop : o.op = Op.next it false) (b r n : Nat) (M : ByteArray → Option (Option Int)) (left : ByteArray → Bool) (cnt : Nat) (hit : a.eval it = .pointer (some ⟨r, 0, none⟩)) (h : RgPM w b r n M left cnt)
    (hDone : (∀ s, left s = false) → wpList Try.prog ops Q rest (a.put o.dst (.tuple #[.bool false])) w)
    (hMore : ∀ s u w' cnt', s.size ≤ maxLen → left s = true → M s = some u → RgPM w' b r n M (fun x => left x && !decide (x = s)) cnt' → cnt' < cnt → w.grownBy w' (some r) → w'.heap.size = w.heap.size →
      (Instr.entry (.pointer (some ⟨r, 0, none⟩))).run Try.prog w' = .ok (.tuple #[.string s, anyV u]) w' → wpList Try.prog ops Q rest (a.put o.dst (.tuple #[.bool true, .string s, anyV u])) w') :
    wpList Try.prog ops Q (o :: rest) a w := by
  refine wpList_plain hg fun K' hK' => ?_
  unfold Oper.wp
  rcases h.next o.type with ⟨hl, hrun⟩ | ⟨s, u, w', cnt', h1, h2, h3, hrun, h4, h5, h6, h7, h8⟩
  · simp [execOp, hop, hit, hrun, Result.andThen]
    exact hK' _ _ (hDone hl)
  · simp [execOp, hop, hit, hrun, Result.andThen]
    exact hK' _ _ (hMore s u w' cnt' h1 h2 h3 h4 h5 h6 h7 h8)
end

theorem Ext.turned {a w w' : World} {b : Nat} (h : Ext a w) (ht : w.mapTurned w' b) (hb : a.heap.size ≤ b) : Ext a w' :=
  Below.grown h ht.grown h.size (fun k hk => by cases hk; exact hb)
theorem Ext.step {a w w' : World} {row : Option Nat} (h : Ext a w) (hg : w.grownBy w' row) (hr : ∀ k, row = some k → a.heap.size ≤ k) : Ext a w' :=
  Below.grown h hg h.size hr

/-! what the makers of maps make -/
theorem mk27 (k : Int) (w : World) : (Instr.makeMap 27 (some (.int .i64 k))).run Try.prog w = .ok (.map (some w.heap.size)) (w.alloc (.map #[] 0)) := by kernel_rfl
/-- 'changed' while the first loop of 'apply' goes -/
def cp1 (M : ByteArray → Option (Option Int)) (left : ByteArray → Bool) : ByteArray → Option (Option Int) := fun s => if left s = true then none else M s
theorem cp1_start (M : ByteArray → Option (Option Int)) : cp1 M (fun s => (M s).isSome) = fun _ => none := by
  funext s; unfold cp1; cases h : M s <;> simp [h]
theorem cp1_step {M : ByteArray → Option (Option Int)} {left : ByteArray → Bool} {s : ByteArray} {u : Option Int} (h : M s = some u) : upd (cp1 M left) s (some u) = cp1 M (fun x => left x && !decide (x = s)) := by
  funext x
  unfold upd cp1
  by_cases e : x = s
  · subst e; simp [h]
  · simp [e]
theorem cp1_end {M : ByteArray → Option (Option Int)} {left : ByteArray → Bool} (h : ∀ s, left s = false) : cp1 M left = M := by
  funext s; unfold cp1; simp [h s]
/-- what a change makes of a value that is there -/
def apl (m : Option (Option Int)) (p : Option (Option Int)) : Option (Option Int) :=
  match p with
  | some none => none
  | some (some v) => some (some v)
  | none => m
/-- 'changed' while the second loop goes -/
def cp2 (M P : ByteArray → Option (Option Int)) (left : ByteArray → Bool) : ByteArray → Option (Option Int) := fun s => if left s = true then M s else apl (M s) (P s)
theorem cp2_start (M P : ByteArray → Option (Option Int)) : cp2 M P (fun s => (P s).isSome) = M := by
  funext s; unfold cp2; cases hp : P s <;> simp [hp, apl]
theorem cp2_del {M P : ByteArray → Option (Option Int)} {left : ByteArray → Bool} {s : ByteArray} (h : P s = some none) : upd (cp2 M P left) s none = cp2 M P (fun x => left x && !decide (x = s)) := by
  funext x
  unfold upd cp2
  by_cases e : x = s
  · subst e; simp [h, apl]
  · simp [e]
theorem cp2_set {M P : ByteArray → Option (Option Int)} {left : ByteArray → Bool} {s : ByteArray} {v : Int} (h : P s = some (some v)) : upd (cp2 M P left) s (some (some v)) = cp2 M P (fun x => left x && !decide (x = s)) := by
  funext x
  unfold upd cp2
  by_cases e : x = s
  · subst e; simp [h, apl]
  · simp [e]
theorem cp2_end {M P : ByteArray → Option (Option Int)} {left : ByteArray → Bool} (h : ∀ s, left s = false) : cp2 M P left = fun s => apl (M s) (P s) := by
  funext s; unfold cp2; simp [h s]

def pmk (ps : List (ByteArray × Int)) (ds : List ByteArray) : ByteArray → Option (Option Int) := fun s => if memB ds s = true then some none else (lv ps s).map some
theorem pmk_empty : pmk [] [] = fun _ => none := by funext s; simp [pmk, memB, lv]
theorem pmk_put {ks : List ByteArray} {vs : List Int} {k : Nat} (h1 : k < ks.length) (h2 : k < vs.length) :
    upd (pmk ((prs ks vs).take k) []) (nth ks k) (some (some (vs.getD k 0))) = pmk ((prs ks vs).take (k + 1)) [] := by
  funext s
  rw [prs_snoc h1 h2]
  unfold upd pmk
  rw [lv_snoc]
  have hm : memB [] s = false := rfl
  rw [hm]
  by_cases e : s = nth ks k
  · subst e; simp
  · have e' : ¬ nth ks k = s := fun h => e h.symm
    simp [e, e']
theorem pmk_nil {ps : List (ByteArray × Int)} {ds : List ByteArray} {k : Nat} (h : k < ds.length) : upd (pmk ps (ds.take k)) (nth ds k) (some none) = pmk ps (ds.take (k + 1)) := by
  funext s
  unfold upd pmk
  by_cases e : s = nth ds k
  · subst e
    have : memB (ds.take (k + 1)) (nth ds k) = true := by rw [memB_iff, take_snoc h]; simp
    simp [this]
  · have : memB (ds.take (k + 1)) s = memB (ds.take k) s := by
      rw [Bool.eq_iff_iff, memB_iff, memB_iff, take_snoc h]; simp [e]
    rw [this, if_neg e]

end Go.Proofs.Qxb6612711a
