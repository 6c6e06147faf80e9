import Derived.Test.Qxb6612711aStale
namespace Go.Proofs.Qxb6612711a
open Go.RowKit

/-- two versions' properties differ in what a change changes -/
def StaleP (rep : Bool) (A B P : ByteArray → Option (Option Int)) : Prop := if rep = true then ¬ A = B else ∃ s, (P s).isSome = true ∧ ¬ flat (A s) = flat (B s)
theorem staleP_true {A B P : ByteArray → Option (Option Int)} : StaleP true A B P ↔ ¬ A = B := by simp [StaleP]
theorem staleP_false {A B P : ByteArray → Option (Option Int)} : StaleP false A B P ↔ ∃ s, (P s).isSome = true ∧ ¬ flat (A s) = flat (B s) := by simp [StaleP]

theorem box_cells (w : World) (rep : Bool) (bp : Nat) (v2 v3 : Value) : IsChg (w.alloc (.cells #[.bool rep, .map (some bp), v2, v3] 33)) w.heap.size rep bp v2 v3 := ⟨by simp, by simp, by simp, by simp⟩

set_option maxRecDepth 100000 in
set_option maxHeartbeats 1000000 in
theorem stalePropsRepl_any (bp : Nat) (v2 v3 : Value) (b1 n1 : Nat) (A : ByteArray → Option (Option Int)) (b2 n2 : Nat) (B P : ByteArray → Option (Option Int)) (w : World) (hA : IsPM w b1 n1 A) (hB : IsPM w b2 n2 B) :
    Calls Try.prog 37 #[.agg #[.bool true, .map (some bp), v2, v3], .map (some b1), .map (some b2)] w fun e w' => RetIff (StaleP true A B P) e ∧ Ext w w' := by
  have hx : Ext w (w.alloc (.cells #[.bool true, .map (some bp), v2, v3] 33)) := (Ext.refl w).alloc _
  go_enter Try.func37, Try.ntmps37
  go_wp2_with fail
  refine (sameProps_any _ _ _ _ _ _ _ (hA.ext hx) (hB.ext hx)).mono ?_
  rintro e w' ⟨⟨b, rfl, hb⟩, hy⟩
  have HB : Hid (b = true ↔ A = B) := hb
  clear hb
  go_wp2
  go_ret
  refine ⟨⟨!b, rfl, ?_⟩, hx.trans hy⟩
  rw [staleP_true, ← HB.out]
  cases b <;> simp

set_option maxRecDepth 100000 in
set_option maxHeartbeats 1000000 in
theorem stalePropsKeep_any (bp np : Nat) (P : ByteArray → Option (Option Int)) (v2 v3 : Value) (b1 n1 : Nat) (A : ByteArray → Option (Option Int)) (b2 n2 : Nat) (B : ByteArray → Option (Option Int)) (w : World) (hP : IsPM w bp np P) (hA : IsPM w b1 n1 A) (hB : IsPM w b2 n2 B) :
    Calls Try.prog 37 #[.agg #[.bool false, .map (some bp), v2, v3], .map (some b1), .map (some b2)] w fun e w' => RetIff (StaleP false A B P) e ∧ Ext w w' := by
  have hx0 : Ext w (w.alloc (.cells #[.bool false, .map (some bp), v2, v3] 33)) := (Ext.refl w).alloc _
  have hP0 := hP.ext hx0
  go_enter Try.func37, Try.ntmps37
  go_wp2_with (first
    | (at_range; refine wpList_pm_range _ rfl _ rfl bp np P rfl hP0 ?_; intro w0 cnt0 hrg0 hg0 hs0 hc0)
    | go_in)
  go_frame
  have hE0 : Ext w w0 := hx0.step hg0 (fun k hk => by cases hk)
  have hsz : (w.alloc (.cells #[.bool false, .map (some bp), v2, v3] 33)).heap.size = w.heap.size + 1 := by simp
  rw [hsz] at hrg0 ⊢
  have H0 : Hid (∀ s, (P s).isSome = true → (P s).isSome = false → flat (A s) = flat (B s)) := fun s h h' => by rw [h] at h'; cases h'
  clear hg0 hsz hs0
  go_loopw [7] (fun _ wr => ∃ (left : ByteArray → Bool) (cnt : Nat), RgPM wr bp (w.heap.size + 1) np P left cnt ∧ Ext w wr ∧ Hid (∀ s, (P s).isSome = true → left s = false → flat (A s) = flat (B s)))
    (fun _ wr => wr.rangeLeft bp (w.heap.size + 1))
  case atStart => exact ⟨_, cnt0, hrg0, hE0, H0⟩
  case round =>
    obtain ⟨left, cnt, hrg, hx, H⟩ := hrel
    go_wp2_with (first
      | (at_next; refine wpList_pm_next _ rfl _ rfl bp (w.heap.size + 1) np P left cnt rfl hrg ?_ ?_)
      | go_in)
    · intro hl0
      have HN : Hid (¬ StaleP false A B P) := fun h => by
        obtain ⟨s, h1, h2⟩ := staleP_false.1 h
        exact h2 (H.out s h1 (hl0 s))
      go_wp2
      go_ret
      exact ⟨retIff_false HN.out, hx⟩
    · intro s u w1 cnt1 hs hls hPs hrg1 hlt hg1 hs1 hen
      have hx1 : Ext w w1 := hx.step hg1 (fun k hk => by cases hk; exact Nat.le_succ _)
      have hlA : (Instr.lookup 27 (.map (some b1)) (.string s) false).run Try.prog w1 = .ok (anyV (flat (A s))) w1 := (hA.ext hx1).lookup hs
      have hlB : (Instr.lookup 27 (.map (some b2)) (.string s) false).run Try.prog w1 = .ok (anyV (flat (B s))) w1 := (hB.ext hx1).lookup hs
      have HPs : Hid (P s = some u) := hPs
      clear hPs hls
      go_wp2_with fail
      refine (sameValue_any _ _ _).mono ?_
      rintro e w' ⟨rfl, hw⟩
      rw [hw]
      clear hw w'
      by_cases huv : flat (A s) = flat (B s)
      · have hd : decide (flat (A s) = flat (B s)) = true := by simpa using huv
        have HU : Hid (flat (A s) = flat (B s)) := huv
        rw [hd]
        clear huv hd
        go_wp2
        go_roundw
        case rel =>
          refine ⟨_, cnt1, hrg1, hx1, ?_⟩
          intro s' hs' hl'
          by_cases e : s' = s
          · subst e; exact HU.out
          · exact H.out s' hs' (by simpa [e] using hl')
        case measure => rw [hrg1.left_eq, hrg.left_eq]; exact hlt
      · have hd : decide (flat (A s) = flat (B s)) = false := by simpa using huv
        have HN : Hid (StaleP false A B P) := staleP_false.2 ⟨s, by rw [HPs.out]; rfl, huv⟩
        rw [hd]
        clear huv hd
        go_wp2
        go_ret
        exact ⟨retIff_true HN.out, hx1⟩

theorem staleProps_any (rep : Bool) (bp np : Nat) (P : ByteArray → Option (Option Int)) (v2 v3 : Value) (b1 n1 : Nat) (A : ByteArray → Option (Option Int)) (b2 n2 : Nat) (B : ByteArray → Option (Option Int)) (w : World) (hP : IsPM w bp np P) (hA : IsPM w b1 n1 A) (hB : IsPM w b2 n2 B) :
    Calls Try.prog 37 #[.agg #[.bool rep, .map (some bp), v2, v3], .map (some b1), .map (some b2)] w fun e w' => RetIff (StaleP rep A B P) e ∧ Ext w w' := by
  cases rep
  · exact stalePropsKeep_any bp np P v2 v3 b1 n1 A b2 n2 B w hP hA hB
  · exact stalePropsRepl_any bp v2 v3 b1 n1 A b2 n2 B P w hA hB

end Go.Proofs.Qxb6612711a
