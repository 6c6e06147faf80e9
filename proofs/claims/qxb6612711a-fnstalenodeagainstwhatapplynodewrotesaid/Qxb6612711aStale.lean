import Derived.Test.Qxb6612711aLaws
namespace Go.Proofs.Qxb6612711a
open Go.RowKit

/-- it returns a bool that is true just if p -/
def RetIff (p : Prop) (e : Ending) : Prop := ∃ b, e = .returned (.bool b) ∧ (b = true ↔ p)
theorem retIff_true {p : Prop} (h : p) : RetIff p (.returned (.bool true)) := ⟨true, rfl, by simp [h]⟩
theorem retIff_false {p : Prop} (h : ¬ p) : RetIff p (.returned (.bool false)) := ⟨false, rfl, by simp [h]⟩

set_option maxRecDepth 100000 in
set_option maxHeartbeats 1000000 in
theorem sameProps_any (b1 n1 : Nat) (A : ByteArray → Option (Option Int)) (b2 n2 : Nat) (B : ByteArray → Option (Option Int)) (w : World) (hA : IsPM w b1 n1 A) (hB : IsPM w b2 n2 B) :
    Calls Try.prog 38 #[.map (some b1), .map (some b2)] w fun e w' => RetIff (A = B) e ∧ Ext w w' := by
  obtain ⟨k1, s1, -, hl1⟩ := hA.sized
  obtain ⟨k2, s2, -, hl2⟩ := hB.sized
  have lt1 := hA.lt
  have lt2 := hB.lt
  by_cases hk : k1 = k2
  · subst hk
    have HS : Hid (∀ h : (∀ s u, A s = some u → B s = some u), A = B) := fun h => Sized.eq_of_sub s1 s2 h
    clear s1 s2
    go_enter Try.func38, Try.ntmps38
    go_wp2_with (first
      | (at_range; refine wpList_pm_range _ rfl _ rfl b1 n1 A rfl hA ?_; intro w0 cnt0 hrg0 hg0 hs0 hc0)
      | go_in)
    go_frame
    clear hl1 hl2
    have hE0 : Ext w w0 := (Ext.refl w).step hg0 (fun k hk => by cases hk)
    have H0 : Hid (∀ s, (A s).isSome = false → ∀ u, A s = some u → B s = some u) := fun s h u hu => by rw [hu] at h; cases h
    clear hg0
    go_loopw [5] (fun _ wr => ∃ (left : ByteArray → Bool) (cnt : Nat), RgPM wr b1 w.heap.size n1 A left cnt ∧ Ext w wr ∧ Hid (∀ s, left s = false → ∀ u, A s = some u → B s = some u))
      (fun _ wr => wr.rangeLeft b1 w.heap.size)
    case atStart => exact ⟨_, cnt0, hrg0, hE0, H0⟩
    case round =>
      obtain ⟨left, cnt, hrg, hx, H⟩ := hrel
      go_wp2_with (first
        | (at_next; refine wpList_pm_next _ rfl _ rfl b1 w.heap.size n1 A left cnt rfl hrg ?_ ?_)
        | go_in)
      · intro hl0
        have hAB := HS.out (fun s u hu => H.out s (hl0 s) u hu)
        have HAB : Hid (A = B) := hAB
        clear hAB
        go_wp2
        go_ret
        exact ⟨retIff_true HAB.out, hx⟩
      · intro s u w1 cnt1 hs hls hAs hrg1 hlt hg1 hs1 hen
        have hx1 : Ext w w1 := hx.step hg1 (fun k hk => by cases hk; exact Nat.le_refl _)
        have hlk := (hB.ext hx1).lookup_ok hs
        have HA : Hid (A s = some u) := hAs
        clear hAs hls
        rcases hBs : B s with _ | v
        · rw [hBs] at hlk
          have hlk' : (Instr.lookup 27 (.map (some b2)) (.string s) true).run Try.prog w1 = .ok (.tuple #[.nilIface, .bool false]) w1 := hlk
          have HN : Hid (¬ A = B) := fun e => by have := HA.out; rw [e, hBs] at this; cases this
          clear hlk hBs
          go_wp2
          go_ret
          exact ⟨retIff_false HN.out, hx1⟩
        · rw [hBs] at hlk
          have hlk' : (Instr.lookup 27 (.map (some b2)) (.string s) true).run Try.prog w1 = .ok (.tuple #[anyV v, .bool true]) w1 := hlk
          have HB : Hid (B s = some v) := hBs
          clear hlk hBs
          go_wp2_with fail
          refine (sameValue_any u v _).mono ?_
          rintro e w' ⟨rfl, hw⟩
          rw [hw]
          clear hw w'
          by_cases huv : u = v
          · subst huv
            go_wp2
            go_roundw
            case rel =>
              refine ⟨_, cnt1, hrg1, hx1, ?_⟩
              intro s' hs' u' hu'
              by_cases e : s' = s
              · subst e
                rw [HA.out] at hu'
                cases hu'
                exact HB.out
              · exact H.out s' (by simpa [e] using hs') u' hu'
            case measure => rw [hrg1.left_eq, hrg.left_eq]; exact hlt
          · have hd : decide (u = v) = false := by simpa using huv
            have HN : Hid (¬ A = B) := fun e => by have := HA.out; rw [e, HB.out] at this; cases this; exact huv rfl
            rw [hd]
            go_wp2
            go_ret
            exact ⟨retIff_false HN.out, hx1⟩
  · have HN : Hid (¬ A = B) := fun e => by subst e; exact hk (s1.unique s2)
    have hne : ((k1 : Int) == (k2 : Int)) = false := by simp; omega
    clear s1 s2
    go_enter Try.func38, Try.ntmps38
    go_wp2
    go_ret
    exact ⟨retIff_false HN.out, Ext.refl _⟩

end Go.Proofs.Qxb6612711a
