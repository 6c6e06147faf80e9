import Derived.Test.Qxb6612707aKit
import Derived.WalkKit
import Derived.WalkSpells
namespace Go.Proofs.Qxb6612707a
open Go.RowKit

/-- It returns a bool, and 'p' holds where that is false. -/
def RetBool (p : Prop) (e : Ending) : Prop := ∃ b, e = .returned (.bool b) ∧ (b = false → p)

theorem getD_size {ss : List ByteArray} (h : ∀ s ∈ ss, s.size ≤ maxLen) (i : Nat) : (ss.getD i ByteArray.empty).size ≤ maxLen := by
  rw [List.getD_eq_getElem?_getD]
  cases hi : ss[i]? with
  | none => simp [maxLen]
  | some s => exact h s (List.mem_of_getElem? hi)

def isZ (n : Nat) : Bool := decide (n = 0)
theorem isZ_int (n : Nat) : ((n : Int) == 0) = isZ n := by unfold isZ; rw [Bool.eq_iff_iff]; simp
theorem ret_bool {a b : Bool} (h : a = b) : Ending.returned (.bool a) = .returned (.bool b) := by rw [h]

set_option maxHeartbeats 400000 in
theorem isZero_any (a : Option Addr) (n c : Nat) (w : World) :
    Calls Try.prog 12 #[.agg #[.slice a n c]] w fun e w' => e = .returned (.bool (isZ n)) ∧ Below w.heap.size w w' := by
  go_enter Try.func12, Try.ntmps12
  go_wp2
  go_ret
  exact ⟨ret_bool (isZ_int n), (Below.refl _ _).alloc (Nat.le_refl _) _⟩

set_option maxHeartbeats 400000 in
theorem zzBytes_any (a : Option Addr) (n c : Nat) (ss : List ByteArray) (w : World) (h : IsStrs w a n c ss) :
    Calls Try.prog 10 #[.slice a n c] w fun e w' => RetBool True e ∧ w' = w := by
  have hm := Nat.le_trans h.le h.fits
  unfold maxLen at hm
  go_enter Try.func10, Try.ntmps10
  go_wp2
  · go_ret; exact ⟨⟨_, rfl, fun _ => trivial⟩, rfl⟩
  · go_loop [3, 4] (fun t i => ∃ (k : Nat) (x : Int), k ≤ n ∧ 0 ≤ x ∧ x ≤ 1048576 ∧ i = .int .i64 k ∧ t = .int .i64 x) (fun _ i => n - (intOf i).toNat)
    case atStart => exact ⟨0, _, Nat.zero_le _, by omega, by omega, rfl, rfl⟩
    case round =>
      obtain ⟨k, x, hk, hx0, hx1, rfl, rfl⟩ := hrel
      by_cases hlt : k < n
      · obtain ⟨b, off, rfl, hc⟩ := h.cells (by omega)
        have hcell := hc k hlt
        have hsz := getD_size h.sizes k
        unfold maxLen at hsz
        clear hc
        generalize ss.getD k ByteArray.empty = s at hcell hsz
        go_wp2
        · go_ret; exact ⟨⟨_, rfl, fun _ => trivial⟩, rfl⟩
        · go_ret; exact ⟨⟨_, rfl, fun _ => trivial⟩, rfl⟩
        · go_round
          case rel => exact ⟨k + 1, x + s.size, by omega, by omega, by omega, by go_num, rfl⟩
          case measure => simp [intOf]; omega
      · go_wp2
        go_ret
        exact ⟨⟨_, rfl, fun _ => trivial⟩, rfl⟩

set_option maxHeartbeats 400000 in
theorem tooBig_any (a : Option Addr) (n c : Nat) (ss : List ByteArray) (w : World) (h : IsStrs w a n c ss) :
    Calls Try.prog 11 #[.slice a n c, .int .i64 1048576] w fun e w' => RetBool (n ≤ 65536) e ∧ w' = w := by
  have hm := Nat.le_trans h.le h.fits
  unfold maxLen at hm
  go_enter Try.func11, Try.ntmps11
  go_wp2
  · go_ret; exact ⟨⟨_, rfl, fun h => by cases h⟩, rfl⟩
  · go_loop [5, 6] (fun t i => ∃ (k : Nat) (x : Int), k ≤ n ∧ i = .int .i64 k ∧ t = .int .i64 x) (fun _ i => n - (intOf i).toNat)
    case atStart => exact ⟨0, _, Nat.zero_le _, rfl, rfl⟩
    case round =>
      obtain ⟨k, x, hk, rfl, rfl⟩ := hrel
      by_cases hlt : k < n
      · obtain ⟨b, off, rfl, hc⟩ := h.cells (by omega)
        have hcell := hc k hlt
        clear hc
        generalize ss.getD k ByteArray.empty = s at hcell
        go_wp2
        · go_ret; exact ⟨⟨_, rfl, fun h => by cases h⟩, rfl⟩
        · go_round
          case rel => exact ⟨k + 1, _, by omega, by go_num, rfl⟩
          case measure => simp [intOf]; omega
      · go_wp2
        go_ret
        exact ⟨⟨_, rfl, fun _ => by first | trivial | omega⟩, rfl⟩

/-- 'k == 0' and the others at a cut: what the law asks at each k. -/
theorem cut_any (n k : Nat) (hk : k ≤ n) (wh : Bool) (h : isZ n = wh) :
    (wh = true ∧ isZ k = true ∧ ((k : Int) == 0) = true ∧ isZ (n - k) = true ∧ ((k : Int) == (n : Int)) = true) ∨
    (wh = false ∧ isZ k = true ∧ ((k : Int) == 0) = true ∧ isZ (n - k) = false ∧ ((k : Int) == (n : Int)) = false) ∨
    (wh = false ∧ isZ k = false ∧ ((k : Int) == 0) = false ∧ isZ (n - k) = true ∧ ((k : Int) == (n : Int)) = true) ∨
    (wh = false ∧ isZ k = false ∧ ((k : Int) == 0) = false ∧ isZ (n - k) = false ∧ ((k : Int) == (n : Int)) = false) := by
  subst h
  unfold isZ
  simp
  omega

set_option maxHeartbeats 400000 in
theorem walk (a0 : Option Addr) (len0 cap0 : Nat) (z0 : List ByteArray) (w : World) (w0 : IsStrs w a0 len0 cap0 z0) :
    Calls Try.prog 5 #[.slice a0 len0 cap0] w fun e w' => e = .returned (.bool true) ∧ Below w.heap.size w w' := by
  have hle := w0.le
  have hft := w0.fits
  unfold maxLen at hft
  go_enter Try.func5, Try.ntmps5
  go_wp2_with fail
  refine (zzBytes_any _ _ _ _ _ w0).mono ?_
  rintro e w' ⟨⟨b, rfl, -⟩, rfl⟩
  cases b
  · go_wp2
    go_ret
    exact ⟨rfl, Below.refl _ _⟩
  · go_wp2_with fail
    refine (tooBig_any _ _ _ _ _ w0).mono ?_
    rintro e w' ⟨⟨b, rfl, hb⟩, rfl⟩
    cases b
    · have hn := hb rfl
      clear hb
      go_wp2_with fail
      refine (isZero_any _ _ _ _).mono ?_
      rintro e w1 ⟨rfl, hb1⟩
      have hb0 : Below w'.heap.size w' w1 := hb1
      clear hb1
      obtain ⟨wh, hwh⟩ : ∃ wh, isZ len0 = wh := ⟨_, rfl⟩
      have HW : Hid (isZ len0 = wh) := hwh
      rw [hwh]
      clear hwh
      go_wp2_with fail
      cases wh
      all_goals
        go_loopw [4] (fun i wr => ∃ k : Nat, k ≤ len0 + 1 ∧ i = .int .i64 k ∧ Below w'.heap.size w' wr) (fun i _ => len0 + 1 - (intOf i).toNat)
        case atStart => exact ⟨0, by omega, rfl, hb0⟩
        case round =>
          obtain ⟨k, hk, rfl, hbr⟩ := hrel
          by_cases hlt : k ≤ len0
          · by_cases hck : k < cap0
            all_goals
              go_wp2_with fail
              refine (isZero_any _ _ _ _).mono ?_
              rintro e w2 ⟨rfl, hb2⟩
              have hb2' : Below w'.heap.size w' w2 := hbr.trans (hb2.mono hbr.size)
              clear hb2
              go_wp2_with fail
              refine (isZero_any _ _ _ _).mono ?_
              rintro e w3 ⟨rfl, hb3⟩
              have hb3' : Below w'.heap.size w' w3 := hb2'.trans (hb3.mono hb2'.size)
              clear hb3
              rcases cut_any len0 k hlt _ HW.out with ⟨hq, z1, z2, z3, z4⟩ | ⟨hq, z1, z2, z3, z4⟩ | ⟨hq, z1, z2, z3, z4⟩ | ⟨hq, z1, z2, z3, z4⟩
              all_goals first
                | exact absurd hq (by decide)
                | (clear hq
                   go_wp2
                   go_round
                   case rel => exact ⟨k + 1, by omega, by go_num, hb3'⟩
                   case measure => simp [intOf]; omega)
          · go_wp2
            go_ret
            exact ⟨rfl, hbr⟩
    · go_wp2
      go_ret
      exact ⟨rfl, Below.refl _ _⟩

end Go.Proofs.Qxb6612707a
