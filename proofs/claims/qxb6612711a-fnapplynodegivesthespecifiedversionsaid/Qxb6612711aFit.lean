import Derived.Test.Qxb6612711aRead
import Derived.Deep.QuietTactic
import Derived.BigQuiet
namespace Go.Proofs.Qxb6612711a
open Go.RowKit

/-- it returns a small number -/
def RetSmall (e : Ending) : Prop := ∃ t : Int, e = .returned (.int .i64 t) ∧ 0 ≤ t ∧ t ≤ 4000000

set_option maxHeartbeats 400000 in
theorem strBytes_any (t : Int) (a : Option Addr) (n c : Nat) (ss : List ByteArray) (w : World) (h : IsStrs w a n c ss) (ht : 0 ≤ t) (ht' : t ≤ 4000000) :
    Calls Try.prog 29 #[.int .i64 t, .slice a n c] w fun e w' => RetSmall e ∧ w' = w := by
  have hm := h.len_le
  have hl := h.length
  go_enter Try.func29, Try.ntmps29
  go_wp2
  go_loop [0, 5] (fun t i => ∃ (k : Nat) (x : Int), k ≤ n ∧ 0 ≤ x ∧ x ≤ 4000000 ∧ i = .int .i64 k ∧ t = .int .i64 x) (fun _ i => n - (intOf i).toNat)
  case atStart => exact ⟨0, _, Nat.zero_le _, ht, ht', rfl, rfl⟩
  case round =>
    obtain ⟨k, x, hk, hx0, hx1, rfl, rfl⟩ := hrel
    by_cases hlt : k < n
    · obtain ⟨b, off, rfl, hcell⟩ := h.at hlt
      have hsz := nth_size h.sizes k
      unfold maxLen at hsz
      generalize nth ss k = s at hcell hsz
      by_cases hx : 1048576 < x
      · go_wp2
        go_ret
        exact ⟨⟨_, rfl, by decide, by decide⟩, rfl⟩
      · by_cases hx2 : 1048576 - x < s.size
        · go_wp2
          go_ret
          exact ⟨⟨_, rfl, by decide, by decide⟩, rfl⟩
        · go_wp2
          go_round
          case rel => exact ⟨k + 1, x + s.size, by omega, by omega, by omega, by go_num, rfl⟩
          case measure => simp [intOf]; omega
    · go_wp2
      go_ret
      exact ⟨⟨_, rfl, hx0, hx1⟩, rfl⟩

/-- it returns a bool, and p holds where that is true -/
def RetFit (p : Prop) (e : Ending) : Prop := ∃ b, e = .returned (.bool b) ∧ (b = true → p)

set_option maxRecDepth 100000 in
set_option maxHeartbeats 4000000 in
theorem fitApply_any (a0 : Option Addr) (n0 c0 : Nat) (z0 : List ByteArray) (a1 : Option Addr) (n1 c1 : Nat) (z1 : List ByteArray) (a2 : Option Addr) (n2 c2 : Nat) (z2 : List Int) (a3 : Option Addr) (n3 c3 : Nat) (z3 : List ByteArray) (a4 : Option Addr) (n4 c4 : Nat) (z4 : List Int) (a5 : Option Addr) (n5 c5 : Nat) (z5 : List ByteArray) (a6 : Option Addr) (n6 c6 : Nat) (z6 : List ByteArray) (a7 : Option Addr) (n7 c7 : Nat) (z7 : List ByteArray) (w : World) (h0 : IsStrs w a0 n0 c0 z0) (h1 : IsStrs w a1 n1 c1 z1) (h2 : IsInts .i64 w a2 n2 c2 z2) (h3 : IsStrs w a3 n3 c3 z3) (h4 : IsInts .i64 w a4 n4 c4 z4) (h5 : IsStrs w a5 n5 c5 z5) (h6 : IsStrs w a6 n6 c6 z6) (h7 : IsStrs w a7 n7 c7 z7) :
    Calls Try.prog 8 #[.slice a0 n0 c0, .slice a1 n1 c1, .slice a2 n2 c2, .slice a3 n3 c3, .slice a4 n4 c4, .slice a5 n5 c5, .slice a6 n6 c6, .slice a7 n7 c7] w fun e w' => RetFit (n0 ≤ 1024 ∧ n6 ≤ 1024 ∧ n7 ≤ 1024 ∧ n1 ≤ 4096 ∧ n2 ≤ 4096 ∧ n3 ≤ 4096 ∧ n4 ≤ 4096 ∧ n5 ≤ 4096) e ∧ w' = w := by
  have m0 := h0.len_le
  have m1 := h1.len_le
  have m2 := h2.len_le
  have m3 := h3.len_le
  have m4 := h4.len_le
  have m5 := h5.len_le
  have m6 := h6.len_le
  have m7 := h7.len_le
  obtain ⟨P, hP⟩ : ∃ P : Prop, P = (n0 ≤ 1024 ∧ n6 ≤ 1024 ∧ n7 ≤ 1024 ∧ n1 ≤ 4096 ∧ n2 ≤ 4096 ∧ n3 ≤ 4096 ∧ n4 ≤ 4096 ∧ n5 ≤ 4096) := ⟨_, rfl⟩
  rw [← hP]
  have HP : Hid (P = (n0 ≤ 1024 ∧ n6 ≤ 1024 ∧ n7 ≤ 1024 ∧ n1 ≤ 4096 ∧ n2 ≤ 4096 ∧ n3 ≤ 4096 ∧ n4 ≤ 4096 ∧ n5 ≤ 4096)) := hP
  clear hP
  by_cases q0 : 1024 < n0
  · go_enter Try.func8, Try.ntmps8
    go_wp2
    go_ret
    exact ⟨⟨_, rfl, fun h => by cases h⟩, rfl⟩
  by_cases q6 : 1024 < n6
  · go_enter Try.func8, Try.ntmps8
    go_wp2
    go_ret
    exact ⟨⟨_, rfl, fun h => by cases h⟩, rfl⟩
  by_cases q7 : 1024 < n7
  · go_enter Try.func8, Try.ntmps8
    go_wp2
    go_ret
    exact ⟨⟨_, rfl, fun h => by cases h⟩, rfl⟩
  by_cases q1 : 4096 < n1
  · go_enter Try.func8, Try.ntmps8
    go_wp2
    go_ret
    exact ⟨⟨_, rfl, fun h => by cases h⟩, rfl⟩
  by_cases q2 : 4096 < n2
  · go_enter Try.func8, Try.ntmps8
    go_wp2
    go_ret
    exact ⟨⟨_, rfl, fun h => by cases h⟩, rfl⟩
  by_cases q3 : 4096 < n3
  · go_enter Try.func8, Try.ntmps8
    go_wp2
    go_ret
    exact ⟨⟨_, rfl, fun h => by cases h⟩, rfl⟩
  by_cases q4 : 4096 < n4
  · go_enter Try.func8, Try.ntmps8
    go_wp2
    go_ret
    exact ⟨⟨_, rfl, fun h => by cases h⟩, rfl⟩
  by_cases q5 : 4096 < n5
  · go_enter Try.func8, Try.ntmps8
    go_wp2
    go_ret
    exact ⟨⟨_, rfl, fun h => by cases h⟩, rfl⟩
  go_enter Try.func8, Try.ntmps8
  go_wp2_with fail
  refine (strBytes_any _ _ _ _ _ _ h0 (by omega) (by omega)).mono ?_
  rintro e w' ⟨⟨t0, rfl, hlo0, hhi0⟩, rfl⟩
  go_wp2_with fail
  refine (strBytes_any _ _ _ _ _ _ h6 (by omega) (by omega)).mono ?_
  rintro e w' ⟨⟨t1, rfl, hlo1, hhi1⟩, rfl⟩
  go_wp2_with fail
  refine (strBytes_any _ _ _ _ _ _ h7 (by omega) (by omega)).mono ?_
  rintro e w' ⟨⟨t2, rfl, hlo2, hhi2⟩, rfl⟩
  go_wp2_with fail
  refine (strBytes_any _ _ _ _ _ _ h1 (by omega) (by omega)).mono ?_
  rintro e w' ⟨⟨t3, rfl, hlo3, hhi3⟩, rfl⟩
  go_wp2_with fail
  refine (strBytes_any _ _ _ _ _ _ h3 (by omega) (by omega)).mono ?_
  rintro e w' ⟨⟨t4, rfl, hlo4, hhi4⟩, rfl⟩
  go_wp2_with fail
  refine (strBytes_any _ _ _ _ _ _ h5 (by omega) (by omega)).mono ?_
  rintro e w' ⟨⟨t5, rfl, hlo5, hhi5⟩, rfl⟩
  go_wp2
  go_ret
  exact ⟨⟨_, rfl, fun _ => by rw [HP.out]; omega⟩, rfl⟩

end Go.Proofs.Qxb6612711a
