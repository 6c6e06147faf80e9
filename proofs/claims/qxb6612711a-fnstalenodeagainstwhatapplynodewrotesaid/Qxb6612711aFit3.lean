import Derived.Test.Qxb6612711aFit
namespace Go.Proofs.Qxb6612711a
open Go.RowKit

set_option maxRecDepth 100000 in
set_option maxHeartbeats 4000000 in
theorem fitStaleApplied_any (a0 : Option Addr) (n0 c0 : Nat) (z0 : List ByteArray) (a1 : Option Addr) (n1 c1 : Nat) (z1 : List ByteArray) (a2 : Option Addr) (n2 c2 : Nat) (z2 : List Int) (a3 : Option Addr) (n3 c3 : Nat) (z3 : List ByteArray) (a4 : Option Addr) (n4 c4 : Nat) (z4 : List ByteArray) (a5 : Option Addr) (n5 c5 : Nat) (z5 : List ByteArray) (a6 : Option Addr) (n6 c6 : Nat) (z6 : List ByteArray) (a7 : Option Addr) (n7 c7 : Nat) (z7 : List ByteArray) (a8 : Option Addr) (n8 c8 : Nat) (z8 : List ByteArray) (a9 : Option Addr) (n9 c9 : Nat) (z9 : List Int) (a10 : Option Addr) (n10 c10 : Nat) (z10 : List ByteArray) (w : World) (h0 : IsStrs w a0 n0 c0 z0) (h1 : IsStrs w a1 n1 c1 z1) (h2 : IsInts .i64 w a2 n2 c2 z2) (h3 : IsStrs w a3 n3 c3 z3) (h4 : IsStrs w a4 n4 c4 z4) (h5 : IsStrs w a5 n5 c5 z5) (h6 : IsStrs w a6 n6 c6 z6) (h7 : IsStrs w a7 n7 c7 z7) (h8 : IsStrs w a8 n8 c8 z8) (h9 : IsInts .i64 w a9 n9 c9 z9) (h10 : IsStrs w a10 n10 c10 z10) :
    Calls Try.prog 26 #[.slice a0 n0 c0, .slice a1 n1 c1, .slice a2 n2 c2, .slice a3 n3 c3, .slice a4 n4 c4, .slice a5 n5 c5, .slice a6 n6 c6, .slice a7 n7 c7, .slice a8 n8 c8, .slice a9 n9 c9, .slice a10 n10 c10] w fun e w' => RetFit (n0 ≤ 1024 ∧ n4 ≤ 1024 ∧ n5 ≤ 1024 ∧ n6 ≤ 1024 ∧ n7 ≤ 1024 ∧ n1 ≤ 4096 ∧ n2 ≤ 4096 ∧ n3 ≤ 4096 ∧ n8 ≤ 4096 ∧ n9 ≤ 4096 ∧ n10 ≤ 4096) e ∧ w' = w := by
  have m0 := h0.len_le
  have m1 := h1.len_le
  have m2 := h2.len_le
  have m3 := h3.len_le
  have m4 := h4.len_le
  have m5 := h5.len_le
  have m6 := h6.len_le
  have m7 := h7.len_le
  have m8 := h8.len_le
  have m9 := h9.len_le
  have m10 := h10.len_le
  obtain ⟨P, hP⟩ : ∃ P : Prop, P = (n0 ≤ 1024 ∧ n4 ≤ 1024 ∧ n5 ≤ 1024 ∧ n6 ≤ 1024 ∧ n7 ≤ 1024 ∧ n1 ≤ 4096 ∧ n2 ≤ 4096 ∧ n3 ≤ 4096 ∧ n8 ≤ 4096 ∧ n9 ≤ 4096 ∧ n10 ≤ 4096) := ⟨_, rfl⟩
  rw [← hP]
  have HP : Hid (P = (n0 ≤ 1024 ∧ n4 ≤ 1024 ∧ n5 ≤ 1024 ∧ n6 ≤ 1024 ∧ n7 ≤ 1024 ∧ n1 ≤ 4096 ∧ n2 ≤ 4096 ∧ n3 ≤ 4096 ∧ n8 ≤ 4096 ∧ n9 ≤ 4096 ∧ n10 ≤ 4096)) := hP
  clear hP
  by_cases q0 : 1024 < n0
  · go_enter Try.func26, Try.ntmps26
    go_wp2
    go_ret
    exact ⟨⟨_, rfl, fun h => by cases h⟩, rfl⟩
  by_cases q4 : 1024 < n4
  · go_enter Try.func26, Try.ntmps26
    go_wp2
    go_ret
    exact ⟨⟨_, rfl, fun h => by cases h⟩, rfl⟩
  by_cases q5 : 1024 < n5
  · go_enter Try.func26, Try.ntmps26
    go_wp2
    go_ret
    exact ⟨⟨_, rfl, fun h => by cases h⟩, rfl⟩
  by_cases q6 : 1024 < n6
  · go_enter Try.func26, Try.ntmps26
    go_wp2
    go_ret
    exact ⟨⟨_, rfl, fun h => by cases h⟩, rfl⟩
  by_cases q7 : 1024 < n7
  · go_enter Try.func26, Try.ntmps26
    go_wp2
    go_ret
    exact ⟨⟨_, rfl, fun h => by cases h⟩, rfl⟩
  by_cases q1 : 4096 < n1
  · go_enter Try.func26, Try.ntmps26
    go_wp2
    go_ret
    exact ⟨⟨_, rfl, fun h => by cases h⟩, rfl⟩
  by_cases q2 : 4096 < n2
  · go_enter Try.func26, Try.ntmps26
    go_wp2
    go_ret
    exact ⟨⟨_, rfl, fun h => by cases h⟩, rfl⟩
  by_cases q3 : 4096 < n3
  · go_enter Try.func26, Try.ntmps26
    go_wp2
    go_ret
    exact ⟨⟨_, rfl, fun h => by cases h⟩, rfl⟩
  by_cases q8 : 4096 < n8
  · go_enter Try.func26, Try.ntmps26
    go_wp2
    go_ret
    exact ⟨⟨_, rfl, fun h => by cases h⟩, rfl⟩
  by_cases q9 : 4096 < n9
  · go_enter Try.func26, Try.ntmps26
    go_wp2
    go_ret
    exact ⟨⟨_, rfl, fun h => by cases h⟩, rfl⟩
  by_cases q10 : 4096 < n10
  · go_enter Try.func26, Try.ntmps26
    go_wp2
    go_ret
    exact ⟨⟨_, rfl, fun h => by cases h⟩, rfl⟩
  go_enter Try.func26, Try.ntmps26
  go_wp2_with fail
  refine (strBytes_any _ _ _ _ _ _ h0 (by omega) (by omega)).mono ?_
  rintro e w' ⟨⟨t0, rfl, hlo0, hhi0⟩, rfl⟩
  go_wp2_with fail
  refine (strBytes_any _ _ _ _ _ _ h4 (by omega) (by omega)).mono ?_
  rintro e w' ⟨⟨t1, rfl, hlo1, hhi1⟩, rfl⟩
  go_wp2_with fail
  refine (strBytes_any _ _ _ _ _ _ h5 (by omega) (by omega)).mono ?_
  rintro e w' ⟨⟨t2, rfl, hlo2, hhi2⟩, rfl⟩
  go_wp2_with fail
  refine (strBytes_any _ _ _ _ _ _ h6 (by omega) (by omega)).mono ?_
  rintro e w' ⟨⟨t3, rfl, hlo3, hhi3⟩, rfl⟩
  go_wp2_with fail
  refine (strBytes_any _ _ _ _ _ _ h7 (by omega) (by omega)).mono ?_
  rintro e w' ⟨⟨t4, rfl, hlo4, hhi4⟩, rfl⟩
  go_wp2_with fail
  refine (strBytes_any _ _ _ _ _ _ h1 (by omega) (by omega)).mono ?_
  rintro e w' ⟨⟨t5, rfl, hlo5, hhi5⟩, rfl⟩
  go_wp2_with fail
  refine (strBytes_any _ _ _ _ _ _ h3 (by omega) (by omega)).mono ?_
  rintro e w' ⟨⟨t6, rfl, hlo6, hhi6⟩, rfl⟩
  go_wp2_with fail
  refine (strBytes_any _ _ _ _ _ _ h8 (by omega) (by omega)).mono ?_
  rintro e w' ⟨⟨t7, rfl, hlo7, hhi7⟩, rfl⟩
  go_wp2_with fail
  refine (strBytes_any _ _ _ _ _ _ h10 (by omega) (by omega)).mono ?_
  rintro e w' ⟨⟨t8, rfl, hlo8, hhi8⟩, rfl⟩
  go_wp2
  go_ret
  exact ⟨⟨_, rfl, fun _ => by rw [HP.out]; omega⟩, rfl⟩

end Go.Proofs.Qxb6612711a
