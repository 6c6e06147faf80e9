import Derived.Test.Qxb6612759aRows
import Derived.WalkKit
import Derived.WalkSpells
import Derived.WalkLawsBesides
namespace Go.Proofs.Qxb6612759a
open Go.RowKit

theorem method_params (a : Addr) (w : World) : (method 174 38 (.pointer (some a)) "Params").run Try.prog w = .ok (29, .pointer (some a)) w := by kernel_rfl

set_option maxRecDepth 100000 in
set_option maxHeartbeats 400000 in
theorem params_any (a : Addr) (w : World) : Calls Try.prog 29 #[.pointer (some a)] w fun e w' => e = .returned (.pointer (some a)) ∧ w' = w := by
  go_enter Try.func29, Try.ntmps29
  go_wp2
  go_ret
  exact ⟨rfl, rfl⟩

set_option maxRecDepth 100000 in
set_option maxHeartbeats 400000 in
theorem coord_any (b : Nat) (n : Int) (w : World) (hc : w.cell? ⟨b, 5, none⟩ = some (.int .i64 n)) (h0 : 0 ≤ n) (h1 : n ≤ 2000000000) :
    Calls Try.prog 12 #[.iface 38 (.pointer (some ⟨b, 0, none⟩))] w fun e w' => e = .returned (.int .i64 ((n + 7) / 8)) ∧ w' = w := by
  have hm := method_params
  go_enter Try.func12, Try.ntmps12
  go_wp2_with (go_at_call 29; refine (params_any _ _).mono ?_; rintro e w' ⟨rfl, rfl⟩)
  go_ret
  exact ⟨rfl, rfl⟩

set_option maxRecDepth 100000 in
set_option maxHeartbeats 400000 in
theorem size_any (n : Int) (w : World) (h0 : 0 ≤ n) (h1 : n ≤ 2000000000) :
    Calls Try.prog 10 #[.int .i64 n] w fun e w' => e = .returned (.int .i64 ((n + 7) / 8)) ∧ Below w.heap.size w w' := by
  go_enter Try.func10, Try.ntmps10
  go_wp2_with fail
  refine (coord_any _ n _ (by simp) h0 h1).mono ?_
  rintro e w' ⟨rfl, hw⟩
  have hb : Below w.heap.size w w' := by rw [hw]; exact (Below.refl _ _).alloc (Nat.le_refl _) _
  clear hw
  go_wp2
  go_ret
  exact ⟨rfl, hb⟩

set_option maxRecDepth 100000 in
set_option maxHeartbeats 400000 in
theorem eight_walk (a0 : Int) (w : World) (_w0 : (Lit.int .i64 a0).wf = true) :
    Calls Try.prog 4 #[.int .i64 a0] w fun e w' => e = .returned (.bool true) ∧ Below w.heap.size w w' := by
  by_cases c1 : a0 < 0
  · go_enter Try.func4, Try.ntmps4
    go_wp2
    go_ret
    exact ⟨rfl, Below.refl _ _⟩
  by_cases c2 : 1073741824 < a0
  · go_enter Try.func4, Try.ntmps4
    go_wp2
    go_ret
    exact ⟨rfl, Below.refl _ _⟩
  have f1 : ((a0 + 8 + 7) / 8 == (a0 + 7) / 8 + 1) = true := by simp; omega
  have f2 : a0 ≤ 8 * ((a0 + 7) / 8) := by omega
  have f3 : 8 * ((a0 + 7) / 8) < a0 + 8 := by omega
  have f4 : 0 ≤ (a0 + 7) / 8 := by omega
  have f5 : (a0 + 7) / 8 ≤ 200000000 := by omega
  go_enter Try.func4, Try.ntmps4
  go_wp2_with fail
  refine (size_any _ _ (by omega) (by omega)).mono ?_
  rintro e w1 ⟨rfl, hb1⟩
  go_wp2_with fail
  refine (size_any _ _ (by omega) (by omega)).mono ?_
  rintro e w2 ⟨rfl, hb2⟩
  have hb : Below w.heap.size w w2 := hb1.trans (hb2.mono hb1.size)
  clear hb1 hb2
  go_wp2
  go_ret
  exact ⟨rfl, hb⟩

set_option maxRecDepth 100000 in
set_option maxHeartbeats 400000 in
theorem side_walk (a0 : Int) (a1 : Int) (w : World) (_w0 : (Lit.int .i64 a0).wf = true) (_w1 : (Lit.int .i64 a1).wf = true) :
    Calls Try.prog 5 #[.int .i64 a0, .int .i64 a1] w fun e w' => e = .returned (.bool true) ∧ Below w.heap.size w w' := by
  by_cases c1 : a0 < 0
  · go_enter Try.func5, Try.ntmps5
    go_wp2
    go_ret
    exact ⟨rfl, Below.refl _ _⟩
  by_cases c2 : 536870912 < a0
  · go_enter Try.func5, Try.ntmps5
    go_wp2
    go_ret
    exact ⟨rfl, Below.refl _ _⟩
  by_cases c3 : a1 < 0
  · go_enter Try.func5, Try.ntmps5
    go_wp2
    go_ret
    exact ⟨rfl, Below.refl _ _⟩
  by_cases c4 : 536870912 < a1
  · go_enter Try.func5, Try.ntmps5
    go_wp2
    go_ret
    exact ⟨rfl, Below.refl _ _⟩
  have f1 : (a0 + a1 + 7) / 8 ≤ (a0 + 7) / 8 + (a1 + 7) / 8 := by omega
  have f2 : (a0 + 7) / 8 + (a1 + 7) / 8 ≤ (a0 + a1 + 7) / 8 + 1 := by omega
  have f3 : a0 + a1 ≤ 8 * ((a0 + 7) / 8 + (a1 + 7) / 8) := by omega
  have f4 : 0 ≤ (a0 + 7) / 8 := by omega
  have f5 : (a0 + 7) / 8 ≤ 200000000 := by omega
  have f6 : 0 ≤ (a1 + 7) / 8 := by omega
  have f7 : (a1 + 7) / 8 ≤ 200000000 := by omega
  have f8 : 0 ≤ (a0 + a1 + 7) / 8 := by omega
  have f9 : (a0 + a1 + 7) / 8 ≤ 400000000 := by omega
  go_enter Try.func5, Try.ntmps5
  go_wp2_with fail
  refine (size_any _ _ (by omega) (by omega)).mono ?_
  rintro e w1 ⟨rfl, hb1⟩
  go_wp2_with fail
  refine (size_any _ _ (by omega) (by omega)).mono ?_
  rintro e w2 ⟨rfl, hb2⟩
  have hb : Below w.heap.size w w2 := hb1.trans (hb2.mono hb1.size)
  clear hb1 hb2
  go_wp2_with fail
  refine (size_any _ _ (by omega) (by omega)).mono ?_
  rintro e w3 ⟨rfl, hb3⟩
  have hb' : Below w.heap.size w w3 := hb.trans (hb3.mono hb.size)
  clear hb hb3
  go_wp2
  go_ret
  exact ⟨rfl, hb'⟩

end Go.Proofs.Qxb6612759a
