import Derived.Test.Qxb6612711aProps
import Derived.LaidEql
namespace Go.Proofs.Qxb6612711a
open Go.RowKit

/-- nothing, or the int64 there -/
def flat (o : Option (Option Int)) : Option Int := o.getD none

theorem ta_nil2 (w : World) : (Instr.typeAssert .nilIface 20 2 true).run Try.prog w = .ok (.tuple #[.int .i64 0, .bool false]) w := by kernel_rfl
theorem ta_int2 (x : Int) (w : World) : (Instr.typeAssert (.iface 2 (.int .i64 x)) 20 2 true).run Try.prog w = .ok (.tuple #[.int .i64 x, .bool true]) w := by kernel_rfl
theorem ta_int62 (x : Int) (w : World) : (Instr.typeAssert (.iface 2 (.int .i64 x)) 20 62 true).run Try.prog w = .ok (.tuple #[.float .f64 0, .bool false]) w := by kernel_rfl
theorem ta_int9 (x : Int) (w : World) : (Instr.typeAssert (.iface 2 (.int .i64 x)) 20 9 true).run Try.prog w = .ok (.tuple #[.string ⟨#[]⟩, .bool false]) w := by kernel_rfl
theorem ta_int4 (x : Int) (w : World) : (Instr.typeAssert (.iface 2 (.int .i64 x)) 20 4 true).run Try.prog w = .ok (.tuple #[.bool false, .bool false]) w := by kernel_rfl

theorem eql_ints (a b : Int) (w : World) : (binOp .eql 20 (.iface 2 (.int .i64 a)) (.iface 2 (.int .i64 b))).run Try.prog w = .ok (.bool (a == b)) w := by kernel_rfl
theorem eql_int_nil (a : Int) (w : World) : (binOp .eql 20 (.iface 2 (.int .i64 a)) .nilIface).run Try.prog w = .ok (.bool false) w := by kernel_rfl
theorem eql_nil_int (a : Int) (w : World) : (binOp .eql 20 .nilIface (.iface 2 (.int .i64 a))).run Try.prog w = .ok (.bool false) w := by kernel_rfl
theorem eql_nil_nil (w : World) : (binOp .eql 20 .nilIface .nilIface).run Try.prog w = .ok (.bool true) w := by kernel_rfl

set_option maxHeartbeats 400000 in
theorem propInt_any (b n : Nat) (M : ByteArray → Option (Option Int)) (s : ByteArray) (w : World) (h : IsPM w b n M) (hs : s.size ≤ maxLen) :
    Calls Try.prog 19 #[.map (some b), .string s] w fun e w' => e = .returned (.tuple #[.int .i64 (valI (flat (M s))), .bool (hasB (flat (M s)))]) ∧ w' = w := by
  have hl : (Instr.lookup 27 (.map (some b)) (.string s) false).run Try.prog w = .ok (anyV (flat (M s))) w := h.lookup hs
  generalize flat (M s) = u at *
  cases u with
  | none =>
    have hl' : (Instr.lookup 27 (.map (some b)) (.string s) false).run Try.prog w = .ok .nilIface w := hl
    clear hl
    have f1 := ta_nil2
    go_enter Try.func19, Try.ntmps19
    go_wp2
    go_ret2
    exact ⟨rfl, rfl⟩
  | some z =>
    have hl' : (Instr.lookup 27 (.map (some b)) (.string s) false).run Try.prog w = .ok (.iface 2 (.int .i64 z)) w := hl
    clear hl
    have f1 := ta_int2
    go_enter Try.func19, Try.ntmps19
    go_wp2
    go_ret2
    exact ⟨rfl, rfl⟩

set_option maxHeartbeats 400000 in
theorem sameValue_any (u v : Option Int) (w : World) :
    Calls Try.prog 39 #[anyV u, anyV v] w fun e w' => e = .returned (.bool (decide (u = v))) ∧ w' = w := by
  have f1 := ta_int2
  have f2 := ta_int62
  have f3 := ta_int9
  have f4 := ta_int4
  have g1 := eql_ints
  have g2 := eql_int_nil
  have g3 := eql_nil_int
  have g4 := eql_nil_nil
  cases u with
  | none =>
    cases v with
    | none =>
      show Calls Try.prog 39 #[.nilIface, .nilIface] w _
      go_enter Try.func39, Try.ntmps39
      go_wp2
      go_ret
      exact ⟨ret_bool (by simp), rfl⟩
    | some y =>
      show Calls Try.prog 39 #[.nilIface, .iface 2 (.int .i64 y)] w _
      go_enter Try.func39, Try.ntmps39
      go_wp2
      go_ret
      exact ⟨ret_bool (by simp), rfl⟩
  | some x =>
    cases v with
    | none =>
      show Calls Try.prog 39 #[.iface 2 (.int .i64 x), .nilIface] w _
      go_enter Try.func39, Try.ntmps39
      go_wp2
      go_ret
      exact ⟨ret_bool (by simp), rfl⟩
    | some y =>
      show Calls Try.prog 39 #[.iface 2 (.int .i64 x), .iface 2 (.int .i64 y)] w _
      go_enter Try.func39, Try.ntmps39
      go_wp2
      go_ret
      exact ⟨ret_bool (by rw [Bool.eq_iff_iff]; simp), rfl⟩

end Go.Proofs.Qxb6612711a
