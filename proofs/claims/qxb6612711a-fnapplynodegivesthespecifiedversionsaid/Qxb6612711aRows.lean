/-
  No cell of these rows narrows 'for every input' (looked for: loops, veiled, ifaces, maps, wideKeys, modest, calm, conditions, laid).
  DERIVED. THE GIVEN ROWS OF THIS SEAT. 4 by the template 'for every input the law returns true; each argument reads behind the call as it read before'; 0 by the template 'total and deterministic' (their statements: Qxb6612711aTotals.lean).
  GIVEN WITH THE SEED: the statements are not yours to turn. If you find one false, say at which input.
  Laid BY PROGRAM, IN A SANDBOX (cutbox-rows.mjs): the forced cells as the released guide's own fill.sh prints them over the translation 95ddfcd41e21afd1… (all of the seat's roots in one cut). By AI agents, Wed Nov 11 2026. No macro, syntax, notation, axiom, sorry.
-/
import Derived.Test.Qxb6612711aChecked
import GoSem.Claim
import GoSem.ClaimJoined
import GoSem.ClaimMapViews
import Derived.JoinedTies
import Derived.KernelRfl
namespace Go.Proofs.Qxb6612711a
/- THE CELL 'sum', in the pinned program and in every row, IS THE sha256 OF THE DUMP (.gsa) THAT Qxb6612711aProg.lean LOADS. Nothing in Lean hashes anything: it is a label: what it is worth is what the hold of that sum in a sandbox is worth. -/
noncomputable def Try.pinned : Pinned := { name := "qxb6612711a", sum := "95ddfcd41e21afd1023e9ad5745e6347628410355e2e40a62ad92bb28f29561d", checked := Try.checked }
namespace Rows
def none {H : Type} : Left H := { results := [], args := [] }

/-- 'zzlaws_internal_graph_b1.FnApplyNodeGivesTheSpecifiedVersion': WHATEVER THE INPUT: true; the input reads as it did. -/
def fnApplyNodeGivesTheSpecifiedVersionSpec : ChangeSpec := { name := "fnApplyNodeGivesTheSpecifiedVersion", fn := fun _ => fun
  | [d1, d2, d3, d4, d5, d6, d7, d8, d9, d10] => { results := [.lit (.bool true)], args := [d1, d2, d3, d4, d5, d6, d7, d8, d9, d10] }
  | _ => none }
def fnApplyNodeGivesTheSpecifiedVersionRow : OpenClaim := { program := "qxb6612711a", sum := "95ddfcd41e21afd1023e9ad5745e6347628410355e2e40a62ad92bb28f29561d", func := "example.com/quorumvine/quorumvine/zzlaws_internal_graph_b1.FnApplyNodeGivesTheSpecifiedVersion", spec := "fnApplyNodeGivesTheSpecifiedVersion", apart := false }
def FnApplyNodeGivesTheSpecifiedVersionSaid : Prop := fnApplyNodeGivesTheSpecifiedVersionRow.holds Try.pinned (OpenSpec.ofChange fnApplyNodeGivesTheSpecifiedVersionSpec)

/-- ITS FALSE NEIGHBOUR: 'it returns false'. Refute it at one input. -/
def fnApplyNodeGivesTheSpecifiedVersionWrong : ChangeSpec := { name := "fnApplyNodeGivesTheSpecifiedVersion", fn := fun _ => fun
  | [d1, d2, d3, d4, d5, d6, d7, d8, d9, d10] => { results := [.lit (.bool false)], args := [d1, d2, d3, d4, d5, d6, d7, d8, d9, d10] }
  | _ => none }
def FnApplyNodeGivesTheSpecifiedVersionWrongFalsely : Prop := fnApplyNodeGivesTheSpecifiedVersionRow.holds Try.pinned (OpenSpec.ofChange fnApplyNodeGivesTheSpecifiedVersionWrong)

/-- 'zzlaws_internal_graph_b1.FnApplyNodeTwiceIsOnce': WHATEVER THE INPUT: true; the input reads as it did. -/
def fnApplyNodeTwiceIsOnceSpec : ChangeSpec := { name := "fnApplyNodeTwiceIsOnce", fn := fun _ => fun
  | [d1, d2, d3, d4, d5, d6, d7, d8, d9, d10] => { results := [.lit (.bool true)], args := [d1, d2, d3, d4, d5, d6, d7, d8, d9, d10] }
  | _ => none }
def fnApplyNodeTwiceIsOnceRow : OpenClaim := { program := "qxb6612711a", sum := "95ddfcd41e21afd1023e9ad5745e6347628410355e2e40a62ad92bb28f29561d", func := "example.com/quorumvine/quorumvine/zzlaws_internal_graph_b1.FnApplyNodeTwiceIsOnce", spec := "fnApplyNodeTwiceIsOnce", apart := false }
def FnApplyNodeTwiceIsOnceSaid : Prop := fnApplyNodeTwiceIsOnceRow.holds Try.pinned (OpenSpec.ofChange fnApplyNodeTwiceIsOnceSpec)

/-- ITS FALSE NEIGHBOUR: 'it returns false'. Refute it at one input. -/
def fnApplyNodeTwiceIsOnceWrong : ChangeSpec := { name := "fnApplyNodeTwiceIsOnce", fn := fun _ => fun
  | [d1, d2, d3, d4, d5, d6, d7, d8, d9, d10] => { results := [.lit (.bool false)], args := [d1, d2, d3, d4, d5, d6, d7, d8, d9, d10] }
  | _ => none }
def FnApplyNodeTwiceIsOnceWrongFalsely : Prop := fnApplyNodeTwiceIsOnceRow.holds Try.pinned (OpenSpec.ofChange fnApplyNodeTwiceIsOnceWrong)

/-- 'zzlaws_internal_graph_b1.FnStaleNodeIsATouchedDifference': WHATEVER THE INPUT: true; the input reads as it did. -/
def fnStaleNodeIsATouchedDifferenceSpec : ChangeSpec := { name := "fnStaleNodeIsATouchedDifference", fn := fun _ => fun
  | [d1, d2, d3, d4, d5, d6, d7, d8, d9, d10, d11, d12] => { results := [.lit (.bool true)], args := [d1, d2, d3, d4, d5, d6, d7, d8, d9, d10, d11, d12] }
  | _ => none }
def fnStaleNodeIsATouchedDifferenceRow : OpenClaim := { program := "qxb6612711a", sum := "95ddfcd41e21afd1023e9ad5745e6347628410355e2e40a62ad92bb28f29561d", func := "example.com/quorumvine/quorumvine/zzlaws_internal_graph_b1.FnStaleNodeIsATouchedDifference", spec := "fnStaleNodeIsATouchedDifference", inPlace := ["math.Float64bits"], apart := false }
def FnStaleNodeIsATouchedDifferenceSaid : Prop := fnStaleNodeIsATouchedDifferenceRow.holds Try.pinned (OpenSpec.ofChange fnStaleNodeIsATouchedDifferenceSpec)

/-- ITS FALSE NEIGHBOUR: 'it returns false'. Refute it at one input. -/
def fnStaleNodeIsATouchedDifferenceWrong : ChangeSpec := { name := "fnStaleNodeIsATouchedDifference", fn := fun _ => fun
  | [d1, d2, d3, d4, d5, d6, d7, d8, d9, d10, d11, d12] => { results := [.lit (.bool false)], args := [d1, d2, d3, d4, d5, d6, d7, d8, d9, d10, d11, d12] }
  | _ => none }
def FnStaleNodeIsATouchedDifferenceWrongFalsely : Prop := fnStaleNodeIsATouchedDifferenceRow.holds Try.pinned (OpenSpec.ofChange fnStaleNodeIsATouchedDifferenceWrong)

/-- 'zzlaws_internal_graph_b1.FnStaleNodeAgainstWhatApplyNodeWrote': WHATEVER THE INPUT: true; the input reads as it did. -/
def fnStaleNodeAgainstWhatApplyNodeWroteSpec : ChangeSpec := { name := "fnStaleNodeAgainstWhatApplyNodeWrote", fn := fun _ => fun
  | [d1, d2, d3, d4, d5, d6, d7, d8, d9, d10, d11, d12] => { results := [.lit (.bool true)], args := [d1, d2, d3, d4, d5, d6, d7, d8, d9, d10, d11, d12] }
  | _ => none }
def fnStaleNodeAgainstWhatApplyNodeWroteRow : OpenClaim := { program := "qxb6612711a", sum := "95ddfcd41e21afd1023e9ad5745e6347628410355e2e40a62ad92bb28f29561d", func := "example.com/quorumvine/quorumvine/zzlaws_internal_graph_b1.FnStaleNodeAgainstWhatApplyNodeWrote", spec := "fnStaleNodeAgainstWhatApplyNodeWrote", inPlace := ["math.Float64bits"], apart := false }
def FnStaleNodeAgainstWhatApplyNodeWroteSaid : Prop := fnStaleNodeAgainstWhatApplyNodeWroteRow.holds Try.pinned (OpenSpec.ofChange fnStaleNodeAgainstWhatApplyNodeWroteSpec)

/-- ITS FALSE NEIGHBOUR: 'it returns false'. Refute it at one input. -/
def fnStaleNodeAgainstWhatApplyNodeWroteWrong : ChangeSpec := { name := "fnStaleNodeAgainstWhatApplyNodeWrote", fn := fun _ => fun
  | [d1, d2, d3, d4, d5, d6, d7, d8, d9, d10, d11, d12] => { results := [.lit (.bool false)], args := [d1, d2, d3, d4, d5, d6, d7, d8, d9, d10, d11, d12] }
  | _ => none }
def FnStaleNodeAgainstWhatApplyNodeWroteWrongFalsely : Prop := fnStaleNodeAgainstWhatApplyNodeWroteRow.holds Try.pinned (OpenSpec.ofChange fnStaleNodeAgainstWhatApplyNodeWroteWrong)

end Rows
end Go.Proofs.Qxb6612711a
