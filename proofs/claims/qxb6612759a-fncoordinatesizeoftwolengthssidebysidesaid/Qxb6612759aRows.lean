/-
  No cell of these rows narrows 'for every input' (looked for: loops, veiled, ifaces, maps, wideKeys, modest, calm, conditions, laid).
  DERIVED. THE GIVEN ROWS OF THIS SEAT. 3 by the template 'for every input the law returns true; each argument reads behind the call as it read before'; 0 by the template 'total and deterministic' (their statements: Qxb6612759aTotals.lean).
  GIVEN WITH THE SEED: the statements are not yours to turn. If you find one false, say at which input.
  Laid BY PROGRAM, IN A SANDBOX (cutbox-rows.mjs): the forced cells as the released guide's own fill.sh prints them over the translation aa21d7335c46a316… (all of the seat's roots in one cut). By AI agents, Wed Nov 11 2026. No macro, syntax, notation, axiom, sorry.
-/
import Derived.Test.Qxb6612759aChecked
import GoSem.Claim
import GoSem.ClaimJoined
import GoSem.ClaimMapViews
import Derived.JoinedTies
import Derived.KernelRfl
namespace Go.Proofs.Qxb6612759a
/- THE CELL 'sum', in the pinned program and in every row, IS THE sha256 OF THE DUMP (.gsa) THAT Qxb6612759aProg.lean LOADS. Nothing in Lean hashes anything: it is a label: what it is worth is what the hold of that sum in a sandbox is worth. -/
noncomputable def Try.pinned : Pinned := { name := "qxb6612759a", sum := "aa21d7335c46a316ce1f1c45ef1009a23ad7d65d360e0b324707ee1e325f5707", checked := Try.checked }
namespace Rows
def none {H : Type} : Left H := { results := [], args := [] }

/-- 'zzlaws_root_b1.FnNestedLiftsAMapsOwnFaultOnce': WHATEVER THE INPUT: true; the input reads as it did. -/
def fnNestedLiftsAMapsOwnFaultOnceSpec : ChangeSpec := { name := "fnNestedLiftsAMapsOwnFaultOnce", fn := fun _ => fun
  | [d1, d2, d3] => { results := [.lit (.bool true)], args := [d1, d2, d3] }
  | _ => none }
def fnNestedLiftsAMapsOwnFaultOnceRow : OpenClaim := { program := "qxb6612759a", sum := "aa21d7335c46a316ce1f1c45ef1009a23ad7d65d360e0b324707ee1e325f5707", func := "example.com/tael/tael/zzlaws_root_b1.FnNestedLiftsAMapsOwnFaultOnce", spec := "fnNestedLiftsAMapsOwnFaultOnce", apart := false }
def FnNestedLiftsAMapsOwnFaultOnceSaid : Prop := fnNestedLiftsAMapsOwnFaultOnceRow.holds Try.pinned (OpenSpec.ofChange fnNestedLiftsAMapsOwnFaultOnceSpec)

/-- ITS FALSE NEIGHBOUR: 'it returns false'. Refute it at one input. -/
def fnNestedLiftsAMapsOwnFaultOnceWrong : ChangeSpec := { name := "fnNestedLiftsAMapsOwnFaultOnce", fn := fun _ => fun
  | [d1, d2, d3] => { results := [.lit (.bool false)], args := [d1, d2, d3] }
  | _ => none }
def FnNestedLiftsAMapsOwnFaultOnceWrongFalsely : Prop := fnNestedLiftsAMapsOwnFaultOnceRow.holds Try.pinned (OpenSpec.ofChange fnNestedLiftsAMapsOwnFaultOnceWrong)

/-- 'zzlaws_root_b1.FnCoordinateSizeOneMoreByteForEightMoreBits': WHATEVER THE INPUT: true; the input reads as it did. -/
def fnCoordinateSizeOneMoreByteForEightMoreBitsSpec : ChangeSpec := { name := "fnCoordinateSizeOneMoreByteForEightMoreBits", fn := fun _ => fun
  | [d] => { results := [.lit (.bool true)], args := [d] }
  | _ => none }
def fnCoordinateSizeOneMoreByteForEightMoreBitsRow : OpenClaim := { program := "qxb6612759a", sum := "aa21d7335c46a316ce1f1c45ef1009a23ad7d65d360e0b324707ee1e325f5707", func := "example.com/tael/tael/zzlaws_root_b1.FnCoordinateSizeOneMoreByteForEightMoreBits", spec := "fnCoordinateSizeOneMoreByteForEightMoreBits", unfollowed := true, recurses := true, apart := false }
def FnCoordinateSizeOneMoreByteForEightMoreBitsSaid : Prop := fnCoordinateSizeOneMoreByteForEightMoreBitsRow.holds Try.pinned (OpenSpec.ofChange fnCoordinateSizeOneMoreByteForEightMoreBitsSpec)

/-- ITS FALSE NEIGHBOUR: 'it returns false'. Refute it at one input. -/
def fnCoordinateSizeOneMoreByteForEightMoreBitsWrong : ChangeSpec := { name := "fnCoordinateSizeOneMoreByteForEightMoreBits", fn := fun _ => fun
  | [d] => { results := [.lit (.bool false)], args := [d] }
  | _ => none }
def FnCoordinateSizeOneMoreByteForEightMoreBitsWrongFalsely : Prop := fnCoordinateSizeOneMoreByteForEightMoreBitsRow.holds Try.pinned (OpenSpec.ofChange fnCoordinateSizeOneMoreByteForEightMoreBitsWrong)

/-- 'zzlaws_root_b1.FnCoordinateSizeOfTwoLengthsSideBySide': WHATEVER THE INPUT: true; the input reads as it did. -/
def fnCoordinateSizeOfTwoLengthsSideBySideSpec : ChangeSpec := { name := "fnCoordinateSizeOfTwoLengthsSideBySide", fn := fun _ => fun
  | [d1, d2] => { results := [.lit (.bool true)], args := [d1, d2] }
  | _ => none }
def fnCoordinateSizeOfTwoLengthsSideBySideRow : OpenClaim := { program := "qxb6612759a", sum := "aa21d7335c46a316ce1f1c45ef1009a23ad7d65d360e0b324707ee1e325f5707", func := "example.com/tael/tael/zzlaws_root_b1.FnCoordinateSizeOfTwoLengthsSideBySide", spec := "fnCoordinateSizeOfTwoLengthsSideBySide", unfollowed := true, recurses := true, apart := false }
def FnCoordinateSizeOfTwoLengthsSideBySideSaid : Prop := fnCoordinateSizeOfTwoLengthsSideBySideRow.holds Try.pinned (OpenSpec.ofChange fnCoordinateSizeOfTwoLengthsSideBySideSpec)

/-- ITS FALSE NEIGHBOUR: 'it returns false'. Refute it at one input. -/
def fnCoordinateSizeOfTwoLengthsSideBySideWrong : ChangeSpec := { name := "fnCoordinateSizeOfTwoLengthsSideBySide", fn := fun _ => fun
  | [d1, d2] => { results := [.lit (.bool false)], args := [d1, d2] }
  | _ => none }
def FnCoordinateSizeOfTwoLengthsSideBySideWrongFalsely : Prop := fnCoordinateSizeOfTwoLengthsSideBySideRow.holds Try.pinned (OpenSpec.ofChange fnCoordinateSizeOfTwoLengthsSideBySideWrong)

end Rows
end Go.Proofs.Qxb6612759a
