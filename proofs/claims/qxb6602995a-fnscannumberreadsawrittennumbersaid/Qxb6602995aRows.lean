/-
  No cell of these rows narrows 'for every input' (looked for: loops, veiled, ifaces, maps, wideKeys, modest, calm, conditions, laid).
  DERIVED. THE GIVEN ROWS OF THIS SEAT. 9 by the template 'for every input the law returns true; each argument reads behind the call as it read before'; 0 by the template 'total and deterministic' (their statements: Qxb6602995aTotals.lean).
  GIVEN WITH THE SEED: the statements are not yours to turn. If you find one false, say at which input.
  Laid BY PROGRAM, IN A SANDBOX (cutbox-rows.mjs): the forced cells as the released guide's own fill.sh prints them over the translation 88f1c2377580e77b… (all of the seat's roots in one cut). By AI agents, Wed Nov 11 2026. No macro, syntax, notation, axiom, sorry.
-/
import Derived.Test.Qxb6602995aChecked
import GoSem.Claim
import GoSem.ClaimJoined
import GoSem.ClaimMapViews
import Derived.JoinedTies
import Derived.KernelRfl
namespace Go.Proofs.Qxb6602995a
/- THE CELL 'sum', in the pinned program and in every row, IS THE sha256 OF THE DUMP (.gsa) THAT Qxb6602995aProg.lean LOADS. Nothing in Lean hashes anything: it is a label: what it is worth is what the hold of that sum in a sandbox is worth. -/
noncomputable def Try.pinned : Pinned := { name := "qxb6602995a", sum := "88f1c2377580e77ba47d707ac3d4847a5d4d0368c68e655a29b571547f90b1ad", checked := Try.checked }
namespace Rows
def none {H : Type} : Left H := { results := [], args := [] }

/-- 'zzlaws_root_b1.FnScanStringMatchesAutomaton': WHATEVER THE INPUT: true; the input reads as it did. -/
def fnScanStringMatchesAutomatonSpec : ChangeSpec := { name := "fnScanStringMatchesAutomaton", fn := fun _ => fun
  | [d1, d2] => { results := [.lit (.bool true)], args := [d1, d2] }
  | _ => none }
def fnScanStringMatchesAutomatonRow : OpenClaim := { program := "qxb6602995a", sum := "88f1c2377580e77ba47d707ac3d4847a5d4d0368c68e655a29b571547f90b1ad", func := "example.com/strikeline/strikeline/zzlaws_root_b1.FnScanStringMatchesAutomaton", spec := "fnScanStringMatchesAutomaton", apart := false }
def FnScanStringMatchesAutomatonSaid : Prop := fnScanStringMatchesAutomatonRow.holds Try.pinned (OpenSpec.ofChange fnScanStringMatchesAutomatonSpec)

/-- ITS FALSE NEIGHBOUR: 'it returns false'. Refute it at one input. -/
def fnScanStringMatchesAutomatonWrong : ChangeSpec := { name := "fnScanStringMatchesAutomaton", fn := fun _ => fun
  | [d1, d2] => { results := [.lit (.bool false)], args := [d1, d2] }
  | _ => none }
def FnScanStringMatchesAutomatonWrongFalsely : Prop := fnScanStringMatchesAutomatonRow.holds Try.pinned (OpenSpec.ofChange fnScanStringMatchesAutomatonWrong)

/-- 'zzlaws_root_b1.FnScanStringFindsTheEndOfAnEncodedText': WHATEVER THE INPUT: true; the input reads as it did. -/
def fnScanStringFindsTheEndOfAnEncodedTextSpec : ChangeSpec := { name := "fnScanStringFindsTheEndOfAnEncodedText", fn := fun _ => fun
  | [d1, d2, d3] => { results := [.lit (.bool true)], args := [d1, d2, d3] }
  | _ => none }
def fnScanStringFindsTheEndOfAnEncodedTextRow : OpenClaim := { program := "qxb6602995a", sum := "88f1c2377580e77ba47d707ac3d4847a5d4d0368c68e655a29b571547f90b1ad", func := "example.com/strikeline/strikeline/zzlaws_root_b1.FnScanStringFindsTheEndOfAnEncodedText", spec := "fnScanStringFindsTheEndOfAnEncodedText", apart := false }
def FnScanStringFindsTheEndOfAnEncodedTextSaid : Prop := fnScanStringFindsTheEndOfAnEncodedTextRow.holds Try.pinned (OpenSpec.ofChange fnScanStringFindsTheEndOfAnEncodedTextSpec)

/-- ITS FALSE NEIGHBOUR: 'it returns false'. Refute it at one input. -/
def fnScanStringFindsTheEndOfAnEncodedTextWrong : ChangeSpec := { name := "fnScanStringFindsTheEndOfAnEncodedText", fn := fun _ => fun
  | [d1, d2, d3] => { results := [.lit (.bool false)], args := [d1, d2, d3] }
  | _ => none }
def FnScanStringFindsTheEndOfAnEncodedTextWrongFalsely : Prop := fnScanStringFindsTheEndOfAnEncodedTextRow.holds Try.pinned (OpenSpec.ofChange fnScanStringFindsTheEndOfAnEncodedTextWrong)

/-- 'zzlaws_root_b1.FnScanStringReadsNothingPastItsEnd': WHATEVER THE INPUT: true; the input reads as it did. -/
def fnScanStringReadsNothingPastItsEndSpec : ChangeSpec := { name := "fnScanStringReadsNothingPastItsEnd", fn := fun _ => fun
  | [d1, d2] => { results := [.lit (.bool true)], args := [d1, d2] }
  | _ => none }
def fnScanStringReadsNothingPastItsEndRow : OpenClaim := { program := "qxb6602995a", sum := "88f1c2377580e77ba47d707ac3d4847a5d4d0368c68e655a29b571547f90b1ad", func := "example.com/strikeline/strikeline/zzlaws_root_b1.FnScanStringReadsNothingPastItsEnd", spec := "fnScanStringReadsNothingPastItsEnd", apart := false }
def FnScanStringReadsNothingPastItsEndSaid : Prop := fnScanStringReadsNothingPastItsEndRow.holds Try.pinned (OpenSpec.ofChange fnScanStringReadsNothingPastItsEndSpec)

/-- ITS FALSE NEIGHBOUR: 'it returns false'. Refute it at one input. -/
def fnScanStringReadsNothingPastItsEndWrong : ChangeSpec := { name := "fnScanStringReadsNothingPastItsEnd", fn := fun _ => fun
  | [d1, d2] => { results := [.lit (.bool false)], args := [d1, d2] }
  | _ => none }
def FnScanStringReadsNothingPastItsEndWrongFalsely : Prop := fnScanStringReadsNothingPastItsEndRow.holds Try.pinned (OpenSpec.ofChange fnScanStringReadsNothingPastItsEndWrong)

/-- 'zzlaws_root_b1.FnScanNumberMatchesAutomaton': WHATEVER THE INPUT: true; the input reads as it did. -/
def fnScanNumberMatchesAutomatonSpec : ChangeSpec := { name := "fnScanNumberMatchesAutomaton", fn := fun _ => fun
  | [d1, d2] => { results := [.lit (.bool true)], args := [d1, d2] }
  | _ => none }
def fnScanNumberMatchesAutomatonRow : OpenClaim := { program := "qxb6602995a", sum := "88f1c2377580e77ba47d707ac3d4847a5d4d0368c68e655a29b571547f90b1ad", func := "example.com/strikeline/strikeline/zzlaws_root_b1.FnScanNumberMatchesAutomaton", spec := "fnScanNumberMatchesAutomaton", apart := false }
def FnScanNumberMatchesAutomatonSaid : Prop := fnScanNumberMatchesAutomatonRow.holds Try.pinned (OpenSpec.ofChange fnScanNumberMatchesAutomatonSpec)

/-- ITS FALSE NEIGHBOUR: 'it returns false'. Refute it at one input. -/
def fnScanNumberMatchesAutomatonWrong : ChangeSpec := { name := "fnScanNumberMatchesAutomaton", fn := fun _ => fun
  | [d1, d2] => { results := [.lit (.bool false)], args := [d1, d2] }
  | _ => none }
def FnScanNumberMatchesAutomatonWrongFalsely : Prop := fnScanNumberMatchesAutomatonRow.holds Try.pinned (OpenSpec.ofChange fnScanNumberMatchesAutomatonWrong)

/-- 'zzlaws_root_b1.FnScanNumberReadsAWrittenNumber': WHATEVER THE INPUT: true; the input reads as it did. -/
def fnScanNumberReadsAWrittenNumberSpec : ChangeSpec := { name := "fnScanNumberReadsAWrittenNumber", fn := fun _ => fun
  | [d1, d2, d3, d4, d5, d6, d7, d8, d9, d10] => { results := [.lit (.bool true)], args := [d1, d2, d3, d4, d5, d6, d7, d8, d9, d10] }
  | _ => none }
def fnScanNumberReadsAWrittenNumberRow : OpenClaim := { program := "qxb6602995a", sum := "88f1c2377580e77ba47d707ac3d4847a5d4d0368c68e655a29b571547f90b1ad", func := "example.com/strikeline/strikeline/zzlaws_root_b1.FnScanNumberReadsAWrittenNumber", spec := "fnScanNumberReadsAWrittenNumber", apart := false }
def FnScanNumberReadsAWrittenNumberSaid : Prop := fnScanNumberReadsAWrittenNumberRow.holds Try.pinned (OpenSpec.ofChange fnScanNumberReadsAWrittenNumberSpec)

/-- ITS FALSE NEIGHBOUR: 'it returns false'. Refute it at one input. -/
def fnScanNumberReadsAWrittenNumberWrong : ChangeSpec := { name := "fnScanNumberReadsAWrittenNumber", fn := fun _ => fun
  | [d1, d2, d3, d4, d5, d6, d7, d8, d9, d10] => { results := [.lit (.bool false)], args := [d1, d2, d3, d4, d5, d6, d7, d8, d9, d10] }
  | _ => none }
def FnScanNumberReadsAWrittenNumberWrongFalsely : Prop := fnScanNumberReadsAWrittenNumberRow.holds Try.pinned (OpenSpec.ofChange fnScanNumberReadsAWrittenNumberWrong)

/-- 'zzlaws_root_b1.FnScanNumberReadsNothingPastItsEnd': WHATEVER THE INPUT: true; the input reads as it did. -/
def fnScanNumberReadsNothingPastItsEndSpec : ChangeSpec := { name := "fnScanNumberReadsNothingPastItsEnd", fn := fun _ => fun
  | [d1, d2] => { results := [.lit (.bool true)], args := [d1, d2] }
  | _ => none }
def fnScanNumberReadsNothingPastItsEndRow : OpenClaim := { program := "qxb6602995a", sum := "88f1c2377580e77ba47d707ac3d4847a5d4d0368c68e655a29b571547f90b1ad", func := "example.com/strikeline/strikeline/zzlaws_root_b1.FnScanNumberReadsNothingPastItsEnd", spec := "fnScanNumberReadsNothingPastItsEnd", apart := false }
def FnScanNumberReadsNothingPastItsEndSaid : Prop := fnScanNumberReadsNothingPastItsEndRow.holds Try.pinned (OpenSpec.ofChange fnScanNumberReadsNothingPastItsEndSpec)

/-- ITS FALSE NEIGHBOUR: 'it returns false'. Refute it at one input. -/
def fnScanNumberReadsNothingPastItsEndWrong : ChangeSpec := { name := "fnScanNumberReadsNothingPastItsEnd", fn := fun _ => fun
  | [d1, d2] => { results := [.lit (.bool false)], args := [d1, d2] }
  | _ => none }
def FnScanNumberReadsNothingPastItsEndWrongFalsely : Prop := fnScanNumberReadsNothingPastItsEndRow.holds Try.pinned (OpenSpec.ofChange fnScanNumberReadsNothingPastItsEndWrong)

/-- 'zzlaws_root_b1.FnEditsMatchesFurthestReach': WHATEVER THE INPUT: true; the input reads as it did. -/
def fnEditsMatchesFurthestReachSpec : ChangeSpec := { name := "fnEditsMatchesFurthestReach", fn := fun _ => fun
  | [d1, d2] => { results := [.lit (.bool true)], args := [d1, d2] }
  | _ => none }
def fnEditsMatchesFurthestReachRow : OpenClaim := { program := "qxb6602995a", sum := "88f1c2377580e77ba47d707ac3d4847a5d4d0368c68e655a29b571547f90b1ad", func := "example.com/strikeline/strikeline/zzlaws_root_b1.FnEditsMatchesFurthestReach", spec := "fnEditsMatchesFurthestReach", apart := false }
def FnEditsMatchesFurthestReachSaid : Prop := fnEditsMatchesFurthestReachRow.holds Try.pinned (OpenSpec.ofChange fnEditsMatchesFurthestReachSpec)

/-- ITS FALSE NEIGHBOUR: 'it returns false'. Refute it at one input. -/
def fnEditsMatchesFurthestReachWrong : ChangeSpec := { name := "fnEditsMatchesFurthestReach", fn := fun _ => fun
  | [d1, d2] => { results := [.lit (.bool false)], args := [d1, d2] }
  | _ => none }
def FnEditsMatchesFurthestReachWrongFalsely : Prop := fnEditsMatchesFurthestReachRow.holds Try.pinned (OpenSpec.ofChange fnEditsMatchesFurthestReachWrong)

/-- 'zzlaws_root_b1.FnEditsIsSymmetricAndWithinLengthBounds': WHATEVER THE INPUT: true; the input reads as it did. -/
def fnEditsIsSymmetricAndWithinLengthBoundsSpec : ChangeSpec := { name := "fnEditsIsSymmetricAndWithinLengthBounds", fn := fun _ => fun
  | [d1, d2] => { results := [.lit (.bool true)], args := [d1, d2] }
  | _ => none }
def fnEditsIsSymmetricAndWithinLengthBoundsRow : OpenClaim := { program := "qxb6602995a", sum := "88f1c2377580e77ba47d707ac3d4847a5d4d0368c68e655a29b571547f90b1ad", func := "example.com/strikeline/strikeline/zzlaws_root_b1.FnEditsIsSymmetricAndWithinLengthBounds", spec := "fnEditsIsSymmetricAndWithinLengthBounds", apart := false }
def FnEditsIsSymmetricAndWithinLengthBoundsSaid : Prop := fnEditsIsSymmetricAndWithinLengthBoundsRow.holds Try.pinned (OpenSpec.ofChange fnEditsIsSymmetricAndWithinLengthBoundsSpec)

/-- ITS FALSE NEIGHBOUR: 'it returns false'. Refute it at one input. -/
def fnEditsIsSymmetricAndWithinLengthBoundsWrong : ChangeSpec := { name := "fnEditsIsSymmetricAndWithinLengthBounds", fn := fun _ => fun
  | [d1, d2] => { results := [.lit (.bool false)], args := [d1, d2] }
  | _ => none }
def FnEditsIsSymmetricAndWithinLengthBoundsWrongFalsely : Prop := fnEditsIsSymmetricAndWithinLengthBoundsRow.holds Try.pinned (OpenSpec.ofChange fnEditsIsSymmetricAndWithinLengthBoundsWrong)

/-- 'zzlaws_root_b1.FnEditsObeysTheTriangleInequality': WHATEVER THE INPUT: true; the input reads as it did. -/
def fnEditsObeysTheTriangleInequalitySpec : ChangeSpec := { name := "fnEditsObeysTheTriangleInequality", fn := fun _ => fun
  | [d1, d2, d3] => { results := [.lit (.bool true)], args := [d1, d2, d3] }
  | _ => none }
def fnEditsObeysTheTriangleInequalityRow : OpenClaim := { program := "qxb6602995a", sum := "88f1c2377580e77ba47d707ac3d4847a5d4d0368c68e655a29b571547f90b1ad", func := "example.com/strikeline/strikeline/zzlaws_root_b1.FnEditsObeysTheTriangleInequality", spec := "fnEditsObeysTheTriangleInequality", apart := false }
def FnEditsObeysTheTriangleInequalitySaid : Prop := fnEditsObeysTheTriangleInequalityRow.holds Try.pinned (OpenSpec.ofChange fnEditsObeysTheTriangleInequalitySpec)

/-- ITS FALSE NEIGHBOUR: 'it returns false'. Refute it at one input. -/
def fnEditsObeysTheTriangleInequalityWrong : ChangeSpec := { name := "fnEditsObeysTheTriangleInequality", fn := fun _ => fun
  | [d1, d2, d3] => { results := [.lit (.bool false)], args := [d1, d2, d3] }
  | _ => none }
def FnEditsObeysTheTriangleInequalityWrongFalsely : Prop := fnEditsObeysTheTriangleInequalityRow.holds Try.pinned (OpenSpec.ofChange fnEditsObeysTheTriangleInequalityWrong)

end Rows
end Go.Proofs.Qxb6602995a
