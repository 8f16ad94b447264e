/-
  No cell of these rows narrows 'for every input' (looked for: loops, veiled, ifaces, maps, wideKeys, modest, calm, conditions, laid).
  DERIVED. THE GIVEN ROWS OF THIS SEAT. 2 by the template 'for every input the law returns true; each argument reads behind the call as it read before'; 0 by the template 'total and deterministic' (their statements: Qxb6600799aTotals.lean).
  GIVEN WITH THE SEED: the statements are not yours to turn. If you find one false, say at which input.
  Laid BY PROGRAM, IN A SANDBOX (cutbox-rows.mjs): the forced cells as the released guide's own fill.sh prints them over the translation 4d43f7994c2f5e0d… (all of the seat's roots in one cut). By AI agents, Wed Nov 11 2026. No macro, syntax, notation, axiom, sorry.
-/
import Derived.Test.Qxb6600799aChecked
import GoSem.Claim
import GoSem.ClaimJoined
import GoSem.ClaimMapViews
import Derived.JoinedTies
import Derived.KernelRfl
namespace Go.Proofs.Qxb6600799a
/- THE CELL 'sum', in the pinned program and in every row, IS THE sha256 OF THE DUMP (.gsa) THAT Qxb6600799aProg.lean LOADS. Nothing in Lean hashes anything: it is a label: what it is worth is what the hold of that sum in a sandbox is worth. -/
noncomputable def Try.pinned : Pinned := { name := "qxb6600799a", sum := "4d43f7994c2f5e0dd2d35d618870853c98c2a1db4a2361d9653ec7786a901dfb", checked := Try.checked }
namespace Rows
def none {H : Type} : Left H := { results := [], args := [] }

/-- 'zzlaws_root_b1.FnGreatestMemberMatchesStateMachine': WHATEVER THE INPUT: true; the input reads as it did. -/
def fnGreatestMemberMatchesStateMachineSpec : ChangeSpec := { name := "fnGreatestMemberMatchesStateMachine", fn := fun _ => fun
  | [d] => { results := [.lit (.bool true)], args := [d] }
  | _ => none }
def fnGreatestMemberMatchesStateMachineRow : OpenClaim := { program := "qxb6600799a", sum := "4d43f7994c2f5e0dd2d35d618870853c98c2a1db4a2361d9653ec7786a901dfb", func := "example.com/leafmark/leafmark/zzlaws_root_b1.FnGreatestMemberMatchesStateMachine", spec := "fnGreatestMemberMatchesStateMachine", apart := false }
def FnGreatestMemberMatchesStateMachineSaid : Prop := fnGreatestMemberMatchesStateMachineRow.holds Try.pinned (OpenSpec.ofChange fnGreatestMemberMatchesStateMachineSpec)

/-- ITS FALSE NEIGHBOUR: 'it returns false'. Refute it at one input. -/
def fnGreatestMemberMatchesStateMachineWrong : ChangeSpec := { name := "fnGreatestMemberMatchesStateMachine", fn := fun _ => fun
  | [d] => { results := [.lit (.bool false)], args := [d] }
  | _ => none }
def FnGreatestMemberMatchesStateMachineWrongFalsely : Prop := fnGreatestMemberMatchesStateMachineRow.holds Try.pinned (OpenSpec.ofChange fnGreatestMemberMatchesStateMachineWrong)

/-- 'zzlaws_root_b1.FnGreatestMemberReadsQuotedMembersBack': WHATEVER THE INPUT: true; the input reads as it did. -/
def fnGreatestMemberReadsQuotedMembersBackSpec : ChangeSpec := { name := "fnGreatestMemberReadsQuotedMembersBack", fn := fun _ => fun
  | [d1, d2, d3] => { results := [.lit (.bool true)], args := [d1, d2, d3] }
  | _ => none }
def fnGreatestMemberReadsQuotedMembersBackRow : OpenClaim := { program := "qxb6600799a", sum := "4d43f7994c2f5e0dd2d35d618870853c98c2a1db4a2361d9653ec7786a901dfb", func := "example.com/leafmark/leafmark/zzlaws_root_b1.FnGreatestMemberReadsQuotedMembersBack", spec := "fnGreatestMemberReadsQuotedMembersBack", apart := false }
def FnGreatestMemberReadsQuotedMembersBackSaid : Prop := fnGreatestMemberReadsQuotedMembersBackRow.holds Try.pinned (OpenSpec.ofChange fnGreatestMemberReadsQuotedMembersBackSpec)

/-- ITS FALSE NEIGHBOUR: 'it returns false'. Refute it at one input. -/
def fnGreatestMemberReadsQuotedMembersBackWrong : ChangeSpec := { name := "fnGreatestMemberReadsQuotedMembersBack", fn := fun _ => fun
  | [d1, d2, d3] => { results := [.lit (.bool false)], args := [d1, d2, d3] }
  | _ => none }
def FnGreatestMemberReadsQuotedMembersBackWrongFalsely : Prop := fnGreatestMemberReadsQuotedMembersBackRow.holds Try.pinned (OpenSpec.ofChange fnGreatestMemberReadsQuotedMembersBackWrong)

end Rows
end Go.Proofs.Qxb6600799a
