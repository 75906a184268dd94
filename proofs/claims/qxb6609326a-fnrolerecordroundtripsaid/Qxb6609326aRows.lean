/-
  No cell of these rows narrows 'for every input' (looked for: loops, veiled, ifaces, maps, wideKeys, modest, calm, conditions, laid).
  DERIVED. THE GIVEN ROWS OF THIS SEAT. 4 by the template 'for every input the law returns true; each argument reads behind the call as it read before'; 0 by the template 'total and deterministic' (their statements: Qxb6609326aTotals.lean).
  GIVEN WITH THE SEED: the statements are not yours to turn. If you find one false, say at which input.
  Laid BY PROGRAM, IN A SANDBOX (cutbox-rows.mjs): the forced cells as the released guide's own fill.sh prints them over the translation a9b35a89fc9fc628… (all of the seat's roots in one cut). By AI agents, Wed Nov 11 2026. No macro, syntax, notation, axiom, sorry.
-/
import Derived.Test.Qxb6609326aChecked
import GoSem.Claim
import GoSem.ClaimJoined
import GoSem.ClaimMapViews
import Derived.JoinedTies
import Derived.KernelRfl
namespace Go.Proofs.Qxb6609326a
/- THE CELL 'sum', in the pinned program and in every row, IS THE sha256 OF THE DUMP (.gsa) THAT Qxb6609326aProg.lean LOADS. Nothing in Lean hashes anything: it is a label: what it is worth is what the hold of that sum in a sandbox is worth. -/
noncomputable def Try.pinned : Pinned := { name := "qxb6609326a", sum := "a9b35a89fc9fc628ffeb3b43272001293bd768b482a98f8e90cadc2872aac7df", checked := Try.checked }
namespace Rows
def none {H : Type} : Left H := { results := [], args := [] }

/-- 'zzlaws_server_b1.FnRoleRecordOfEmptyGrants': WHATEVER THE INPUT: true; the input reads as it did. -/
def fnRoleRecordOfEmptyGrantsSpec : ChangeSpec := { name := "fnRoleRecordOfEmptyGrants", fn := fun _ => fun
  | [d1, d2, d3, d4, d5, d6] => { results := [.lit (.bool true)], args := [d1, d2, d3, d4, d5, d6] }
  | _ => none }
def fnRoleRecordOfEmptyGrantsRow : OpenClaim := { program := "qxb6609326a", sum := "a9b35a89fc9fc628ffeb3b43272001293bd768b482a98f8e90cadc2872aac7df", func := "portcullis.example/portcullis/zzlaws_server_b1.FnRoleRecordOfEmptyGrants", spec := "fnRoleRecordOfEmptyGrants", apart := false }
def FnRoleRecordOfEmptyGrantsSaid : Prop := fnRoleRecordOfEmptyGrantsRow.holds Try.pinned (OpenSpec.ofChange fnRoleRecordOfEmptyGrantsSpec)

/-- ITS FALSE NEIGHBOUR: 'it returns false'. Refute it at one input. -/
def fnRoleRecordOfEmptyGrantsWrong : ChangeSpec := { name := "fnRoleRecordOfEmptyGrants", fn := fun _ => fun
  | [d1, d2, d3, d4, d5, d6] => { results := [.lit (.bool false)], args := [d1, d2, d3, d4, d5, d6] }
  | _ => none }
def FnRoleRecordOfEmptyGrantsWrongFalsely : Prop := fnRoleRecordOfEmptyGrantsRow.holds Try.pinned (OpenSpec.ofChange fnRoleRecordOfEmptyGrantsWrong)

/-- 'zzlaws_server_b1.FnRoleRecordRoundTrip': WHATEVER THE INPUT: true; the input reads as it did. -/
def fnRoleRecordRoundTripSpec : ChangeSpec := { name := "fnRoleRecordRoundTrip", fn := fun _ => fun
  | [d1, d2, d3, d4, d5, d6, d7, d8, d9] => { results := [.lit (.bool true)], args := [d1, d2, d3, d4, d5, d6, d7, d8, d9] }
  | _ => none }
def fnRoleRecordRoundTripRow : OpenClaim := { program := "qxb6609326a", sum := "a9b35a89fc9fc628ffeb3b43272001293bd768b482a98f8e90cadc2872aac7df", func := "portcullis.example/portcullis/zzlaws_server_b1.FnRoleRecordRoundTrip", spec := "fnRoleRecordRoundTrip", apart := false }
def FnRoleRecordRoundTripSaid : Prop := fnRoleRecordRoundTripRow.holds Try.pinned (OpenSpec.ofChange fnRoleRecordRoundTripSpec)

/-- ITS FALSE NEIGHBOUR: 'it returns false'. Refute it at one input. -/
def fnRoleRecordRoundTripWrong : ChangeSpec := { name := "fnRoleRecordRoundTrip", fn := fun _ => fun
  | [d1, d2, d3, d4, d5, d6, d7, d8, d9] => { results := [.lit (.bool false)], args := [d1, d2, d3, d4, d5, d6, d7, d8, d9] }
  | _ => none }
def FnRoleRecordRoundTripWrongFalsely : Prop := fnRoleRecordRoundTripRow.holds Try.pinned (OpenSpec.ofChange fnRoleRecordRoundTripWrong)

/-- 'zzlaws_server_b1.FnPolicyIDsRoundTrip': WHATEVER THE INPUT: true; the input reads as it did. -/
def fnPolicyIDsRoundTripSpec : ChangeSpec := { name := "fnPolicyIDsRoundTrip", fn := fun _ => fun
  | [d1, d2, d3] => { results := [.lit (.bool true)], args := [d1, d2, d3] }
  | _ => none }
def fnPolicyIDsRoundTripRow : OpenClaim := { program := "qxb6609326a", sum := "a9b35a89fc9fc628ffeb3b43272001293bd768b482a98f8e90cadc2872aac7df", func := "portcullis.example/portcullis/zzlaws_server_b1.FnPolicyIDsRoundTrip", spec := "fnPolicyIDsRoundTrip", apart := false }
def FnPolicyIDsRoundTripSaid : Prop := fnPolicyIDsRoundTripRow.holds Try.pinned (OpenSpec.ofChange fnPolicyIDsRoundTripSpec)

/-- ITS FALSE NEIGHBOUR: 'it returns false'. Refute it at one input. -/
def fnPolicyIDsRoundTripWrong : ChangeSpec := { name := "fnPolicyIDsRoundTrip", fn := fun _ => fun
  | [d1, d2, d3] => { results := [.lit (.bool false)], args := [d1, d2, d3] }
  | _ => none }
def FnPolicyIDsRoundTripWrongFalsely : Prop := fnPolicyIDsRoundTripRow.holds Try.pinned (OpenSpec.ofChange fnPolicyIDsRoundTripWrong)

/-- 'zzlaws_server_b1.FnPolicyIDsReadsOnlyTheFront': WHATEVER THE INPUT: true; the input reads as it did. -/
def fnPolicyIDsReadsOnlyTheFrontSpec : ChangeSpec := { name := "fnPolicyIDsReadsOnlyTheFront", fn := fun _ => fun
  | [d1, d2] => { results := [.lit (.bool true)], args := [d1, d2] }
  | _ => none }
def fnPolicyIDsReadsOnlyTheFrontRow : OpenClaim := { program := "qxb6609326a", sum := "a9b35a89fc9fc628ffeb3b43272001293bd768b482a98f8e90cadc2872aac7df", func := "portcullis.example/portcullis/zzlaws_server_b1.FnPolicyIDsReadsOnlyTheFront", spec := "fnPolicyIDsReadsOnlyTheFront", apart := false }
def FnPolicyIDsReadsOnlyTheFrontSaid : Prop := fnPolicyIDsReadsOnlyTheFrontRow.holds Try.pinned (OpenSpec.ofChange fnPolicyIDsReadsOnlyTheFrontSpec)

/-- ITS FALSE NEIGHBOUR: 'it returns false'. Refute it at one input. -/
def fnPolicyIDsReadsOnlyTheFrontWrong : ChangeSpec := { name := "fnPolicyIDsReadsOnlyTheFront", fn := fun _ => fun
  | [d1, d2] => { results := [.lit (.bool false)], args := [d1, d2] }
  | _ => none }
def FnPolicyIDsReadsOnlyTheFrontWrongFalsely : Prop := fnPolicyIDsReadsOnlyTheFrontRow.holds Try.pinned (OpenSpec.ofChange fnPolicyIDsReadsOnlyTheFrontWrong)

end Rows
end Go.Proofs.Qxb6609326a
