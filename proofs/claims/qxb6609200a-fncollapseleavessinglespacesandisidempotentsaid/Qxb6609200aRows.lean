/-
  No cell of these rows narrows 'for every input' (looked for: loops, veiled, ifaces, maps, wideKeys, modest, calm, conditions, laid).
  DERIVED. THE GIVEN ROWS OF THIS SEAT. 2 by the template 'for every input the law returns true; each argument reads behind the call as it read before'; 0 by the template 'total and deterministic' (their statements: Qxb6609200aTotals.lean).
  GIVEN WITH THE SEED: the statements are not yours to turn. If you find one false, say at which input.
  Laid BY PROGRAM, IN A SANDBOX (cutbox-rows.mjs): the forced cells as the released guide's own fill.sh prints them over the translation 9b1f780b12cd8d0c… (all of the seat's roots in one cut). By AI agents, Wed Nov 11 2026. No macro, syntax, notation, axiom, sorry.
-/
import Derived.Test.Qxb6609200aChecked
import GoSem.Claim
import GoSem.ClaimJoined
import GoSem.ClaimMapViews
import Derived.JoinedTies
import Derived.KernelRfl
namespace Go.Proofs.Qxb6609200a
/- THE CELL 'sum', in the pinned program and in every row, IS THE sha256 OF THE DUMP (.gsa) THAT Qxb6609200aProg.lean LOADS. Nothing in Lean hashes anything: it is a label: what it is worth is what the hold of that sum in a sandbox is worth. -/
noncomputable def Try.pinned : Pinned := { name := "qxb6609200a", sum := "9b1f780b12cd8d0c5474848e678c64382a667125e0c22abb71ca871de6617f95", checked := Try.checked }
namespace Rows
def none {H : Type} : Left H := { results := [], args := [] }

/-- 'zzlaws_internal_epp_b1.FnCollapseMatchesOnePassModel': WHATEVER THE INPUT: true; the input reads as it did. -/
def fnCollapseMatchesOnePassModelSpec : ChangeSpec := { name := "fnCollapseMatchesOnePassModel", fn := fun _ => fun
  | [d] => { results := [.lit (.bool true)], args := [d] }
  | _ => none }
def fnCollapseMatchesOnePassModelRow : OpenClaim := { program := "qxb6609200a", sum := "9b1f780b12cd8d0c5474848e678c64382a667125e0c22abb71ca871de6617f95", func := "example.com/contactwright/contactwright/zzlaws_internal_epp_b1.FnCollapseMatchesOnePassModel", spec := "fnCollapseMatchesOnePassModel", inPlace := ["internal/abi.NoEscape", "internal/bytealg.MakeNoZero"], unfollowed := true, recurses := true, apart := false }
def FnCollapseMatchesOnePassModelSaid : Prop := fnCollapseMatchesOnePassModelRow.holds Try.pinned (OpenSpec.ofChange fnCollapseMatchesOnePassModelSpec)

/-- ITS FALSE NEIGHBOUR: 'it returns false'. Refute it at one input. -/
def fnCollapseMatchesOnePassModelWrong : ChangeSpec := { name := "fnCollapseMatchesOnePassModel", fn := fun _ => fun
  | [d] => { results := [.lit (.bool false)], args := [d] }
  | _ => none }
def FnCollapseMatchesOnePassModelWrongFalsely : Prop := fnCollapseMatchesOnePassModelRow.holds Try.pinned (OpenSpec.ofChange fnCollapseMatchesOnePassModelWrong)

/-- 'zzlaws_internal_epp_b1.FnCollapseLeavesSingleSpacesAndIsIdempotent': WHATEVER THE INPUT: true; the input reads as it did. -/
def fnCollapseLeavesSingleSpacesAndIsIdempotentSpec : ChangeSpec := { name := "fnCollapseLeavesSingleSpacesAndIsIdempotent", fn := fun _ => fun
  | [d] => { results := [.lit (.bool true)], args := [d] }
  | _ => none }
def fnCollapseLeavesSingleSpacesAndIsIdempotentRow : OpenClaim := { program := "qxb6609200a", sum := "9b1f780b12cd8d0c5474848e678c64382a667125e0c22abb71ca871de6617f95", func := "example.com/contactwright/contactwright/zzlaws_internal_epp_b1.FnCollapseLeavesSingleSpacesAndIsIdempotent", spec := "fnCollapseLeavesSingleSpacesAndIsIdempotent", inPlace := ["internal/abi.NoEscape", "internal/bytealg.MakeNoZero"], unfollowed := true, recurses := true, apart := false }
def FnCollapseLeavesSingleSpacesAndIsIdempotentSaid : Prop := fnCollapseLeavesSingleSpacesAndIsIdempotentRow.holds Try.pinned (OpenSpec.ofChange fnCollapseLeavesSingleSpacesAndIsIdempotentSpec)

/-- ITS FALSE NEIGHBOUR: 'it returns false'. Refute it at one input. -/
def fnCollapseLeavesSingleSpacesAndIsIdempotentWrong : ChangeSpec := { name := "fnCollapseLeavesSingleSpacesAndIsIdempotent", fn := fun _ => fun
  | [d] => { results := [.lit (.bool false)], args := [d] }
  | _ => none }
def FnCollapseLeavesSingleSpacesAndIsIdempotentWrongFalsely : Prop := fnCollapseLeavesSingleSpacesAndIsIdempotentRow.holds Try.pinned (OpenSpec.ofChange fnCollapseLeavesSingleSpacesAndIsIdempotentWrong)

end Rows
end Go.Proofs.Qxb6609200a
