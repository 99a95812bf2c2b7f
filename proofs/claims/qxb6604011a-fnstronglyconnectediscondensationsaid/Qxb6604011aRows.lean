/-
  No cell of these rows narrows 'for every input' (looked for: loops, veiled, ifaces, maps, wideKeys, modest, calm, conditions, laid).
  DERIVED. THE GIVEN ROWS OF THIS SEAT. 2 by the template 'for every input the law returns true; each argument reads behind the call as it read before'; 0 by the template 'total and deterministic' (their statements: Qxb6604011aTotals.lean).
  GIVEN WITH THE SEED: the statements are not yours to turn. If you find one false, say at which input.
  Laid BY PROGRAM, IN A SANDBOX (cutbox-rows.mjs): the forced cells as the released guide's own fill.sh prints them over the translation dfcd944beffb9e18… (all of the seat's roots in one cut). By AI agents, Wed Nov 11 2026. No macro, syntax, notation, axiom, sorry.
-/
import Derived.Test.Qxb6604011aChecked
import GoSem.Claim
import GoSem.ClaimJoined
import GoSem.ClaimMapViews
import Derived.JoinedTies
import Derived.KernelRfl
namespace Go.Proofs.Qxb6604011a
/- THE CELL 'sum', in the pinned program and in every row, IS THE sha256 OF THE DUMP (.gsa) THAT Qxb6604011aProg.lean LOADS. Nothing in Lean hashes anything: it is a label: what it is worth is what the hold of that sum in a sandbox is worth. -/
noncomputable def Try.pinned : Pinned := { name := "qxb6604011a", sum := "dfcd944beffb9e189fe9865c255a39982f08811756a9fbc754b0e945a5413241", checked := Try.checked }
namespace Rows
def none {H : Type} : Left H := { results := [], args := [] }

/-- 'zzlaws_internal_flagset_b1.FnStronglyConnectedIsCondensation': WHATEVER THE INPUT: true; the input reads as it did. -/
def fnStronglyConnectedIsCondensationSpec : ChangeSpec := { name := "fnStronglyConnectedIsCondensation", fn := fun _ => fun
  | [d] => { results := [.lit (.bool true)], args := [d] }
  | _ => none }
def fnStronglyConnectedIsCondensationRow : OpenClaim := { program := "qxb6604011a", sum := "dfcd944beffb9e189fe9865c255a39982f08811756a9fbc754b0e945a5413241", func := "example.com/flagchain/flagchain/zzlaws_internal_flagset_b1.FnStronglyConnectedIsCondensation", spec := "fnStronglyConnectedIsCondensation", unfollowed := true, recurses := true, apart := false }
def FnStronglyConnectedIsCondensationSaid : Prop := fnStronglyConnectedIsCondensationRow.holds Try.pinned (OpenSpec.ofChange fnStronglyConnectedIsCondensationSpec)

/-- ITS FALSE NEIGHBOUR: 'it returns false'. Refute it at one input. -/
def fnStronglyConnectedIsCondensationWrong : ChangeSpec := { name := "fnStronglyConnectedIsCondensation", fn := fun _ => fun
  | [d] => { results := [.lit (.bool false)], args := [d] }
  | _ => none }
def FnStronglyConnectedIsCondensationWrongFalsely : Prop := fnStronglyConnectedIsCondensationRow.holds Try.pinned (OpenSpec.ofChange fnStronglyConnectedIsCondensationWrong)

/-- 'zzlaws_internal_flagset_b1.FnStronglyConnectedSameGroupsOnReversedEdges': WHATEVER THE INPUT: true; the input reads as it did. -/
def fnStronglyConnectedSameGroupsOnReversedEdgesSpec : ChangeSpec := { name := "fnStronglyConnectedSameGroupsOnReversedEdges", fn := fun _ => fun
  | [d] => { results := [.lit (.bool true)], args := [d] }
  | _ => none }
def fnStronglyConnectedSameGroupsOnReversedEdgesRow : OpenClaim := { program := "qxb6604011a", sum := "dfcd944beffb9e189fe9865c255a39982f08811756a9fbc754b0e945a5413241", func := "example.com/flagchain/flagchain/zzlaws_internal_flagset_b1.FnStronglyConnectedSameGroupsOnReversedEdges", spec := "fnStronglyConnectedSameGroupsOnReversedEdges", unfollowed := true, recurses := true, apart := false }
def FnStronglyConnectedSameGroupsOnReversedEdgesSaid : Prop := fnStronglyConnectedSameGroupsOnReversedEdgesRow.holds Try.pinned (OpenSpec.ofChange fnStronglyConnectedSameGroupsOnReversedEdgesSpec)

/-- ITS FALSE NEIGHBOUR: 'it returns false'. Refute it at one input. -/
def fnStronglyConnectedSameGroupsOnReversedEdgesWrong : ChangeSpec := { name := "fnStronglyConnectedSameGroupsOnReversedEdges", fn := fun _ => fun
  | [d] => { results := [.lit (.bool false)], args := [d] }
  | _ => none }
def FnStronglyConnectedSameGroupsOnReversedEdgesWrongFalsely : Prop := fnStronglyConnectedSameGroupsOnReversedEdgesRow.holds Try.pinned (OpenSpec.ofChange fnStronglyConnectedSameGroupsOnReversedEdgesWrong)

end Rows
end Go.Proofs.Qxb6604011a
