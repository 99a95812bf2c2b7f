/-
  No cell of these rows narrows 'for every input' (looked for: loops, veiled, ifaces, maps, wideKeys, modest, calm, conditions, laid).
  DERIVED. THE GIVEN ROWS OF THIS SEAT. 4 by the template 'for every input the law returns true; each argument reads behind the call as it read before'; 0 by the template 'total and deterministic' (their statements: Qxb6602973aTotals.lean).
  GIVEN WITH THE SEED: the statements are not yours to turn. If you find one false, say at which input.
  Laid BY PROGRAM, IN A SANDBOX (cutbox-rows.mjs): the forced cells as the released guide's own fill.sh prints them over the translation 02730c00f2ad2eae… (all of the seat's roots in one cut). By AI agents, Wed Nov 11 2026. No macro, syntax, notation, axiom, sorry.
-/
import Derived.Test.Qxb6602973aChecked
import GoSem.Claim
import GoSem.ClaimJoined
import GoSem.ClaimMapViews
import Derived.JoinedTies
import Derived.KernelRfl
namespace Go.Proofs.Qxb6602973a
/- THE CELL 'sum', in the pinned program and in every row, IS THE sha256 OF THE DUMP (.gsa) THAT Qxb6602973aProg.lean LOADS. Nothing in Lean hashes anything: it is a label: what it is worth is what the hold of that sum in a sandbox is worth. -/
noncomputable def Try.pinned : Pinned := { name := "qxb6602973a", sum := "02730c00f2ad2eae67c31607e5d9d25b627db07533116128327c2ee39894b1c1", checked := Try.checked }
namespace Rows
def none {H : Type} : Left H := { results := [], args := [] }

/-- 'zzlaws_money_b1.FnIsPlainDecimalMatchesCountModel': WHATEVER THE INPUT: true; the input reads as it did. -/
def fnIsPlainDecimalMatchesCountModelSpec : ChangeSpec := { name := "fnIsPlainDecimalMatchesCountModel", fn := fun _ => fun
  | [d1, d2] => { results := [.lit (.bool true)], args := [d1, d2] }
  | _ => none }
def fnIsPlainDecimalMatchesCountModelRow : OpenClaim := { program := "qxb6602973a", sum := "02730c00f2ad2eae67c31607e5d9d25b627db07533116128327c2ee39894b1c1", func := "example.com/suretyline/suretyline/zzlaws_money_b1.FnIsPlainDecimalMatchesCountModel", spec := "fnIsPlainDecimalMatchesCountModel", apart := false }
def FnIsPlainDecimalMatchesCountModelSaid : Prop := fnIsPlainDecimalMatchesCountModelRow.holds Try.pinned (OpenSpec.ofChange fnIsPlainDecimalMatchesCountModelSpec)

/-- ITS FALSE NEIGHBOUR: 'it returns false'. Refute it at one input. -/
def fnIsPlainDecimalMatchesCountModelWrong : ChangeSpec := { name := "fnIsPlainDecimalMatchesCountModel", fn := fun _ => fun
  | [d1, d2] => { results := [.lit (.bool false)], args := [d1, d2] }
  | _ => none }
def FnIsPlainDecimalMatchesCountModelWrongFalsely : Prop := fnIsPlainDecimalMatchesCountModelRow.holds Try.pinned (OpenSpec.ofChange fnIsPlainDecimalMatchesCountModelWrong)

/-- 'zzlaws_money_b1.FnIsPlainDecimalMonotoneInPlaces': WHATEVER THE INPUT: true; the input reads as it did. -/
def fnIsPlainDecimalMonotoneInPlacesSpec : ChangeSpec := { name := "fnIsPlainDecimalMonotoneInPlaces", fn := fun _ => fun
  | [d1, d2, d3] => { results := [.lit (.bool true)], args := [d1, d2, d3] }
  | _ => none }
def fnIsPlainDecimalMonotoneInPlacesRow : OpenClaim := { program := "qxb6602973a", sum := "02730c00f2ad2eae67c31607e5d9d25b627db07533116128327c2ee39894b1c1", func := "example.com/suretyline/suretyline/zzlaws_money_b1.FnIsPlainDecimalMonotoneInPlaces", spec := "fnIsPlainDecimalMonotoneInPlaces", apart := false }
def FnIsPlainDecimalMonotoneInPlacesSaid : Prop := fnIsPlainDecimalMonotoneInPlacesRow.holds Try.pinned (OpenSpec.ofChange fnIsPlainDecimalMonotoneInPlacesSpec)

/-- ITS FALSE NEIGHBOUR: 'it returns false'. Refute it at one input. -/
def fnIsPlainDecimalMonotoneInPlacesWrong : ChangeSpec := { name := "fnIsPlainDecimalMonotoneInPlaces", fn := fun _ => fun
  | [d1, d2, d3] => { results := [.lit (.bool false)], args := [d1, d2, d3] }
  | _ => none }
def FnIsPlainDecimalMonotoneInPlacesWrongFalsely : Prop := fnIsPlainDecimalMonotoneInPlacesRow.holds Try.pinned (OpenSpec.ofChange fnIsPlainDecimalMonotoneInPlacesWrong)

/-- 'zzlaws_money_b1.FnPlainDigitsMatchesRightToLeftValue': WHATEVER THE INPUT: true; the input reads as it did. -/
def fnPlainDigitsMatchesRightToLeftValueSpec : ChangeSpec := { name := "fnPlainDigitsMatchesRightToLeftValue", fn := fun _ => fun
  | [d] => { results := [.lit (.bool true)], args := [d] }
  | _ => none }
def fnPlainDigitsMatchesRightToLeftValueRow : OpenClaim := { program := "qxb6602973a", sum := "02730c00f2ad2eae67c31607e5d9d25b627db07533116128327c2ee39894b1c1", func := "example.com/suretyline/suretyline/zzlaws_money_b1.FnPlainDigitsMatchesRightToLeftValue", spec := "fnPlainDigitsMatchesRightToLeftValue", inPlace := ["internal/bytealg.IndexByteString"], apart := false }
def FnPlainDigitsMatchesRightToLeftValueSaid : Prop := fnPlainDigitsMatchesRightToLeftValueRow.holds Try.pinned (OpenSpec.ofChange fnPlainDigitsMatchesRightToLeftValueSpec)

/-- ITS FALSE NEIGHBOUR: 'it returns false'. Refute it at one input. -/
def fnPlainDigitsMatchesRightToLeftValueWrong : ChangeSpec := { name := "fnPlainDigitsMatchesRightToLeftValue", fn := fun _ => fun
  | [d] => { results := [.lit (.bool false)], args := [d] }
  | _ => none }
def FnPlainDigitsMatchesRightToLeftValueWrongFalsely : Prop := fnPlainDigitsMatchesRightToLeftValueRow.holds Try.pinned (OpenSpec.ofChange fnPlainDigitsMatchesRightToLeftValueWrong)

/-- 'zzlaws_money_b1.FnPlainDigitsRendersBackToNormalForm': WHATEVER THE INPUT: true; the input reads as it did. -/
def fnPlainDigitsRendersBackToNormalFormSpec : ChangeSpec := { name := "fnPlainDigitsRendersBackToNormalForm", fn := fun _ => fun
  | [d] => { results := [.lit (.bool true)], args := [d] }
  | _ => none }
def fnPlainDigitsRendersBackToNormalFormRow : OpenClaim := { program := "qxb6602973a", sum := "02730c00f2ad2eae67c31607e5d9d25b627db07533116128327c2ee39894b1c1", func := "example.com/suretyline/suretyline/zzlaws_money_b1.FnPlainDigitsRendersBackToNormalForm", spec := "fnPlainDigitsRendersBackToNormalForm", inPlace := ["internal/bytealg.IndexByteString"], apart := false }
def FnPlainDigitsRendersBackToNormalFormSaid : Prop := fnPlainDigitsRendersBackToNormalFormRow.holds Try.pinned (OpenSpec.ofChange fnPlainDigitsRendersBackToNormalFormSpec)

/-- ITS FALSE NEIGHBOUR: 'it returns false'. Refute it at one input. -/
def fnPlainDigitsRendersBackToNormalFormWrong : ChangeSpec := { name := "fnPlainDigitsRendersBackToNormalForm", fn := fun _ => fun
  | [d] => { results := [.lit (.bool false)], args := [d] }
  | _ => none }
def FnPlainDigitsRendersBackToNormalFormWrongFalsely : Prop := fnPlainDigitsRendersBackToNormalFormRow.holds Try.pinned (OpenSpec.ofChange fnPlainDigitsRendersBackToNormalFormWrong)

end Rows
end Go.Proofs.Qxb6602973a
