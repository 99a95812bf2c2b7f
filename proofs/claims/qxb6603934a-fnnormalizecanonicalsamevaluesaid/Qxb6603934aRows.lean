/-
  No cell of these rows narrows 'for every input' (looked for: loops, veiled, ifaces, maps, wideKeys, modest, calm, conditions, laid).
  DERIVED. THE GIVEN ROWS OF THIS SEAT. 5 by the template 'for every input the law returns true; each argument reads behind the call as it read before'; 0 by the template 'total and deterministic' (their statements: Qxb6603934aTotals.lean).
  GIVEN WITH THE SEED: the statements are not yours to turn. If you find one false, say at which input.
  Laid BY PROGRAM, IN A SANDBOX (cutbox-rows.mjs): the forced cells as the released guide's own fill.sh prints them over the translation 0ac0bc50f8d61b93… (all of the seat's roots in one cut). By AI agents, Wed Nov 11 2026. No macro, syntax, notation, axiom, sorry.
-/
import Derived.Test.Qxb6603934aChecked
import GoSem.Claim
import GoSem.ClaimJoined
import GoSem.ClaimMapViews
import Derived.JoinedTies
import Derived.KernelRfl
namespace Go.Proofs.Qxb6603934a
/- THE CELL 'sum', in the pinned program and in every row, IS THE sha256 OF THE DUMP (.gsa) THAT Qxb6603934aProg.lean LOADS. Nothing in Lean hashes anything: it is a label: what it is worth is what the hold of that sum in a sandbox is worth. -/
noncomputable def Try.pinned : Pinned := { name := "qxb6603934a", sum := "0ac0bc50f8d61b93fc2e70314cef8e67dac8a679c5154f524924d935d58b3c14", checked := Try.checked }
namespace Rows
def none {H : Type} : Left H := { results := [], args := [] }

/-- 'zzlaws_pkg_money_b1.FnCutExponentMatchesSuffixModel': WHATEVER THE INPUT: true; the input reads as it did. -/
def fnCutExponentMatchesSuffixModelSpec : ChangeSpec := { name := "fnCutExponentMatchesSuffixModel", fn := fun _ => fun
  | [d] => { results := [.lit (.bool true)], args := [d] }
  | _ => none }
def fnCutExponentMatchesSuffixModelRow : OpenClaim := { program := "qxb6603934a", sum := "0ac0bc50f8d61b93fc2e70314cef8e67dac8a679c5154f524924d935d58b3c14", func := "example.com/custos/custos/zzlaws_pkg_money_b1.FnCutExponentMatchesSuffixModel", spec := "fnCutExponentMatchesSuffixModel", apart := false }
def FnCutExponentMatchesSuffixModelSaid : Prop := fnCutExponentMatchesSuffixModelRow.holds Try.pinned (OpenSpec.ofChange fnCutExponentMatchesSuffixModelSpec)

/-- ITS FALSE NEIGHBOUR: 'it returns false'. Refute it at one input. -/
def fnCutExponentMatchesSuffixModelWrong : ChangeSpec := { name := "fnCutExponentMatchesSuffixModel", fn := fun _ => fun
  | [d] => { results := [.lit (.bool false)], args := [d] }
  | _ => none }
def FnCutExponentMatchesSuffixModelWrongFalsely : Prop := fnCutExponentMatchesSuffixModelRow.holds Try.pinned (OpenSpec.ofChange fnCutExponentMatchesSuffixModelWrong)

/-- 'zzlaws_pkg_money_b1.FnCutExponentRoundTrip': WHATEVER THE INPUT: true; the input reads as it did. -/
def fnCutExponentRoundTripSpec : ChangeSpec := { name := "fnCutExponentRoundTrip", fn := fun _ => fun
  | [d1, d2, d3, d4] => { results := [.lit (.bool true)], args := [d1, d2, d3, d4] }
  | _ => none }
def fnCutExponentRoundTripRow : OpenClaim := { program := "qxb6603934a", sum := "0ac0bc50f8d61b93fc2e70314cef8e67dac8a679c5154f524924d935d58b3c14", func := "example.com/custos/custos/zzlaws_pkg_money_b1.FnCutExponentRoundTrip", spec := "fnCutExponentRoundTrip", apart := false }
def FnCutExponentRoundTripSaid : Prop := fnCutExponentRoundTripRow.holds Try.pinned (OpenSpec.ofChange fnCutExponentRoundTripSpec)

/-- ITS FALSE NEIGHBOUR: 'it returns false'. Refute it at one input. -/
def fnCutExponentRoundTripWrong : ChangeSpec := { name := "fnCutExponentRoundTrip", fn := fun _ => fun
  | [d1, d2, d3, d4] => { results := [.lit (.bool false)], args := [d1, d2, d3, d4] }
  | _ => none }
def FnCutExponentRoundTripWrongFalsely : Prop := fnCutExponentRoundTripRow.holds Try.pinned (OpenSpec.ofChange fnCutExponentRoundTripWrong)

/-- 'zzlaws_pkg_money_b1.FnScanPlainMatchesGrammarModel': WHATEVER THE INPUT: true; the input reads as it did. -/
def fnScanPlainMatchesGrammarModelSpec : ChangeSpec := { name := "fnScanPlainMatchesGrammarModel", fn := fun _ => fun
  | [d] => { results := [.lit (.bool true)], args := [d] }
  | _ => none }
def fnScanPlainMatchesGrammarModelRow : OpenClaim := { program := "qxb6603934a", sum := "0ac0bc50f8d61b93fc2e70314cef8e67dac8a679c5154f524924d935d58b3c14", func := "example.com/custos/custos/zzlaws_pkg_money_b1.FnScanPlainMatchesGrammarModel", spec := "fnScanPlainMatchesGrammarModel", apart := false }
def FnScanPlainMatchesGrammarModelSaid : Prop := fnScanPlainMatchesGrammarModelRow.holds Try.pinned (OpenSpec.ofChange fnScanPlainMatchesGrammarModelSpec)

/-- ITS FALSE NEIGHBOUR: 'it returns false'. Refute it at one input. -/
def fnScanPlainMatchesGrammarModelWrong : ChangeSpec := { name := "fnScanPlainMatchesGrammarModel", fn := fun _ => fun
  | [d] => { results := [.lit (.bool false)], args := [d] }
  | _ => none }
def FnScanPlainMatchesGrammarModelWrongFalsely : Prop := fnScanPlainMatchesGrammarModelRow.holds Try.pinned (OpenSpec.ofChange fnScanPlainMatchesGrammarModelWrong)

/-- 'zzlaws_pkg_money_b1.FnNormalizeCanonicalSameValue': WHATEVER THE INPUT: true; the input reads as it did. -/
def fnNormalizeCanonicalSameValueSpec : ChangeSpec := { name := "fnNormalizeCanonicalSameValue", fn := fun _ => fun
  | [d1, d2, d3] => { results := [.lit (.bool true)], args := [d1, d2, d3] }
  | _ => none }
def fnNormalizeCanonicalSameValueRow : OpenClaim := { program := "qxb6603934a", sum := "0ac0bc50f8d61b93fc2e70314cef8e67dac8a679c5154f524924d935d58b3c14", func := "example.com/custos/custos/zzlaws_pkg_money_b1.FnNormalizeCanonicalSameValue", spec := "fnNormalizeCanonicalSameValue", apart := false }
def FnNormalizeCanonicalSameValueSaid : Prop := fnNormalizeCanonicalSameValueRow.holds Try.pinned (OpenSpec.ofChange fnNormalizeCanonicalSameValueSpec)

/-- ITS FALSE NEIGHBOUR: 'it returns false'. Refute it at one input. -/
def fnNormalizeCanonicalSameValueWrong : ChangeSpec := { name := "fnNormalizeCanonicalSameValue", fn := fun _ => fun
  | [d1, d2, d3] => { results := [.lit (.bool false)], args := [d1, d2, d3] }
  | _ => none }
def FnNormalizeCanonicalSameValueWrongFalsely : Prop := fnNormalizeCanonicalSameValueRow.holds Try.pinned (OpenSpec.ofChange fnNormalizeCanonicalSameValueWrong)

/-- 'zzlaws_pkg_money_b1.FnNormalizeIdempotent': WHATEVER THE INPUT: true; the input reads as it did. -/
def fnNormalizeIdempotentSpec : ChangeSpec := { name := "fnNormalizeIdempotent", fn := fun _ => fun
  | [d1, d2, d3] => { results := [.lit (.bool true)], args := [d1, d2, d3] }
  | _ => none }
def fnNormalizeIdempotentRow : OpenClaim := { program := "qxb6603934a", sum := "0ac0bc50f8d61b93fc2e70314cef8e67dac8a679c5154f524924d935d58b3c14", func := "example.com/custos/custos/zzlaws_pkg_money_b1.FnNormalizeIdempotent", spec := "fnNormalizeIdempotent", apart := false }
def FnNormalizeIdempotentSaid : Prop := fnNormalizeIdempotentRow.holds Try.pinned (OpenSpec.ofChange fnNormalizeIdempotentSpec)

/-- ITS FALSE NEIGHBOUR: 'it returns false'. Refute it at one input. -/
def fnNormalizeIdempotentWrong : ChangeSpec := { name := "fnNormalizeIdempotent", fn := fun _ => fun
  | [d1, d2, d3] => { results := [.lit (.bool false)], args := [d1, d2, d3] }
  | _ => none }
def FnNormalizeIdempotentWrongFalsely : Prop := fnNormalizeIdempotentRow.holds Try.pinned (OpenSpec.ofChange fnNormalizeIdempotentWrong)

end Rows
end Go.Proofs.Qxb6603934a
