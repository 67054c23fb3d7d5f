/-
  No cell of these rows narrows 'for every input' (looked for: loops, veiled, ifaces, maps, wideKeys, modest, calm, conditions, laid).
  DERIVED. THE GIVEN ROWS OF THIS SEAT. 6 by the template 'for every input the law returns true; each argument reads behind the call as it read before'; 0 by the template 'total and deterministic' (their statements: Qxb6608952aTotals.lean).
  GIVEN WITH THE SEED: the statements are not yours to turn. If you find one false, say at which input.
  Laid BY PROGRAM, IN A SANDBOX (cutbox-rows.mjs): the forced cells as the released guide's own fill.sh prints them over the translation e9178ffc6e0fd6e8… (all of the seat's roots in one cut). By AI agents, Wed Nov 11 2026. No macro, syntax, notation, axiom, sorry.
-/
import Derived.Test.Qxb6608952aChecked
import GoSem.Claim
import GoSem.ClaimJoined
import GoSem.ClaimMapViews
import Derived.JoinedTies
import Derived.KernelRfl
namespace Go.Proofs.Qxb6608952a
/- THE CELL 'sum', in the pinned program and in every row, IS THE sha256 OF THE DUMP (.gsa) THAT Qxb6608952aProg.lean LOADS. Nothing in Lean hashes anything: it is a label: what it is worth is what the hold of that sum in a sandbox is worth. -/
noncomputable def Try.pinned : Pinned := { name := "qxb6608952a", sum := "e9178ffc6e0fd6e88459fd846d75c9d1556abab6f53e842900a0f0d9b8e1a4e6", checked := Try.checked }
namespace Rows
def none {H : Type} : Left H := { results := [], args := [] }

/-- 'zzlaws_internal_input_b1.FnTwoByteIndexIsRankAmongValidCodes': WHATEVER THE INPUT: true; the input reads as it did. -/
def fnTwoByteIndexIsRankAmongValidCodesSpec : ChangeSpec := { name := "fnTwoByteIndexIsRankAmongValidCodes", fn := fun _ => fun
  | [d1, d2] => { results := [.lit (.bool true)], args := [d1, d2] }
  | _ => none }
def fnTwoByteIndexIsRankAmongValidCodesRow : OpenClaim := { program := "qxb6608952a", sum := "e9178ffc6e0fd6e88459fd846d75c9d1556abab6f53e842900a0f0d9b8e1a4e6", func := "example.com/vestledger/vestledger/zzlaws_internal_input_b1.FnTwoByteIndexIsRankAmongValidCodes", spec := "fnTwoByteIndexIsRankAmongValidCodes", apart := false }
def FnTwoByteIndexIsRankAmongValidCodesSaid : Prop := fnTwoByteIndexIsRankAmongValidCodesRow.holds Try.pinned (OpenSpec.ofChange fnTwoByteIndexIsRankAmongValidCodesSpec)

/-- ITS FALSE NEIGHBOUR: 'it returns false'. Refute it at one input. -/
def fnTwoByteIndexIsRankAmongValidCodesWrong : ChangeSpec := { name := "fnTwoByteIndexIsRankAmongValidCodes", fn := fun _ => fun
  | [d1, d2] => { results := [.lit (.bool false)], args := [d1, d2] }
  | _ => none }
def FnTwoByteIndexIsRankAmongValidCodesWrongFalsely : Prop := fnTwoByteIndexIsRankAmongValidCodesRow.holds Try.pinned (OpenSpec.ofChange fnTwoByteIndexIsRankAmongValidCodesWrong)

/-- 'zzlaws_internal_input_b1.FnTwoByteIndexAcceptsTrailBytesAndKeepsCodeOrder': WHATEVER THE INPUT: true; the input reads as it did. -/
def fnTwoByteIndexAcceptsTrailBytesAndKeepsCodeOrderSpec : ChangeSpec := { name := "fnTwoByteIndexAcceptsTrailBytesAndKeepsCodeOrder", fn := fun _ => fun
  | [d1, d2, d3, d4] => { results := [.lit (.bool true)], args := [d1, d2, d3, d4] }
  | _ => none }
def fnTwoByteIndexAcceptsTrailBytesAndKeepsCodeOrderRow : OpenClaim := { program := "qxb6608952a", sum := "e9178ffc6e0fd6e88459fd846d75c9d1556abab6f53e842900a0f0d9b8e1a4e6", func := "example.com/vestledger/vestledger/zzlaws_internal_input_b1.FnTwoByteIndexAcceptsTrailBytesAndKeepsCodeOrder", spec := "fnTwoByteIndexAcceptsTrailBytesAndKeepsCodeOrder", apart := false }
def FnTwoByteIndexAcceptsTrailBytesAndKeepsCodeOrderSaid : Prop := fnTwoByteIndexAcceptsTrailBytesAndKeepsCodeOrderRow.holds Try.pinned (OpenSpec.ofChange fnTwoByteIndexAcceptsTrailBytesAndKeepsCodeOrderSpec)

/-- ITS FALSE NEIGHBOUR: 'it returns false'. Refute it at one input. -/
def fnTwoByteIndexAcceptsTrailBytesAndKeepsCodeOrderWrong : ChangeSpec := { name := "fnTwoByteIndexAcceptsTrailBytesAndKeepsCodeOrder", fn := fun _ => fun
  | [d1, d2, d3, d4] => { results := [.lit (.bool false)], args := [d1, d2, d3, d4] }
  | _ => none }
def FnTwoByteIndexAcceptsTrailBytesAndKeepsCodeOrderWrongFalsely : Prop := fnTwoByteIndexAcceptsTrailBytesAndKeepsCodeOrderRow.holds Try.pinned (OpenSpec.ofChange fnTwoByteIndexAcceptsTrailBytesAndKeepsCodeOrderWrong)

/-- 'zzlaws_internal_input_b1.FnFourByteIndexKeepsCodeOrderWithinItsRange': WHATEVER THE INPUT: true; the input reads as it did. -/
def fnFourByteIndexKeepsCodeOrderWithinItsRangeSpec : ChangeSpec := { name := "fnFourByteIndexKeepsCodeOrderWithinItsRange", fn := fun _ => fun
  | [d1, d2] => { results := [.lit (.bool true)], args := [d1, d2] }
  | _ => none }
def fnFourByteIndexKeepsCodeOrderWithinItsRangeRow : OpenClaim := { program := "qxb6608952a", sum := "e9178ffc6e0fd6e88459fd846d75c9d1556abab6f53e842900a0f0d9b8e1a4e6", func := "example.com/vestledger/vestledger/zzlaws_internal_input_b1.FnFourByteIndexKeepsCodeOrderWithinItsRange", spec := "fnFourByteIndexKeepsCodeOrderWithinItsRange", apart := false }
def FnFourByteIndexKeepsCodeOrderWithinItsRangeSaid : Prop := fnFourByteIndexKeepsCodeOrderWithinItsRangeRow.holds Try.pinned (OpenSpec.ofChange fnFourByteIndexKeepsCodeOrderWithinItsRangeSpec)

/-- ITS FALSE NEIGHBOUR: 'it returns false'. Refute it at one input. -/
def fnFourByteIndexKeepsCodeOrderWithinItsRangeWrong : ChangeSpec := { name := "fnFourByteIndexKeepsCodeOrderWithinItsRange", fn := fun _ => fun
  | [d1, d2] => { results := [.lit (.bool false)], args := [d1, d2] }
  | _ => none }
def FnFourByteIndexKeepsCodeOrderWithinItsRangeWrongFalsely : Prop := fnFourByteIndexKeepsCodeOrderWithinItsRangeRow.holds Try.pinned (OpenSpec.ofChange fnFourByteIndexKeepsCodeOrderWithinItsRangeWrong)

/-- 'zzlaws_internal_input_b1.FnFourByteIndexStepsByOneToTheNextCode': WHATEVER THE INPUT: true; the input reads as it did. -/
def fnFourByteIndexStepsByOneToTheNextCodeSpec : ChangeSpec := { name := "fnFourByteIndexStepsByOneToTheNextCode", fn := fun _ => fun
  | [d] => { results := [.lit (.bool true)], args := [d] }
  | _ => none }
def fnFourByteIndexStepsByOneToTheNextCodeRow : OpenClaim := { program := "qxb6608952a", sum := "e9178ffc6e0fd6e88459fd846d75c9d1556abab6f53e842900a0f0d9b8e1a4e6", func := "example.com/vestledger/vestledger/zzlaws_internal_input_b1.FnFourByteIndexStepsByOneToTheNextCode", spec := "fnFourByteIndexStepsByOneToTheNextCode", apart := false }
def FnFourByteIndexStepsByOneToTheNextCodeSaid : Prop := fnFourByteIndexStepsByOneToTheNextCodeRow.holds Try.pinned (OpenSpec.ofChange fnFourByteIndexStepsByOneToTheNextCodeSpec)

/-- ITS FALSE NEIGHBOUR: 'it returns false'. Refute it at one input. -/
def fnFourByteIndexStepsByOneToTheNextCodeWrong : ChangeSpec := { name := "fnFourByteIndexStepsByOneToTheNextCode", fn := fun _ => fun
  | [d] => { results := [.lit (.bool false)], args := [d] }
  | _ => none }
def FnFourByteIndexStepsByOneToTheNextCodeWrongFalsely : Prop := fnFourByteIndexStepsByOneToTheNextCodeRow.holds Try.pinned (OpenSpec.ofChange fnFourByteIndexStepsByOneToTheNextCodeWrong)

/-- 'zzlaws_internal_input_b1.FnEmptyValuesAllowedIsGreatestCountWithinBudget': WHATEVER THE INPUT: true; the input reads as it did. -/
def fnEmptyValuesAllowedIsGreatestCountWithinBudgetSpec : ChangeSpec := { name := "fnEmptyValuesAllowedIsGreatestCountWithinBudget", fn := fun _ => fun
  | [d] => { results := [.lit (.bool true)], args := [d] }
  | _ => none }
def fnEmptyValuesAllowedIsGreatestCountWithinBudgetRow : OpenClaim := { program := "qxb6608952a", sum := "e9178ffc6e0fd6e88459fd846d75c9d1556abab6f53e842900a0f0d9b8e1a4e6", func := "example.com/vestledger/vestledger/zzlaws_internal_input_b1.FnEmptyValuesAllowedIsGreatestCountWithinBudget", spec := "fnEmptyValuesAllowedIsGreatestCountWithinBudget", apart := false }
def FnEmptyValuesAllowedIsGreatestCountWithinBudgetSaid : Prop := fnEmptyValuesAllowedIsGreatestCountWithinBudgetRow.holds Try.pinned (OpenSpec.ofChange fnEmptyValuesAllowedIsGreatestCountWithinBudgetSpec)

/-- ITS FALSE NEIGHBOUR: 'it returns false'. Refute it at one input. -/
def fnEmptyValuesAllowedIsGreatestCountWithinBudgetWrong : ChangeSpec := { name := "fnEmptyValuesAllowedIsGreatestCountWithinBudget", fn := fun _ => fun
  | [d] => { results := [.lit (.bool false)], args := [d] }
  | _ => none }
def FnEmptyValuesAllowedIsGreatestCountWithinBudgetWrongFalsely : Prop := fnEmptyValuesAllowedIsGreatestCountWithinBudgetRow.holds Try.pinned (OpenSpec.ofChange fnEmptyValuesAllowedIsGreatestCountWithinBudgetWrong)

/-- 'zzlaws_internal_input_b1.FnEmptyValuesAllowedFullForSmallFilesFallingAndHalvedByDoubling': WHATEVER THE INPUT: true; the input reads as it did. -/
def fnEmptyValuesAllowedFullForSmallFilesFallingAndHalvedByDoublingSpec : ChangeSpec := { name := "fnEmptyValuesAllowedFullForSmallFilesFallingAndHalvedByDoubling", fn := fun _ => fun
  | [d1, d2] => { results := [.lit (.bool true)], args := [d1, d2] }
  | _ => none }
def fnEmptyValuesAllowedFullForSmallFilesFallingAndHalvedByDoublingRow : OpenClaim := { program := "qxb6608952a", sum := "e9178ffc6e0fd6e88459fd846d75c9d1556abab6f53e842900a0f0d9b8e1a4e6", func := "example.com/vestledger/vestledger/zzlaws_internal_input_b1.FnEmptyValuesAllowedFullForSmallFilesFallingAndHalvedByDoubling", spec := "fnEmptyValuesAllowedFullForSmallFilesFallingAndHalvedByDoubling", apart := false }
def FnEmptyValuesAllowedFullForSmallFilesFallingAndHalvedByDoublingSaid : Prop := fnEmptyValuesAllowedFullForSmallFilesFallingAndHalvedByDoublingRow.holds Try.pinned (OpenSpec.ofChange fnEmptyValuesAllowedFullForSmallFilesFallingAndHalvedByDoublingSpec)

/-- ITS FALSE NEIGHBOUR: 'it returns false'. Refute it at one input. -/
def fnEmptyValuesAllowedFullForSmallFilesFallingAndHalvedByDoublingWrong : ChangeSpec := { name := "fnEmptyValuesAllowedFullForSmallFilesFallingAndHalvedByDoubling", fn := fun _ => fun
  | [d1, d2] => { results := [.lit (.bool false)], args := [d1, d2] }
  | _ => none }
def FnEmptyValuesAllowedFullForSmallFilesFallingAndHalvedByDoublingWrongFalsely : Prop := fnEmptyValuesAllowedFullForSmallFilesFallingAndHalvedByDoublingRow.holds Try.pinned (OpenSpec.ofChange fnEmptyValuesAllowedFullForSmallFilesFallingAndHalvedByDoublingWrong)

end Rows
end Go.Proofs.Qxb6608952a
