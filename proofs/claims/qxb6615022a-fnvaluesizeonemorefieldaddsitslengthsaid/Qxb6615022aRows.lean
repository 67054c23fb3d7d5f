/-
  No cell of these rows narrows 'for every input' (looked for: loops, veiled, ifaces, maps, wideKeys, modest, calm, conditions, laid).
  DERIVED. THE GIVEN ROWS OF THIS SEAT. 2 by the template 'for every input the law returns true; each argument reads behind the call as it read before'; 0 by the template 'total and deterministic' (their statements: Qxb6615022aTotals.lean).
  GIVEN WITH THE SEED: the statements are not yours to turn. If you find one false, say at which input.
  Laid BY PROGRAM, IN A SANDBOX (cutbox-rows.mjs): the forced cells as the released guide's own fill.sh prints them over the translation be686162325dfcb3… (all of the seat's roots in one cut). By AI agents, Wed Nov 11 2026. No macro, syntax, notation, axiom, sorry.
-/
import Derived.Test.Qxb6615022aChecked
import GoSem.Claim
import GoSem.ClaimJoined
import GoSem.ClaimMapViews
import Derived.JoinedTies
import Derived.KernelRfl
namespace Go.Proofs.Qxb6615022a
/- THE CELL 'sum', in the pinned program and in every row, IS THE sha256 OF THE DUMP (.gsa) THAT Qxb6615022aProg.lean LOADS. Nothing in Lean hashes anything: it is a label: what it is worth is what the hold of that sum in a sandbox is worth. -/
noncomputable def Try.pinned : Pinned := { name := "qxb6615022a", sum := "be686162325dfcb3a31ea1689864b8935eb595f98f07da98ebbc4b8cd7620a35", checked := Try.checked }
namespace Rows
def none {H : Type} : Left H := { results := [], args := [] }

/-- 'zzlaws_internal_bench_b1.FnValueSizeOneMoreFieldAddsItsLength': WHATEVER THE INPUT: true; the input reads as it did. -/
def fnValueSizeOneMoreFieldAddsItsLengthSpec : ChangeSpec := { name := "fnValueSizeOneMoreFieldAddsItsLength", fn := fun _ => fun
  | [d1, d2, d3, d4, d5, d6, d7] => { results := [.lit (.bool true)], args := [d1, d2, d3, d4, d5, d6, d7] }
  | _ => none }
def fnValueSizeOneMoreFieldAddsItsLengthRow : OpenClaim := { program := "qxb6615022a", sum := "be686162325dfcb3a31ea1689864b8935eb595f98f07da98ebbc4b8cd7620a35", func := "example.com/antecedent/antecedent/zzlaws_internal_bench_b1.FnValueSizeOneMoreFieldAddsItsLength", spec := "fnValueSizeOneMoreFieldAddsItsLength", apart := false }
def FnValueSizeOneMoreFieldAddsItsLengthSaid : Prop := fnValueSizeOneMoreFieldAddsItsLengthRow.holds Try.pinned (OpenSpec.ofChange fnValueSizeOneMoreFieldAddsItsLengthSpec)

/-- ITS FALSE NEIGHBOUR: 'it returns false'. Refute it at one input. -/
def fnValueSizeOneMoreFieldAddsItsLengthWrong : ChangeSpec := { name := "fnValueSizeOneMoreFieldAddsItsLength", fn := fun _ => fun
  | [d1, d2, d3, d4, d5, d6, d7] => { results := [.lit (.bool false)], args := [d1, d2, d3, d4, d5, d6, d7] }
  | _ => none }
def FnValueSizeOneMoreFieldAddsItsLengthWrongFalsely : Prop := fnValueSizeOneMoreFieldAddsItsLengthRow.holds Try.pinned (OpenSpec.ofChange fnValueSizeOneMoreFieldAddsItsLengthWrong)

/-- 'zzlaws_internal_bench_b1.FnValueSizeLongerFieldsAddTheirCount': WHATEVER THE INPUT: true; the input reads as it did. -/
def fnValueSizeLongerFieldsAddTheirCountSpec : ChangeSpec := { name := "fnValueSizeLongerFieldsAddTheirCount", fn := fun _ => fun
  | [d1, d2, d3, d4, d5, d6, d7] => { results := [.lit (.bool true)], args := [d1, d2, d3, d4, d5, d6, d7] }
  | _ => none }
def fnValueSizeLongerFieldsAddTheirCountRow : OpenClaim := { program := "qxb6615022a", sum := "be686162325dfcb3a31ea1689864b8935eb595f98f07da98ebbc4b8cd7620a35", func := "example.com/antecedent/antecedent/zzlaws_internal_bench_b1.FnValueSizeLongerFieldsAddTheirCount", spec := "fnValueSizeLongerFieldsAddTheirCount", apart := false }
def FnValueSizeLongerFieldsAddTheirCountSaid : Prop := fnValueSizeLongerFieldsAddTheirCountRow.holds Try.pinned (OpenSpec.ofChange fnValueSizeLongerFieldsAddTheirCountSpec)

/-- ITS FALSE NEIGHBOUR: 'it returns false'. Refute it at one input. -/
def fnValueSizeLongerFieldsAddTheirCountWrong : ChangeSpec := { name := "fnValueSizeLongerFieldsAddTheirCount", fn := fun _ => fun
  | [d1, d2, d3, d4, d5, d6, d7] => { results := [.lit (.bool false)], args := [d1, d2, d3, d4, d5, d6, d7] }
  | _ => none }
def FnValueSizeLongerFieldsAddTheirCountWrongFalsely : Prop := fnValueSizeLongerFieldsAddTheirCountRow.holds Try.pinned (OpenSpec.ofChange fnValueSizeLongerFieldsAddTheirCountWrong)

end Rows
end Go.Proofs.Qxb6615022a
