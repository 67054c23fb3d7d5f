/-
  NARROWER THAN 'FOR EVERY INPUT', by the rows' own cells (each row's printed sentence says how): FnIsCommonJoinedNames: laid.
  DERIVED. THE GIVEN ROWS OF THIS SEAT. 1 by the template 'for every input the law returns true; each argument reads behind the call as it read before'; 0 by the template 'total and deterministic' (their statements: Qxb6615478aDoorTotals.lean).
  GIVEN WITH THE SEED: the statements are not yours to turn. If you find one false, say at which input.
  Laid BY PROGRAM, IN A SANDBOX (cutbox-rows.mjs): the forced cells as the released guide's own fill.sh prints them over the translation 4959a8d765a7eca7… (all of the seat's roots in one cut). By AI agents, Wed Nov 11 2026. No macro, syntax, notation, axiom, sorry.
-/
import Derived.Test.Qxb6615478aDoorChecked
import GoSem.Claim
import GoSem.ClaimJoined
import GoSem.ClaimMapViews
import Derived.JoinedTies
import Derived.KernelRfl
namespace Go.Proofs.Qxb6615478aDoor
/- THE CELL 'sum', in the pinned program and in every row, IS THE sha256 OF THE DUMP (.gsa) THAT Qxb6615478aDoorProg.lean LOADS. Nothing in Lean hashes anything: it is a label: what it is worth is what the hold of that sum in a sandbox is worth. -/
noncomputable def Tryd.pinned : Pinned := { name := "qxb6615478adoor", sum := "4959a8d765a7eca72029766645b85b3138db3cb26dc0b9f1ae318af85898b1e5", checked := Tryd.checked }
namespace Rows
def none {H : Type} : Left H := { results := [], args := [] }

/- WHAT THE LISTED PACKAGE-LEVEL VARIABLES READ AS WHEN THE CALL BEGINS. Each datum BY PROGRAM (the guide's laid-datum.mjs) off the statement by which the dump's own 'gosem.cut.vars' lays the variable. In a bare row this is a premise. The card (Qxb6615478aDoorCards.lean) ties it to the program's text. -/
def laid_example_com_sigcall_sigcall_internal_param_common {H : Type} : DataW H := .slice [.lit (.string [65, 99, 116, 105, 111, 110]), .lit (.string [65, 112, 112, 73, 100]), .lit (.string [83, 105, 103, 110, 97, 116, 117, 114, 101, 78, 111, 110, 99, 101]), .lit (.string [84, 105, 109, 101, 115, 116, 97, 109, 112]), .lit (.string [83, 105, 103, 110, 97, 116, 117, 114, 101]), .lit (.string [83, 105, 103, 110, 97, 116, 117, 114, 101, 86, 101, 114, 115, 105, 111, 110]), .lit (.string [73, 115, 84, 101, 115, 116])] []

/-- 'zzlaws_internal_param_b1.FnIsCommonJoinedNames': WHATEVER THE INPUT: true; the input reads as it did. -/
def fnIsCommonJoinedNamesSpec : ChangeSpec := { name := "fnIsCommonJoinedNames", vars := ["example.com/sigcall/sigcall/internal/param.common"], fn := fun _ => fun
  | [d1, d2, g1] => { results := [.lit (.bool true)], args := [d1, d2], vars := [g1] }
  | _ => none }
def fnIsCommonJoinedNamesRow : OpenClaim := { program := "qxb6615478adoor", sum := "4959a8d765a7eca72029766645b85b3138db3cb26dc0b9f1ae318af85898b1e5", func := "example.com/sigcall/sigcall/zzlaws_internal_param_b1.FnIsCommonJoinedNames", spec := "fnIsCommonJoinedNames", named := ["example.com/sigcall/sigcall/internal/param.common"], apart := false, laid := [("example.com/sigcall/sigcall/internal/param.common", laid_example_com_sigcall_sigcall_internal_param_common)] }
def FnIsCommonJoinedNamesSaid : Prop := fnIsCommonJoinedNamesRow.holds Tryd.pinned (OpenSpec.ofChange fnIsCommonJoinedNamesSpec)

/-- ITS FALSE NEIGHBOUR: 'it returns false'. Refute it at one input. -/
def fnIsCommonJoinedNamesWrong : ChangeSpec := { name := "fnIsCommonJoinedNames", vars := ["example.com/sigcall/sigcall/internal/param.common"], fn := fun _ => fun
  | [d1, d2, g1] => { results := [.lit (.bool false)], args := [d1, d2], vars := [g1] }
  | _ => none }
def FnIsCommonJoinedNamesWrongFalsely : Prop := fnIsCommonJoinedNamesRow.holds Tryd.pinned (OpenSpec.ofChange fnIsCommonJoinedNamesWrong)

end Rows
end Go.Proofs.Qxb6615478aDoor
