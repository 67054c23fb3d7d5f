/-
  No cell of these rows narrows 'for every input' (looked for: loops, veiled, ifaces, maps, wideKeys, modest, calm, conditions, laid).
  DERIVED. THE GIVEN ROWS OF THIS SEAT. 3 by the template 'for every input the law returns true; each argument reads behind the call as it read before'; 0 by the template 'total and deterministic' (their statements: Qxb6615110aTotals.lean).
  GIVEN WITH THE SEED: the statements are not yours to turn. If you find one false, say at which input.
  Laid BY PROGRAM, IN A SANDBOX (cutbox-rows.mjs): the forced cells as the released guide's own fill.sh prints them over the translation b449d5abb8672eac… (all of the seat's roots in one cut). By AI agents, Wed Nov 11 2026. No macro, syntax, notation, axiom, sorry.
-/
import Derived.Test.Qxb6615110aChecked
import GoSem.Claim
import GoSem.ClaimJoined
import GoSem.ClaimMapViews
import Derived.JoinedTies
import Derived.KernelRfl
namespace Go.Proofs.Qxb6615110a
/- THE CELL 'sum', in the pinned program and in every row, IS THE sha256 OF THE DUMP (.gsa) THAT Qxb6615110aProg.lean LOADS. Nothing in Lean hashes anything: it is a label: what it is worth is what the hold of that sum in a sandbox is worth. -/
noncomputable def Try.pinned : Pinned := { name := "qxb6615110a", sum := "b449d5abb8672eac71b18ce896028d6f9f2746cbe139df003e59ff1cad71faed", checked := Try.checked }
namespace Rows
def none {H : Type} : Left H := { results := [], args := [] }

/-- 'zzlaws_protocol_b1.FnPromptTextMarshalCutAndKind': WHATEVER THE INPUT: true; the input reads as it did. -/
def fnPromptTextMarshalCutAndKindSpec : ChangeSpec := { name := "fnPromptTextMarshalCutAndKind", fn := fun _ => fun
  | [d1, d2, d3] => { results := [.lit (.bool true)], args := [d1, d2, d3] }
  | _ => none }
def fnPromptTextMarshalCutAndKindRow : OpenClaim := { program := "qxb6615110a", sum := "b449d5abb8672eac71b18ce896028d6f9f2746cbe139df003e59ff1cad71faed", func := "example.com/parrel/parrel/zzlaws_protocol_b1.FnPromptTextMarshalCutAndKind", spec := "fnPromptTextMarshalCutAndKind", apart := false }
def FnPromptTextMarshalCutAndKindSaid : Prop := fnPromptTextMarshalCutAndKindRow.holds Try.pinned (OpenSpec.ofChange fnPromptTextMarshalCutAndKindSpec)

/-- ITS FALSE NEIGHBOUR: 'it returns false'. Refute it at one input. -/
def fnPromptTextMarshalCutAndKindWrong : ChangeSpec := { name := "fnPromptTextMarshalCutAndKind", fn := fun _ => fun
  | [d1, d2, d3] => { results := [.lit (.bool false)], args := [d1, d2, d3] }
  | _ => none }
def FnPromptTextMarshalCutAndKindWrongFalsely : Prop := fnPromptTextMarshalCutAndKindRow.holds Try.pinned (OpenSpec.ofChange fnPromptTextMarshalCutAndKindWrong)

/-- 'zzlaws_protocol_b1.FnPromptTextMarshalInjective': WHATEVER THE INPUT: true; the input reads as it did. -/
def fnPromptTextMarshalInjectiveSpec : ChangeSpec := { name := "fnPromptTextMarshalInjective", fn := fun _ => fun
  | [d1, d2, d3, d4] => { results := [.lit (.bool true)], args := [d1, d2, d3, d4] }
  | _ => none }
def fnPromptTextMarshalInjectiveRow : OpenClaim := { program := "qxb6615110a", sum := "b449d5abb8672eac71b18ce896028d6f9f2746cbe139df003e59ff1cad71faed", func := "example.com/parrel/parrel/zzlaws_protocol_b1.FnPromptTextMarshalInjective", spec := "fnPromptTextMarshalInjective", apart := false }
def FnPromptTextMarshalInjectiveSaid : Prop := fnPromptTextMarshalInjectiveRow.holds Try.pinned (OpenSpec.ofChange fnPromptTextMarshalInjectiveSpec)

/-- ITS FALSE NEIGHBOUR: 'it returns false'. Refute it at one input. -/
def fnPromptTextMarshalInjectiveWrong : ChangeSpec := { name := "fnPromptTextMarshalInjective", fn := fun _ => fun
  | [d1, d2, d3, d4] => { results := [.lit (.bool false)], args := [d1, d2, d3, d4] }
  | _ => none }
def FnPromptTextMarshalInjectiveWrongFalsely : Prop := fnPromptTextMarshalInjectiveRow.holds Try.pinned (OpenSpec.ofChange fnPromptTextMarshalInjectiveWrong)

/-- 'zzlaws_protocol_b1.FnTerminalRequestMarshalInjective': WHATEVER THE INPUT: true; the input reads as it did. -/
def fnTerminalRequestMarshalInjectiveSpec : ChangeSpec := { name := "fnTerminalRequestMarshalInjective", fn := fun _ => fun
  | [d1, d2, d3, d4, d5, d6, d7, d8, d9, d10] => { results := [.lit (.bool true)], args := [d1, d2, d3, d4, d5, d6, d7, d8, d9, d10] }
  | _ => none }
def fnTerminalRequestMarshalInjectiveRow : OpenClaim := { program := "qxb6615110a", sum := "b449d5abb8672eac71b18ce896028d6f9f2746cbe139df003e59ff1cad71faed", func := "example.com/parrel/parrel/zzlaws_protocol_b1.FnTerminalRequestMarshalInjective", spec := "fnTerminalRequestMarshalInjective", named := ["encoding/binary.BigEndian"], apart := false }
def FnTerminalRequestMarshalInjectiveSaid : Prop := fnTerminalRequestMarshalInjectiveRow.holds Try.pinned (OpenSpec.ofChange fnTerminalRequestMarshalInjectiveSpec)

/-- ITS FALSE NEIGHBOUR: 'it returns false'. Refute it at one input. -/
def fnTerminalRequestMarshalInjectiveWrong : ChangeSpec := { name := "fnTerminalRequestMarshalInjective", fn := fun _ => fun
  | [d1, d2, d3, d4, d5, d6, d7, d8, d9, d10] => { results := [.lit (.bool false)], args := [d1, d2, d3, d4, d5, d6, d7, d8, d9, d10] }
  | _ => none }
def FnTerminalRequestMarshalInjectiveWrongFalsely : Prop := fnTerminalRequestMarshalInjectiveRow.holds Try.pinned (OpenSpec.ofChange fnTerminalRequestMarshalInjectiveWrong)

end Rows
end Go.Proofs.Qxb6615110a
