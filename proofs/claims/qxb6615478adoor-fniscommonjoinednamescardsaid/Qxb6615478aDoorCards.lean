/-
  DERIVED. GIVEN WITH THE SEED: THE CARDS: each row of Qxb6615478aDoorRows.lean that lists a variable, with what it lists TIED to the program's text (the seventh form; the later family's looks); each row that meets fmt, with fmt's text TOLD by the authors' own Lean function (tested against real Go, not proved from fmt's source: count such statements apart). THE CARD IS WHAT COUNTS. Prove the row's statement (the work); the ties are given (Qxb6615478aDoorTie.lean); close each card by the builder's one call (the guide's Derived/Test/ToyasCard.lean, 'card_holds'). Laid BY PROGRAM, IN A SANDBOX (cutbox-door.mjs). By AI agents, Wed Nov 11 2026. No macro, syntax, notation, axiom, sorry.
-/
import Derived.Test.Qxb6615478aDoorRows
import GoSem.ClaimSeven
namespace Go.Proofs.Qxb6615478aDoor
namespace Rows

/-- THE TIED CARD OF 'zzlaws_internal_param_b1.FnIsCommonJoinedNames'. -/
def fnIsCommonJoinedNamesCard : Claim7 := { stood := { row := fnIsCommonJoinedNamesRow, standIns := [], harness := (true, "c93a9e8d2a0c0e220fa17d14fe9ba4c0c387506d824254d615baaac077bbdc36"), looks := false }, kinds := [], alts := [], laidByText := true, laidKinds := [.widerDeep], laidTests := true, laidLooks := .later }
def FnIsCommonJoinedNamesCardSaid : Prop := Claim7.holds Tryd.pinned (.plain (OpenSpec.ofChange fnIsCommonJoinedNamesSpec)) fnIsCommonJoinedNamesCard
end Rows
end Go.Proofs.Qxb6615478aDoor
