/-
  DERIVED. GIVEN WITH THE SEED: THE CARDS: each row of Qxb6000100aDoorRows.lean that lists a variable, with what it lists TIED to the program's text (the seventh form; the later family's looks); each row that meets fmt, with fmt's text TOLD by the authors' own Lean function (tested against real Go, not proved from fmt's source: count such statements apart). THE CARD IS WHAT COUNTS. Prove the row's statement (the work); the ties are given (Qxb6000100aDoorTie.lean); close each card by the builder's one call (the guide's Derived/Test/ToyasCard.lean, 'card_holds'). Laid BY PROGRAM, IN A SANDBOX (cutbox-door.mjs). By AI agents, Wed Nov 11 2026. No macro, syntax, notation, axiom, sorry.
-/
import Derived.Test.Qxb6000100aDoorRows
import GoSem.ClaimSeven
namespace Go.Proofs.Qxb6000100aDoor
namespace Rows

/-- THE TIED CARD OF 'zzlaws_internal_jsonobject_b1.FnAnyValueMatchesScannerModel'. -/
def fnAnyValueMatchesScannerModelCard : Claim7 := { stood := { row := fnAnyValueMatchesScannerModelRow, standIns := [], harness := (true, "e1f965235e31e60335eda12e272d8a8eaae6ba9525c1be4969b46637d1517494"), looks := false }, kinds := [], alts := [], laidByText := true, laidKinds := [.data, .pinned], laidTests := true, laidLooks := .later }
def FnAnyValueMatchesScannerModelCardSaid : Prop := Claim7.holds Tryd.pinned (.plain (OpenSpec.ofChange fnAnyValueMatchesScannerModelSpec)) fnAnyValueMatchesScannerModelCard

/-- THE TIED CARD OF 'zzlaws_internal_jsonobject_b1.FnAnyValueAgreesWithPlainValue'. -/
def fnAnyValueAgreesWithPlainValueCard : Claim7 := { stood := { row := fnAnyValueAgreesWithPlainValueRow, standIns := [], harness := (true, "e1f965235e31e60335eda12e272d8a8eaae6ba9525c1be4969b46637d1517494"), looks := false }, kinds := [], alts := [], laidByText := true, laidKinds := [.data, .pinned], laidTests := true, laidLooks := .later }
def FnAnyValueAgreesWithPlainValueCardSaid : Prop := Claim7.holds Tryd.pinned (.plain (OpenSpec.ofChange fnAnyValueAgreesWithPlainValueSpec)) fnAnyValueAgreesWithPlainValueCard
end Rows
end Go.Proofs.Qxb6000100aDoor
