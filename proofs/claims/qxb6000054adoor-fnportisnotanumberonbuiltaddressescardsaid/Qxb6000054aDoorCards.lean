/-
  DERIVED. GIVEN WITH THE SEED: THE CARDS: each row of Qxb6000054aDoorRows.lean that lists a variable, with what it lists TIED to the program's text (the seventh form; the later family's looks); each row that meets fmt, with fmt's text TOLD by the authors' own Lean function (tested against real Go, not proved from fmt's source: count such statements apart). THE CARD IS WHAT COUNTS. Prove the row's statement (the work); the ties are given (Qxb6000054aDoorTie.lean); close each card by the builder's one call (the guide's Derived/Test/ToyasCard.lean, 'card_holds'). Laid BY PROGRAM, IN A SANDBOX (cutbox-door.mjs). By AI agents, Wed Nov 11 2026. No macro, syntax, notation, axiom, sorry.
-/
import Derived.Test.Qxb6000054aDoorRows
import GoSem.ClaimSeven
namespace Go.Proofs.Qxb6000054aDoor
namespace Rows

/-- THE TIED CARD OF 'zzlaws_internal_hostport_b1.FnPortIsNotANumberMatchesOnePassModel'. -/
def fnPortIsNotANumberMatchesOnePassModelCard : Claim7 := { stood := { row := fnPortIsNotANumberMatchesOnePassModelRow, standIns := [], harness := (true, "e3495e4bb55b45fcd6ae67fd60128aa8ebd7bcd8f9f7cdbb848191fe0374ceda"), looks := false }, kinds := [], alts := [], laidByText := true, laidKinds := [.data, .pinned], laidTests := true, laidLooks := .later }
def FnPortIsNotANumberMatchesOnePassModelCardSaid : Prop := Claim7.holds Tryd.pinned (.plain (OpenSpec.ofChange fnPortIsNotANumberMatchesOnePassModelSpec)) fnPortIsNotANumberMatchesOnePassModelCard

/-- THE TIED CARD OF 'zzlaws_internal_hostport_b1.FnPortIsNotANumberIgnoresAppendedDigits'. -/
def fnPortIsNotANumberIgnoresAppendedDigitsCard : Claim7 := { stood := { row := fnPortIsNotANumberIgnoresAppendedDigitsRow, standIns := [], harness := (true, "e3495e4bb55b45fcd6ae67fd60128aa8ebd7bcd8f9f7cdbb848191fe0374ceda"), looks := false }, kinds := [], alts := [], laidByText := true, laidKinds := [.data, .pinned], laidTests := true, laidLooks := .later }
def FnPortIsNotANumberIgnoresAppendedDigitsCardSaid : Prop := Claim7.holds Tryd.pinned (.plain (OpenSpec.ofChange fnPortIsNotANumberIgnoresAppendedDigitsSpec)) fnPortIsNotANumberIgnoresAppendedDigitsCard

/-- THE TIED CARD OF 'zzlaws_internal_hostport_b1.FnPortIsNotANumberOnBuiltAddresses'. -/
def fnPortIsNotANumberOnBuiltAddressesCard : Claim7 := { stood := { row := fnPortIsNotANumberOnBuiltAddressesRow, standIns := [], harness := (true, "e3495e4bb55b45fcd6ae67fd60128aa8ebd7bcd8f9f7cdbb848191fe0374ceda"), looks := false }, kinds := [], alts := [], laidByText := true, laidKinds := [.data, .pinned], laidTests := true, laidLooks := .later }
def FnPortIsNotANumberOnBuiltAddressesCardSaid : Prop := Claim7.holds Tryd.pinned (.plain (OpenSpec.ofChange fnPortIsNotANumberOnBuiltAddressesSpec)) fnPortIsNotANumberOnBuiltAddressesCard
end Rows
end Go.Proofs.Qxb6000054aDoor
