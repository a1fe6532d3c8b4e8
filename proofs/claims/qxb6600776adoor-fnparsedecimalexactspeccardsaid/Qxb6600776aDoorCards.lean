/-
  DERIVED. GIVEN WITH THE SEED: THE CARDS: each row of Qxb6600776aDoorRows.lean that lists a variable, with what it lists TIED to the program's text (the seventh form; the later family's looks); each row that meets fmt, with fmt's text TOLD by the authors' own Lean function (tested against real Go, not proved from fmt's source: count such statements apart). THE CARD IS WHAT COUNTS. Prove the row's statement (the work); the ties are given (Qxb6600776aDoorTie.lean); close each card by the builder's one call (the guide's Derived/Test/ToyasCard.lean, 'card_holds'). Laid BY PROGRAM, IN A SANDBOX (cutbox-door.mjs). By AI agents, Wed Nov 11 2026. No macro, syntax, notation, axiom, sorry.
-/
import Derived.Test.Qxb6600776aDoorRows
import GoSem.ClaimSeven
namespace Go.Proofs.Qxb6600776aDoor
namespace Rows

/-- THE TIED CARD OF 'zzlaws_pkg_policy_b1.FnParseDecimalExactSpec'. -/
def fnParseDecimalExactSpecCard : Claim7 := { stood := { row := fnParseDecimalExactSpecRow, standIns := [], harness := (true, "5710a31077b1d203eac72d01cedaff13332481578dcc11a2b759c095c2de1559"), looks := true }, kinds := [], alts := [], laidByText := true, laidKinds := [.data, .data, .widerDeep, .widerDeep, .data, .data, .data, .data, .data, .sentinel, .sentinel, .pinned, .pinned], laidTests := true, laidLooks := .later }
def FnParseDecimalExactSpecCardSaid : Prop := Claim7.holds Tryd.pinned (.plain (OpenSpec.ofChange fnParseDecimalExactSpecSpec)) fnParseDecimalExactSpecCard

/-- THE TIED CARD OF 'zzlaws_pkg_policy_b1.FnParseDecimalMonotone'. -/
def fnParseDecimalMonotoneCard : Claim7 := { stood := { row := fnParseDecimalMonotoneRow, standIns := [], harness := (true, "5710a31077b1d203eac72d01cedaff13332481578dcc11a2b759c095c2de1559"), looks := true }, kinds := [], alts := [], laidByText := true, laidKinds := [.data, .data, .widerDeep, .widerDeep, .data, .data, .data, .data, .data, .sentinel, .sentinel, .pinned, .pinned], laidTests := true, laidLooks := .later }
def FnParseDecimalMonotoneCardSaid : Prop := Claim7.holds Tryd.pinned (.plain (OpenSpec.ofChange fnParseDecimalMonotoneSpec)) fnParseDecimalMonotoneCard

/-- THE TIED CARD OF 'zzlaws_pkg_policy_b1.FnParseDecimalZeroPadding'. -/
def fnParseDecimalZeroPaddingCard : Claim7 := { stood := { row := fnParseDecimalZeroPaddingRow, standIns := [], harness := (true, "5710a31077b1d203eac72d01cedaff13332481578dcc11a2b759c095c2de1559"), looks := true }, kinds := [], alts := [], laidByText := true, laidKinds := [.data, .data, .widerDeep, .widerDeep, .data, .data, .data, .data, .data, .sentinel, .sentinel, .pinned, .pinned], laidTests := true, laidLooks := .later }
def FnParseDecimalZeroPaddingCardSaid : Prop := Claim7.holds Tryd.pinned (.plain (OpenSpec.ofChange fnParseDecimalZeroPaddingSpec)) fnParseDecimalZeroPaddingCard
end Rows
end Go.Proofs.Qxb6600776aDoor
