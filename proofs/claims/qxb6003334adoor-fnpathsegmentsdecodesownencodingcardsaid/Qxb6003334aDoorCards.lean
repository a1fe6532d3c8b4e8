/-
  DERIVED. GIVEN WITH THE SEED: THE CARDS: each row of Qxb6003334aDoorRows.lean that lists a variable, with what it lists TIED to the program's text (the seventh form; the later family's looks); each row that meets fmt, with fmt's text TOLD by the authors' own Lean function (tested against real Go, not proved from fmt's source: count such statements apart). THE CARD IS WHAT COUNTS. Prove the row's statement (the work); the ties are given (Qxb6003334aDoorTie.lean); close each card by the builder's one call (the guide's Derived/Test/ToyasCard.lean, 'card_holds'). Laid BY PROGRAM, IN A SANDBOX (cutbox-door.mjs). By AI agents, Wed Nov 11 2026. No macro, syntax, notation, axiom, sorry.
-/
import Derived.Test.Qxb6003334aDoorRows
import GoSem.ClaimSeven
namespace Go.Proofs.Qxb6003334aDoor
namespace Rows

/-- THE TIED CARD OF 'zzlaws_pkg_httpapi_g1.FnPathSegmentsDecodesOwnEncoding'. -/
def fnPathSegmentsDecodesOwnEncodingCard : Claim7 := { stood := { row := fnPathSegmentsDecodesOwnEncodingRow, standIns := [], harness := (true, "85c2cba24d1676f90d707f3dacc694e02079ffa04f39e0ef8e8c45995453aa27"), looks := false }, kinds := [], alts := [], laidByText := true, laidKinds := [.data, .data, .pinned], laidTests := true, laidLooks := .later }
def FnPathSegmentsDecodesOwnEncodingCardSaid : Prop := Claim7.holds Tryd.pinned (.plain (OpenSpec.ofChange fnPathSegmentsDecodesOwnEncodingSpec)) fnPathSegmentsDecodesOwnEncodingCard

/-- THE TIED CARD OF 'zzlaws_pkg_httpapi_g1.FnPathSegmentsAcceptsExactlyWellFormedPaths'. -/
def fnPathSegmentsAcceptsExactlyWellFormedPathsCard : Claim7 := { stood := { row := fnPathSegmentsAcceptsExactlyWellFormedPathsRow, standIns := [], harness := (true, "85c2cba24d1676f90d707f3dacc694e02079ffa04f39e0ef8e8c45995453aa27"), looks := false }, kinds := [], alts := [], laidByText := true, laidKinds := [.data, .data, .pinned], laidTests := true, laidLooks := .later }
def FnPathSegmentsAcceptsExactlyWellFormedPathsCardSaid : Prop := Claim7.holds Tryd.pinned (.plain (OpenSpec.ofChange fnPathSegmentsAcceptsExactlyWellFormedPathsSpec)) fnPathSegmentsAcceptsExactlyWellFormedPathsCard
end Rows
end Go.Proofs.Qxb6003334aDoor
