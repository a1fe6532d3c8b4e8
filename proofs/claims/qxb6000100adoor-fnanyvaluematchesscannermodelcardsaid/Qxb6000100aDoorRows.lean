/-
  NARROWER THAN 'FOR EVERY INPUT', by the rows' own cells (each row's printed sentence says how): FnAnyValueMatchesScannerModel: laid · FnAnyValueAgreesWithPlainValue: laid.
  DERIVED. THE GIVEN ROWS OF THIS SEAT. 2 by the template 'for every input the law returns true; each argument reads behind the call as it read before'; 0 by the template 'total and deterministic' (their statements: Qxb6000100aDoorTotals.lean).
  GIVEN WITH THE SEED: the statements are not yours to turn. If you find one false, say at which input.
  Laid BY PROGRAM, IN A SANDBOX (cutbox-rows.mjs): the forced cells as the released guide's own fill.sh prints them over the translation 2f159b39421e6974… (all of the seat's roots in one cut). By AI agents, Wed Nov 11 2026. No macro, syntax, notation, axiom, sorry.
-/
import Derived.Test.Qxb6000100aDoorChecked
import GoSem.PinnedTables
import GoSem.Claim
import GoSem.ClaimJoined
import GoSem.ClaimMapViews
import Derived.JoinedTies
import Derived.KernelRfl
namespace Go.Proofs.Qxb6000100aDoor
/- THE CELL 'sum', in the pinned program and in every row, IS THE sha256 OF THE DUMP (.gsa) THAT Qxb6000100aDoorProg.lean LOADS. Nothing in Lean hashes anything: it is a label: what it is worth is what the hold of that sum in a sandbox is worth. -/
noncomputable def Tryd.pinned : Pinned := { name := "qxb6000100adoor", sum := "2f159b39421e697435f52dd19741c26811b3230d56dc92e1411d21b1704ff349", checked := Tryd.checked }
namespace Rows
def none {H : Type} : Left H := { results := [], args := [] }

/- WHAT THE LISTED PACKAGE-LEVEL VARIABLES READ AS WHEN THE CALL BEGINS. Each datum BY PROGRAM (the guide's laid-datum.mjs) off the statement by which the dump's own 'gosem.cut.vars' lays the variable. In a bare row this is a premise. The card (Qxb6000100aDoorCards.lean) ties it to the program's text. -/
def laid_unicode_utf8_acceptRanges {H : Type} : DataW H := .agg [.agg [.lit (.int .u8 128), .lit (.int .u8 191)], .agg [.lit (.int .u8 160), .lit (.int .u8 191)], .agg [.lit (.int .u8 128), .lit (.int .u8 159)], .agg [.lit (.int .u8 144), .lit (.int .u8 191)], .agg [.lit (.int .u8 128), .lit (.int .u8 143)], .agg [.lit (.int .u8 0), .lit (.int .u8 0)], .agg [.lit (.int .u8 0), .lit (.int .u8 0)], .agg [.lit (.int .u8 0), .lit (.int .u8 0)], .agg [.lit (.int .u8 0), .lit (.int .u8 0)], .agg [.lit (.int .u8 0), .lit (.int .u8 0)], .agg [.lit (.int .u8 0), .lit (.int .u8 0)], .agg [.lit (.int .u8 0), .lit (.int .u8 0)], .agg [.lit (.int .u8 0), .lit (.int .u8 0)], .agg [.lit (.int .u8 0), .lit (.int .u8 0)], .agg [.lit (.int .u8 0), .lit (.int .u8 0)], .agg [.lit (.int .u8 0), .lit (.int .u8 0)]]
/-- One of Go's own tables, pinned by name: the form's constant. -/
def laid_unicode_utf8_first : DataW Unit := Go.Pinned.utf8First

/-- 'zzlaws_internal_jsonobject_b1.FnAnyValueMatchesScannerModel': WHATEVER THE INPUT: true; the input reads as it did. -/
def fnAnyValueMatchesScannerModelSpec : ChangeSpec := { name := "fnAnyValueMatchesScannerModel", fn := fun _ => fun
  | [d1, d2] => { results := [.lit (.bool true)], args := [d1, d2] }
  | _ => none }
def fnAnyValueMatchesScannerModelRow : OpenClaim := { program := "qxb6000100adoor", sum := "2f159b39421e697435f52dd19741c26811b3230d56dc92e1411d21b1704ff349", func := "example.com/kinkline/kinkline/zzlaws_internal_jsonobject_b1.FnAnyValueMatchesScannerModel", spec := "fnAnyValueMatchesScannerModel", inPlace := ["internal/bytealg.IndexByteString", "internal/bytealg.IndexByte", "internal/bytealg.Index", "internal/bytealg.IndexString"], named := ["internal/bytealg.MaxLen", "unicode/utf8.first", "unicode/utf8.acceptRanges"], apart := false, laid := [("unicode/utf8.acceptRanges", laid_unicode_utf8_acceptRanges), ("unicode/utf8.first", laid_unicode_utf8_first)] }
def FnAnyValueMatchesScannerModelSaid : Prop := fnAnyValueMatchesScannerModelRow.holds Tryd.pinned (OpenSpec.ofChange fnAnyValueMatchesScannerModelSpec)

/-- ITS FALSE NEIGHBOUR: 'it returns false'. Refute it at one input. -/
def fnAnyValueMatchesScannerModelWrong : ChangeSpec := { name := "fnAnyValueMatchesScannerModel", fn := fun _ => fun
  | [d1, d2] => { results := [.lit (.bool false)], args := [d1, d2] }
  | _ => none }
def FnAnyValueMatchesScannerModelWrongFalsely : Prop := fnAnyValueMatchesScannerModelRow.holds Tryd.pinned (OpenSpec.ofChange fnAnyValueMatchesScannerModelWrong)

/-- 'zzlaws_internal_jsonobject_b1.FnAnyValueAgreesWithPlainValue': WHATEVER THE INPUT: true; the input reads as it did. -/
def fnAnyValueAgreesWithPlainValueSpec : ChangeSpec := { name := "fnAnyValueAgreesWithPlainValue", fn := fun _ => fun
  | [d1, d2] => { results := [.lit (.bool true)], args := [d1, d2] }
  | _ => none }
def fnAnyValueAgreesWithPlainValueRow : OpenClaim := { program := "qxb6000100adoor", sum := "2f159b39421e697435f52dd19741c26811b3230d56dc92e1411d21b1704ff349", func := "example.com/kinkline/kinkline/zzlaws_internal_jsonobject_b1.FnAnyValueAgreesWithPlainValue", spec := "fnAnyValueAgreesWithPlainValue", inPlace := ["internal/bytealg.IndexByteString", "internal/bytealg.IndexByte", "internal/bytealg.Index", "internal/bytealg.IndexString"], named := ["internal/bytealg.MaxLen", "unicode/utf8.first", "unicode/utf8.acceptRanges"], apart := false, laid := [("unicode/utf8.acceptRanges", laid_unicode_utf8_acceptRanges), ("unicode/utf8.first", laid_unicode_utf8_first)] }
def FnAnyValueAgreesWithPlainValueSaid : Prop := fnAnyValueAgreesWithPlainValueRow.holds Tryd.pinned (OpenSpec.ofChange fnAnyValueAgreesWithPlainValueSpec)

/-- ITS FALSE NEIGHBOUR: 'it returns false'. Refute it at one input. -/
def fnAnyValueAgreesWithPlainValueWrong : ChangeSpec := { name := "fnAnyValueAgreesWithPlainValue", fn := fun _ => fun
  | [d1, d2] => { results := [.lit (.bool false)], args := [d1, d2] }
  | _ => none }
def FnAnyValueAgreesWithPlainValueWrongFalsely : Prop := fnAnyValueAgreesWithPlainValueRow.holds Tryd.pinned (OpenSpec.ofChange fnAnyValueAgreesWithPlainValueWrong)

end Rows
end Go.Proofs.Qxb6000100aDoor
