/-
  NARROWER THAN 'FOR EVERY INPUT', by the rows' own cells (each row's printed sentence says how): FnPortIsNotANumberMatchesOnePassModel: laid · FnPortIsNotANumberIgnoresAppendedDigits: laid · FnPortIsNotANumberOnBuiltAddresses: laid.
  DERIVED. THE GIVEN ROWS OF THIS SEAT. 3 by the template 'for every input the law returns true; each argument reads behind the call as it read before'; 0 by the template 'total and deterministic' (their statements: Qxb6000054aDoorTotals.lean).
  GIVEN WITH THE SEED: the statements are not yours to turn. If you find one false, say at which input.
  Laid BY PROGRAM, IN A SANDBOX (cutbox-rows.mjs): the forced cells as the released guide's own fill.sh prints them over the translation 2d7be4bcde01d0a9… (all of the seat's roots in one cut). By AI agents, Wed Nov 11 2026. No macro, syntax, notation, axiom, sorry.
-/
import Derived.Test.Qxb6000054aDoorChecked
import GoSem.PinnedTables
import GoSem.Claim
import GoSem.ClaimJoined
import GoSem.ClaimMapViews
import Derived.JoinedTies
import Derived.KernelRfl
namespace Go.Proofs.Qxb6000054aDoor
/- THE CELL 'sum', in the pinned program and in every row, IS THE sha256 OF THE DUMP (.gsa) THAT Qxb6000054aDoorProg.lean LOADS. Nothing in Lean hashes anything: it is a label: what it is worth is what the hold of that sum in a sandbox is worth. -/
noncomputable def Tryd.pinned : Pinned := { name := "qxb6000054adoor", sum := "2d7be4bcde01d0a95378848f6a5331ca3e6a4818774c5dd0914e5f1a762f404e", checked := Tryd.checked }
namespace Rows
def none {H : Type} : Left H := { results := [], args := [] }

/- WHAT THE LISTED PACKAGE-LEVEL VARIABLES READ AS WHEN THE CALL BEGINS. Each datum BY PROGRAM (the guide's laid-datum.mjs) off the statement by which the dump's own 'gosem.cut.vars' lays the variable. In a bare row this is a premise. The card (Qxb6000054aDoorCards.lean) ties it to the program's text. -/
def laid_unicode_utf8_acceptRanges {H : Type} : DataW H := .agg [.agg [.lit (.int .u8 128), .lit (.int .u8 191)], .agg [.lit (.int .u8 160), .lit (.int .u8 191)], .agg [.lit (.int .u8 128), .lit (.int .u8 159)], .agg [.lit (.int .u8 144), .lit (.int .u8 191)], .agg [.lit (.int .u8 128), .lit (.int .u8 143)], .agg [.lit (.int .u8 0), .lit (.int .u8 0)], .agg [.lit (.int .u8 0), .lit (.int .u8 0)], .agg [.lit (.int .u8 0), .lit (.int .u8 0)], .agg [.lit (.int .u8 0), .lit (.int .u8 0)], .agg [.lit (.int .u8 0), .lit (.int .u8 0)], .agg [.lit (.int .u8 0), .lit (.int .u8 0)], .agg [.lit (.int .u8 0), .lit (.int .u8 0)], .agg [.lit (.int .u8 0), .lit (.int .u8 0)], .agg [.lit (.int .u8 0), .lit (.int .u8 0)], .agg [.lit (.int .u8 0), .lit (.int .u8 0)], .agg [.lit (.int .u8 0), .lit (.int .u8 0)]]
/-- One of Go's own tables, pinned by name: the form's constant. -/
def laid_unicode_utf8_first : DataW Unit := Go.Pinned.utf8First

/-- 'zzlaws_internal_hostport_b1.FnPortIsNotANumberMatchesOnePassModel': WHATEVER THE INPUT: true; the input reads as it did. -/
def fnPortIsNotANumberMatchesOnePassModelSpec : ChangeSpec := { name := "fnPortIsNotANumberMatchesOnePassModel", fn := fun _ => fun
  | [d] => { results := [.lit (.bool true)], args := [d] }
  | _ => none }
def fnPortIsNotANumberMatchesOnePassModelRow : OpenClaim := { program := "qxb6000054adoor", sum := "2d7be4bcde01d0a95378848f6a5331ca3e6a4818774c5dd0914e5f1a762f404e", func := "example.com/holdfast/holdfast/zzlaws_internal_hostport_b1.FnPortIsNotANumberMatchesOnePassModel", spec := "fnPortIsNotANumberMatchesOnePassModel", inPlace := ["internal/bytealg.IndexByteString", "internal/bytealg.IndexString"], named := ["internal/bytealg.MaxLen", "unicode/utf8.first", "unicode/utf8.acceptRanges"], apart := false, laid := [("unicode/utf8.acceptRanges", laid_unicode_utf8_acceptRanges), ("unicode/utf8.first", laid_unicode_utf8_first)] }
def FnPortIsNotANumberMatchesOnePassModelSaid : Prop := fnPortIsNotANumberMatchesOnePassModelRow.holds Tryd.pinned (OpenSpec.ofChange fnPortIsNotANumberMatchesOnePassModelSpec)

/-- ITS FALSE NEIGHBOUR: 'it returns false'. Refute it at one input. -/
def fnPortIsNotANumberMatchesOnePassModelWrong : ChangeSpec := { name := "fnPortIsNotANumberMatchesOnePassModel", fn := fun _ => fun
  | [d] => { results := [.lit (.bool false)], args := [d] }
  | _ => none }
def FnPortIsNotANumberMatchesOnePassModelWrongFalsely : Prop := fnPortIsNotANumberMatchesOnePassModelRow.holds Tryd.pinned (OpenSpec.ofChange fnPortIsNotANumberMatchesOnePassModelWrong)

/-- 'zzlaws_internal_hostport_b1.FnPortIsNotANumberIgnoresAppendedDigits': WHATEVER THE INPUT: true; the input reads as it did. -/
def fnPortIsNotANumberIgnoresAppendedDigitsSpec : ChangeSpec := { name := "fnPortIsNotANumberIgnoresAppendedDigits", fn := fun _ => fun
  | [d1, d2] => { results := [.lit (.bool true)], args := [d1, d2] }
  | _ => none }
def fnPortIsNotANumberIgnoresAppendedDigitsRow : OpenClaim := { program := "qxb6000054adoor", sum := "2d7be4bcde01d0a95378848f6a5331ca3e6a4818774c5dd0914e5f1a762f404e", func := "example.com/holdfast/holdfast/zzlaws_internal_hostport_b1.FnPortIsNotANumberIgnoresAppendedDigits", spec := "fnPortIsNotANumberIgnoresAppendedDigits", inPlace := ["internal/bytealg.IndexByteString", "internal/bytealg.IndexString"], named := ["internal/bytealg.MaxLen", "unicode/utf8.first", "unicode/utf8.acceptRanges"], apart := false, laid := [("unicode/utf8.acceptRanges", laid_unicode_utf8_acceptRanges), ("unicode/utf8.first", laid_unicode_utf8_first)] }
def FnPortIsNotANumberIgnoresAppendedDigitsSaid : Prop := fnPortIsNotANumberIgnoresAppendedDigitsRow.holds Tryd.pinned (OpenSpec.ofChange fnPortIsNotANumberIgnoresAppendedDigitsSpec)

/-- ITS FALSE NEIGHBOUR: 'it returns false'. Refute it at one input. -/
def fnPortIsNotANumberIgnoresAppendedDigitsWrong : ChangeSpec := { name := "fnPortIsNotANumberIgnoresAppendedDigits", fn := fun _ => fun
  | [d1, d2] => { results := [.lit (.bool false)], args := [d1, d2] }
  | _ => none }
def FnPortIsNotANumberIgnoresAppendedDigitsWrongFalsely : Prop := fnPortIsNotANumberIgnoresAppendedDigitsRow.holds Tryd.pinned (OpenSpec.ofChange fnPortIsNotANumberIgnoresAppendedDigitsWrong)

/-- 'zzlaws_internal_hostport_b1.FnPortIsNotANumberOnBuiltAddresses': WHATEVER THE INPUT: true; the input reads as it did. -/
def fnPortIsNotANumberOnBuiltAddressesSpec : ChangeSpec := { name := "fnPortIsNotANumberOnBuiltAddresses", fn := fun _ => fun
  | [d1, d2, d3] => { results := [.lit (.bool true)], args := [d1, d2, d3] }
  | _ => none }
def fnPortIsNotANumberOnBuiltAddressesRow : OpenClaim := { program := "qxb6000054adoor", sum := "2d7be4bcde01d0a95378848f6a5331ca3e6a4818774c5dd0914e5f1a762f404e", func := "example.com/holdfast/holdfast/zzlaws_internal_hostport_b1.FnPortIsNotANumberOnBuiltAddresses", spec := "fnPortIsNotANumberOnBuiltAddresses", inPlace := ["internal/bytealg.IndexByteString", "internal/bytealg.IndexString"], named := ["internal/bytealg.MaxLen", "unicode/utf8.first", "unicode/utf8.acceptRanges"], apart := false, laid := [("unicode/utf8.acceptRanges", laid_unicode_utf8_acceptRanges), ("unicode/utf8.first", laid_unicode_utf8_first)] }
def FnPortIsNotANumberOnBuiltAddressesSaid : Prop := fnPortIsNotANumberOnBuiltAddressesRow.holds Tryd.pinned (OpenSpec.ofChange fnPortIsNotANumberOnBuiltAddressesSpec)

/-- ITS FALSE NEIGHBOUR: 'it returns false'. Refute it at one input. -/
def fnPortIsNotANumberOnBuiltAddressesWrong : ChangeSpec := { name := "fnPortIsNotANumberOnBuiltAddresses", fn := fun _ => fun
  | [d1, d2, d3] => { results := [.lit (.bool false)], args := [d1, d2, d3] }
  | _ => none }
def FnPortIsNotANumberOnBuiltAddressesWrongFalsely : Prop := fnPortIsNotANumberOnBuiltAddressesRow.holds Tryd.pinned (OpenSpec.ofChange fnPortIsNotANumberOnBuiltAddressesWrong)

end Rows
end Go.Proofs.Qxb6000054aDoor
