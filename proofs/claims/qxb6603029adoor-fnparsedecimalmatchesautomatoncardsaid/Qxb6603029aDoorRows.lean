/-
  NARROWER THAN 'FOR EVERY INPUT', by the rows' own cells (each row's printed sentence says how): FnParseDecimalMatchesAutomaton: laid · FnParseDecimalSignSymmetric: laid · FnParseDecimalScientificFormReparses: laid · FnParseExponentAgreesWithParseDecimal: laid · FnDecimalIntegerReparsesToShiftedValue: laid.
  DERIVED. THE GIVEN ROWS OF THIS SEAT. 5 by the template 'for every input the law returns true; each argument reads behind the call as it read before'; 0 by the template 'total and deterministic' (their statements: Qxb6603029aDoorTotals.lean).
  GIVEN WITH THE SEED: the statements are not yours to turn. If you find one false, say at which input.
  Laid BY PROGRAM, IN A SANDBOX (cutbox-rows.mjs): the forced cells as the released guide's own fill.sh prints them over the translation 1d8387f986ce6666… (all of the seat's roots in one cut). By AI agents, Wed Nov 11 2026. No macro, syntax, notation, axiom, sorry.
-/
import Derived.Test.Qxb6603029aDoorChecked
import GoSem.PinnedTables
import GoSem.Claim
import GoSem.ClaimJoined
import GoSem.ClaimMapViews
import Derived.JoinedTies
import Derived.KernelRfl
namespace Go.Proofs.Qxb6603029aDoor
/- THE CELL 'sum', in the pinned program and in every row, IS THE sha256 OF THE DUMP (.gsa) THAT Qxb6603029aDoorProg.lean LOADS. Nothing in Lean hashes anything: it is a label: what it is worth is what the hold of that sum in a sandbox is worth. -/
noncomputable def Tryd.pinned : Pinned := { name := "qxb6603029adoor", sum := "1d8387f986ce66665704d0762a220573ba22795cbbc6dda3b87d7f949958ba1d", checked := Tryd.checked }
namespace Rows
def none {H : Type} : Left H := { results := [], args := [] }

/- WHAT THE LISTED PACKAGE-LEVEL VARIABLES READ AS WHEN THE CALL BEGINS. Each datum BY PROGRAM (the guide's laid-datum.mjs) off the statement by which the dump's own 'gosem.cut.vars' lays the variable. In a bare row this is a premise. The card (Qxb6603029aDoorCards.lean) ties it to the program's text. -/
def laid_unicode_utf8_acceptRanges {H : Type} : DataW H := .agg [.agg [.lit (.int .u8 128), .lit (.int .u8 191)], .agg [.lit (.int .u8 160), .lit (.int .u8 191)], .agg [.lit (.int .u8 128), .lit (.int .u8 159)], .agg [.lit (.int .u8 144), .lit (.int .u8 191)], .agg [.lit (.int .u8 128), .lit (.int .u8 143)], .agg [.lit (.int .u8 0), .lit (.int .u8 0)], .agg [.lit (.int .u8 0), .lit (.int .u8 0)], .agg [.lit (.int .u8 0), .lit (.int .u8 0)], .agg [.lit (.int .u8 0), .lit (.int .u8 0)], .agg [.lit (.int .u8 0), .lit (.int .u8 0)], .agg [.lit (.int .u8 0), .lit (.int .u8 0)], .agg [.lit (.int .u8 0), .lit (.int .u8 0)], .agg [.lit (.int .u8 0), .lit (.int .u8 0)], .agg [.lit (.int .u8 0), .lit (.int .u8 0)], .agg [.lit (.int .u8 0), .lit (.int .u8 0)], .agg [.lit (.int .u8 0), .lit (.int .u8 0)]]
/-- One of Go's own tables, pinned by name: the form's constant. -/
def laid_unicode_utf8_first : DataW Unit := Go.Pinned.utf8First

/-- 'zzlaws_flags_b1.FnParseDecimalMatchesAutomaton': WHATEVER THE INPUT: true; the input reads as it did. -/
def fnParseDecimalMatchesAutomatonSpec : ChangeSpec := { name := "fnParseDecimalMatchesAutomaton", fn := fun _ => fun
  | [d] => { results := [.lit (.bool true)], args := [d] }
  | _ => none }
def fnParseDecimalMatchesAutomatonRow : OpenClaim := { program := "qxb6603029adoor", sum := "1d8387f986ce66665704d0762a220573ba22795cbbc6dda3b87d7f949958ba1d", func := "example.com/norn/norn/zzlaws_flags_b1.FnParseDecimalMatchesAutomaton", spec := "fnParseDecimalMatchesAutomaton", inPlace := ["internal/bytealg.IndexByteString", "internal/bytealg.IndexString"], named := ["unicode/utf8.first", "unicode/utf8.acceptRanges", "internal/bytealg.MaxLen"], apart := false, laid := [("unicode/utf8.acceptRanges", laid_unicode_utf8_acceptRanges), ("unicode/utf8.first", laid_unicode_utf8_first)] }
def FnParseDecimalMatchesAutomatonSaid : Prop := fnParseDecimalMatchesAutomatonRow.holds Tryd.pinned (OpenSpec.ofChange fnParseDecimalMatchesAutomatonSpec)

/-- ITS FALSE NEIGHBOUR: 'it returns false'. Refute it at one input. -/
def fnParseDecimalMatchesAutomatonWrong : ChangeSpec := { name := "fnParseDecimalMatchesAutomaton", fn := fun _ => fun
  | [d] => { results := [.lit (.bool false)], args := [d] }
  | _ => none }
def FnParseDecimalMatchesAutomatonWrongFalsely : Prop := fnParseDecimalMatchesAutomatonRow.holds Tryd.pinned (OpenSpec.ofChange fnParseDecimalMatchesAutomatonWrong)

/-- 'zzlaws_flags_b1.FnParseDecimalSignSymmetric': WHATEVER THE INPUT: true; the input reads as it did. -/
def fnParseDecimalSignSymmetricSpec : ChangeSpec := { name := "fnParseDecimalSignSymmetric", fn := fun _ => fun
  | [d] => { results := [.lit (.bool true)], args := [d] }
  | _ => none }
def fnParseDecimalSignSymmetricRow : OpenClaim := { program := "qxb6603029adoor", sum := "1d8387f986ce66665704d0762a220573ba22795cbbc6dda3b87d7f949958ba1d", func := "example.com/norn/norn/zzlaws_flags_b1.FnParseDecimalSignSymmetric", spec := "fnParseDecimalSignSymmetric", inPlace := ["internal/bytealg.IndexByteString", "internal/bytealg.IndexString"], named := ["unicode/utf8.first", "unicode/utf8.acceptRanges", "internal/bytealg.MaxLen"], apart := false, laid := [("unicode/utf8.acceptRanges", laid_unicode_utf8_acceptRanges), ("unicode/utf8.first", laid_unicode_utf8_first)] }
def FnParseDecimalSignSymmetricSaid : Prop := fnParseDecimalSignSymmetricRow.holds Tryd.pinned (OpenSpec.ofChange fnParseDecimalSignSymmetricSpec)

/-- ITS FALSE NEIGHBOUR: 'it returns false'. Refute it at one input. -/
def fnParseDecimalSignSymmetricWrong : ChangeSpec := { name := "fnParseDecimalSignSymmetric", fn := fun _ => fun
  | [d] => { results := [.lit (.bool false)], args := [d] }
  | _ => none }
def FnParseDecimalSignSymmetricWrongFalsely : Prop := fnParseDecimalSignSymmetricRow.holds Tryd.pinned (OpenSpec.ofChange fnParseDecimalSignSymmetricWrong)

/-- 'zzlaws_flags_b1.FnParseDecimalScientificFormReparses': WHATEVER THE INPUT: true; the input reads as it did. -/
def fnParseDecimalScientificFormReparsesSpec : ChangeSpec := { name := "fnParseDecimalScientificFormReparses", fn := fun _ => fun
  | [d] => { results := [.lit (.bool true)], args := [d] }
  | _ => none }
def fnParseDecimalScientificFormReparsesRow : OpenClaim := { program := "qxb6603029adoor", sum := "1d8387f986ce66665704d0762a220573ba22795cbbc6dda3b87d7f949958ba1d", func := "example.com/norn/norn/zzlaws_flags_b1.FnParseDecimalScientificFormReparses", spec := "fnParseDecimalScientificFormReparses", inPlace := ["internal/bytealg.IndexByteString", "internal/bytealg.IndexString"], named := ["unicode/utf8.first", "unicode/utf8.acceptRanges", "internal/bytealg.MaxLen"], apart := false, laid := [("unicode/utf8.acceptRanges", laid_unicode_utf8_acceptRanges), ("unicode/utf8.first", laid_unicode_utf8_first)] }
def FnParseDecimalScientificFormReparsesSaid : Prop := fnParseDecimalScientificFormReparsesRow.holds Tryd.pinned (OpenSpec.ofChange fnParseDecimalScientificFormReparsesSpec)

/-- ITS FALSE NEIGHBOUR: 'it returns false'. Refute it at one input. -/
def fnParseDecimalScientificFormReparsesWrong : ChangeSpec := { name := "fnParseDecimalScientificFormReparses", fn := fun _ => fun
  | [d] => { results := [.lit (.bool false)], args := [d] }
  | _ => none }
def FnParseDecimalScientificFormReparsesWrongFalsely : Prop := fnParseDecimalScientificFormReparsesRow.holds Tryd.pinned (OpenSpec.ofChange fnParseDecimalScientificFormReparsesWrong)

/-- 'zzlaws_flags_b1.FnParseExponentAgreesWithParseDecimal': WHATEVER THE INPUT: true; the input reads as it did. -/
def fnParseExponentAgreesWithParseDecimalSpec : ChangeSpec := { name := "fnParseExponentAgreesWithParseDecimal", fn := fun _ => fun
  | [d] => { results := [.lit (.bool true)], args := [d] }
  | _ => none }
def fnParseExponentAgreesWithParseDecimalRow : OpenClaim := { program := "qxb6603029adoor", sum := "1d8387f986ce66665704d0762a220573ba22795cbbc6dda3b87d7f949958ba1d", func := "example.com/norn/norn/zzlaws_flags_b1.FnParseExponentAgreesWithParseDecimal", spec := "fnParseExponentAgreesWithParseDecimal", inPlace := ["internal/bytealg.IndexByteString", "internal/bytealg.IndexString"], named := ["unicode/utf8.first", "unicode/utf8.acceptRanges", "internal/bytealg.MaxLen"], apart := false, laid := [("unicode/utf8.acceptRanges", laid_unicode_utf8_acceptRanges), ("unicode/utf8.first", laid_unicode_utf8_first)] }
def FnParseExponentAgreesWithParseDecimalSaid : Prop := fnParseExponentAgreesWithParseDecimalRow.holds Tryd.pinned (OpenSpec.ofChange fnParseExponentAgreesWithParseDecimalSpec)

/-- ITS FALSE NEIGHBOUR: 'it returns false'. Refute it at one input. -/
def fnParseExponentAgreesWithParseDecimalWrong : ChangeSpec := { name := "fnParseExponentAgreesWithParseDecimal", fn := fun _ => fun
  | [d] => { results := [.lit (.bool false)], args := [d] }
  | _ => none }
def FnParseExponentAgreesWithParseDecimalWrongFalsely : Prop := fnParseExponentAgreesWithParseDecimalRow.holds Tryd.pinned (OpenSpec.ofChange fnParseExponentAgreesWithParseDecimalWrong)

/-- 'zzlaws_flags_b1.FnDecimalIntegerReparsesToShiftedValue': WHATEVER THE INPUT: true; the input reads as it did. -/
def fnDecimalIntegerReparsesToShiftedValueSpec : ChangeSpec := { name := "fnDecimalIntegerReparsesToShiftedValue", fn := fun _ => fun
  | [d1, d2, d3] => { results := [.lit (.bool true)], args := [d1, d2, d3] }
  | _ => none }
def fnDecimalIntegerReparsesToShiftedValueRow : OpenClaim := { program := "qxb6603029adoor", sum := "1d8387f986ce66665704d0762a220573ba22795cbbc6dda3b87d7f949958ba1d", func := "example.com/norn/norn/zzlaws_flags_b1.FnDecimalIntegerReparsesToShiftedValue", spec := "fnDecimalIntegerReparsesToShiftedValue", inPlace := ["internal/bytealg.IndexByteString", "internal/bytealg.IndexString", "internal/abi.NoEscape", "internal/bytealg.MakeNoZero"], named := ["unicode/utf8.first", "unicode/utf8.acceptRanges", "internal/bytealg.MaxLen"], apart := false, laid := [("unicode/utf8.acceptRanges", laid_unicode_utf8_acceptRanges), ("unicode/utf8.first", laid_unicode_utf8_first)] }
def FnDecimalIntegerReparsesToShiftedValueSaid : Prop := fnDecimalIntegerReparsesToShiftedValueRow.holds Tryd.pinned (OpenSpec.ofChange fnDecimalIntegerReparsesToShiftedValueSpec)

/-- ITS FALSE NEIGHBOUR: 'it returns false'. Refute it at one input. -/
def fnDecimalIntegerReparsesToShiftedValueWrong : ChangeSpec := { name := "fnDecimalIntegerReparsesToShiftedValue", fn := fun _ => fun
  | [d1, d2, d3] => { results := [.lit (.bool false)], args := [d1, d2, d3] }
  | _ => none }
def FnDecimalIntegerReparsesToShiftedValueWrongFalsely : Prop := fnDecimalIntegerReparsesToShiftedValueRow.holds Tryd.pinned (OpenSpec.ofChange fnDecimalIntegerReparsesToShiftedValueWrong)

end Rows
end Go.Proofs.Qxb6603029aDoor
