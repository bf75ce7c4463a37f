/-
  NARROWER THAN 'FOR EVERY INPUT', by the rows' own cells (each row's printed sentence says how): FnParseDecimalMatchesModel: laid · FnParseDecimalExponentShifts: laid.
  DERIVED. THE GIVEN ROWS OF THIS SEAT. 2 by the template 'for every input the law returns true; each argument reads behind the call as it read before'; 0 by the template 'total and deterministic' (their statements: Qxb6603262aDoorTotals.lean).
  GIVEN WITH THE SEED: the statements are not yours to turn. If you find one false, say at which input.
  Laid BY PROGRAM, IN A SANDBOX (cutbox-rows.mjs): the forced cells as the released guide's own fill.sh prints them over the translation 7b0874f7db4eb6e6… (all of the seat's roots in one cut). By AI agents, Wed Nov 11 2026. No macro, syntax, notation, axiom, sorry.
-/
import Derived.Test.Qxb6603262aDoorChecked
import GoSem.PinnedTables
import GoSem.Claim
import GoSem.ClaimJoined
import GoSem.ClaimMapViews
import Derived.JoinedTies
import Derived.KernelRfl
namespace Go.Proofs.Qxb6603262aDoor
/- THE CELL 'sum', in the pinned program and in every row, IS THE sha256 OF THE DUMP (.gsa) THAT Qxb6603262aDoorProg.lean LOADS. Nothing in Lean hashes anything: it is a label: what it is worth is what the hold of that sum in a sandbox is worth. -/
noncomputable def Tryd.pinned : Pinned := { name := "qxb6603262adoor", sum := "7b0874f7db4eb6e6360649b5695225c49316a55f32f63a7fe574e73e46a54529", checked := Tryd.checked }
namespace Rows
def none {H : Type} : Left H := { results := [], args := [] }

/- WHAT THE LISTED PACKAGE-LEVEL VARIABLES READ AS WHEN THE CALL BEGINS. Each datum BY PROGRAM (the guide's laid-datum.mjs) off the statement by which the dump's own 'gosem.cut.vars' lays the variable. In a bare row this is a premise. The card (Qxb6603262aDoorCards.lean) ties it to the program's text. -/
def laid_unicode_utf8_acceptRanges {H : Type} : DataW H := .agg [.agg [.lit (.int .u8 128), .lit (.int .u8 191)], .agg [.lit (.int .u8 160), .lit (.int .u8 191)], .agg [.lit (.int .u8 128), .lit (.int .u8 159)], .agg [.lit (.int .u8 144), .lit (.int .u8 191)], .agg [.lit (.int .u8 128), .lit (.int .u8 143)], .agg [.lit (.int .u8 0), .lit (.int .u8 0)], .agg [.lit (.int .u8 0), .lit (.int .u8 0)], .agg [.lit (.int .u8 0), .lit (.int .u8 0)], .agg [.lit (.int .u8 0), .lit (.int .u8 0)], .agg [.lit (.int .u8 0), .lit (.int .u8 0)], .agg [.lit (.int .u8 0), .lit (.int .u8 0)], .agg [.lit (.int .u8 0), .lit (.int .u8 0)], .agg [.lit (.int .u8 0), .lit (.int .u8 0)], .agg [.lit (.int .u8 0), .lit (.int .u8 0)], .agg [.lit (.int .u8 0), .lit (.int .u8 0)], .agg [.lit (.int .u8 0), .lit (.int .u8 0)]]
/-- One of Go's own tables, pinned by name: the form's constant. -/
def laid_unicode_CaseRanges : DataW Unit := Go.Pinned.caseRanges
/-- One of Go's own tables, pinned by name: the form's constant. -/
def laid_unicode_utf8_first : DataW Unit := Go.Pinned.utf8First

/-- 'zzlaws_internal_jsonvalue_b1.FnParseDecimalMatchesModel': WHATEVER THE INPUT: true; the input reads as it did. -/
def fnParseDecimalMatchesModelSpec : ChangeSpec := { name := "fnParseDecimalMatchesModel", fn := fun _ => fun
  | [d] => { results := [.lit (.bool true)], args := [d] }
  | _ => none }
def fnParseDecimalMatchesModelRow : OpenClaim := { program := "qxb6603262adoor", sum := "7b0874f7db4eb6e6360649b5695225c49316a55f32f63a7fe574e73e46a54529", func := "example.com/evidra/evidra/zzlaws_internal_jsonvalue_b1.FnParseDecimalMatchesModel", spec := "fnParseDecimalMatchesModel", inPlace := ["internal/abi.NoEscape", "internal/bytealg.MakeNoZero", "internal/bytealg.IndexByteString", "internal/bytealg.IndexString"], unfollowed := true, recurses := true, named := ["unicode/utf8.first", "unicode/utf8.acceptRanges", "unicode.CaseRanges", "internal/bytealg.MaxLen"], apart := false, laid := [("unicode/utf8.acceptRanges", laid_unicode_utf8_acceptRanges), ("unicode.CaseRanges", laid_unicode_CaseRanges), ("unicode/utf8.first", laid_unicode_utf8_first)] }
def FnParseDecimalMatchesModelSaid : Prop := fnParseDecimalMatchesModelRow.holds Tryd.pinned (OpenSpec.ofChange fnParseDecimalMatchesModelSpec)

/-- ITS FALSE NEIGHBOUR: 'it returns false'. Refute it at one input. -/
def fnParseDecimalMatchesModelWrong : ChangeSpec := { name := "fnParseDecimalMatchesModel", fn := fun _ => fun
  | [d] => { results := [.lit (.bool false)], args := [d] }
  | _ => none }
def FnParseDecimalMatchesModelWrongFalsely : Prop := fnParseDecimalMatchesModelRow.holds Tryd.pinned (OpenSpec.ofChange fnParseDecimalMatchesModelWrong)

/-- 'zzlaws_internal_jsonvalue_b1.FnParseDecimalExponentShifts': WHATEVER THE INPUT: true; the input reads as it did. -/
def fnParseDecimalExponentShiftsSpec : ChangeSpec := { name := "fnParseDecimalExponentShifts", fn := fun _ => fun
  | [d1, d2, d3] => { results := [.lit (.bool true)], args := [d1, d2, d3] }
  | _ => none }
def fnParseDecimalExponentShiftsRow : OpenClaim := { program := "qxb6603262adoor", sum := "7b0874f7db4eb6e6360649b5695225c49316a55f32f63a7fe574e73e46a54529", func := "example.com/evidra/evidra/zzlaws_internal_jsonvalue_b1.FnParseDecimalExponentShifts", spec := "fnParseDecimalExponentShifts", inPlace := ["internal/abi.NoEscape", "internal/bytealg.MakeNoZero", "internal/bytealg.IndexByteString", "internal/bytealg.IndexString"], unfollowed := true, recurses := true, named := ["unicode/utf8.first", "unicode/utf8.acceptRanges", "unicode.CaseRanges", "internal/bytealg.MaxLen"], apart := false, laid := [("unicode/utf8.acceptRanges", laid_unicode_utf8_acceptRanges), ("unicode.CaseRanges", laid_unicode_CaseRanges), ("unicode/utf8.first", laid_unicode_utf8_first)] }
def FnParseDecimalExponentShiftsSaid : Prop := fnParseDecimalExponentShiftsRow.holds Tryd.pinned (OpenSpec.ofChange fnParseDecimalExponentShiftsSpec)

/-- ITS FALSE NEIGHBOUR: 'it returns false'. Refute it at one input. -/
def fnParseDecimalExponentShiftsWrong : ChangeSpec := { name := "fnParseDecimalExponentShifts", fn := fun _ => fun
  | [d1, d2, d3] => { results := [.lit (.bool false)], args := [d1, d2, d3] }
  | _ => none }
def FnParseDecimalExponentShiftsWrongFalsely : Prop := fnParseDecimalExponentShiftsRow.holds Tryd.pinned (OpenSpec.ofChange fnParseDecimalExponentShiftsWrong)

end Rows
end Go.Proofs.Qxb6603262aDoor
