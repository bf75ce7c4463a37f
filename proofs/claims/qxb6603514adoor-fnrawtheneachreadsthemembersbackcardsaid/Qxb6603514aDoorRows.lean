/-
  NARROWER THAN 'FOR EVERY INPUT', by the rows' own cells (each row's printed sentence says how): FnRawWritesNameColonCompactText: laid · FnRawThenEachReadsTheMembersBack: laid.
  DERIVED. THE GIVEN ROWS OF THIS SEAT. 2 by the template 'for every input the law returns true; each argument reads behind the call as it read before'; 0 by the template 'total and deterministic' (their statements: Qxb6603514aDoorTotals.lean).
  GIVEN WITH THE SEED: the statements are not yours to turn. If you find one false, say at which input.
  Laid BY PROGRAM, IN A SANDBOX (cutbox-rows.mjs): the forced cells as the released guide's own fill.sh prints them over the translation 868b65d591c16ed1… (all of the seat's roots in one cut). By AI agents, Wed Nov 11 2026. No macro, syntax, notation, axiom, sorry.
-/
import Derived.Test.Qxb6603514aDoorChecked
import GoSem.PinnedTables
import GoSem.Claim
import GoSem.ClaimJoined
import GoSem.ClaimMapViews
import Derived.JoinedTies
import Derived.KernelRfl
namespace Go.Proofs.Qxb6603514aDoor
/- THE CELL 'sum', in the pinned program and in every row, IS THE sha256 OF THE DUMP (.gsa) THAT Qxb6603514aDoorProg.lean LOADS. Nothing in Lean hashes anything: it is a label: what it is worth is what the hold of that sum in a sandbox is worth. -/
noncomputable def Tryd.pinned : Pinned := { name := "qxb6603514adoor", sum := "868b65d591c16ed1470d9685c157bae68d408b5c07e1be0777195d3f4713a0e7", checked := Tryd.checked }
namespace Rows
def none {H : Type} : Left H := { results := [], args := [] }

/- WHAT THE LISTED PACKAGE-LEVEL VARIABLES READ AS WHEN THE CALL BEGINS. Each datum BY PROGRAM (the guide's laid-datum.mjs) off the statement by which the dump's own 'gosem.cut.vars' lays the variable. In a bare row this is a premise. The card (Qxb6603514aDoorCards.lean) ties it to the program's text. -/
def laid_unicode_utf8_acceptRanges {H : Type} : DataW H := .agg [.agg [.lit (.int .u8 128), .lit (.int .u8 191)], .agg [.lit (.int .u8 160), .lit (.int .u8 191)], .agg [.lit (.int .u8 128), .lit (.int .u8 159)], .agg [.lit (.int .u8 144), .lit (.int .u8 191)], .agg [.lit (.int .u8 128), .lit (.int .u8 143)], .agg [.lit (.int .u8 0), .lit (.int .u8 0)], .agg [.lit (.int .u8 0), .lit (.int .u8 0)], .agg [.lit (.int .u8 0), .lit (.int .u8 0)], .agg [.lit (.int .u8 0), .lit (.int .u8 0)], .agg [.lit (.int .u8 0), .lit (.int .u8 0)], .agg [.lit (.int .u8 0), .lit (.int .u8 0)], .agg [.lit (.int .u8 0), .lit (.int .u8 0)], .agg [.lit (.int .u8 0), .lit (.int .u8 0)], .agg [.lit (.int .u8 0), .lit (.int .u8 0)], .agg [.lit (.int .u8 0), .lit (.int .u8 0)], .agg [.lit (.int .u8 0), .lit (.int .u8 0)]]
/-- One of Go's own tables, pinned by name: the form's constant. -/
def laid_unicode_utf8_first : DataW Unit := Go.Pinned.utf8First

/-- 'zzlaws_internal_jsontext_b1.FnRawWritesNameColonCompactText': WHATEVER THE INPUT: true; the input reads as it did. -/
def fnRawWritesNameColonCompactTextSpec : ChangeSpec := { name := "fnRawWritesNameColonCompactText", fn := fun _ => fun
  | [d] => { results := [.lit (.bool true)], args := [d] }
  | _ => none }
def fnRawWritesNameColonCompactTextRow : OpenClaim := { program := "qxb6603514adoor", sum := "868b65d591c16ed1470d9685c157bae68d408b5c07e1be0777195d3f4713a0e7", func := "example.com/querent/querent/zzlaws_internal_jsontext_b1.FnRawWritesNameColonCompactText", spec := "fnRawWritesNameColonCompactText", named := ["unicode/utf8.first", "unicode/utf8.acceptRanges"], apart := false, laid := [("unicode/utf8.acceptRanges", laid_unicode_utf8_acceptRanges), ("unicode/utf8.first", laid_unicode_utf8_first)] }
def FnRawWritesNameColonCompactTextSaid : Prop := fnRawWritesNameColonCompactTextRow.holds Tryd.pinned (OpenSpec.ofChange fnRawWritesNameColonCompactTextSpec)

/-- ITS FALSE NEIGHBOUR: 'it returns false'. Refute it at one input. -/
def fnRawWritesNameColonCompactTextWrong : ChangeSpec := { name := "fnRawWritesNameColonCompactText", fn := fun _ => fun
  | [d] => { results := [.lit (.bool false)], args := [d] }
  | _ => none }
def FnRawWritesNameColonCompactTextWrongFalsely : Prop := fnRawWritesNameColonCompactTextRow.holds Tryd.pinned (OpenSpec.ofChange fnRawWritesNameColonCompactTextWrong)

/-- 'zzlaws_internal_jsontext_b1.FnRawThenEachReadsTheMembersBack': WHATEVER THE INPUT: true; the input reads as it did. -/
def fnRawThenEachReadsTheMembersBackSpec : ChangeSpec := { name := "fnRawThenEachReadsTheMembersBack", fn := fun _ => fun
  | [d] => { results := [.lit (.bool true)], args := [d] }
  | _ => none }
def fnRawThenEachReadsTheMembersBackRow : OpenClaim := { program := "qxb6603514adoor", sum := "868b65d591c16ed1470d9685c157bae68d408b5c07e1be0777195d3f4713a0e7", func := "example.com/querent/querent/zzlaws_internal_jsontext_b1.FnRawThenEachReadsTheMembersBack", spec := "fnRawThenEachReadsTheMembersBack", unfollowed := true, recurses := true, named := ["unicode/utf8.first", "unicode/utf8.acceptRanges"], apart := false, laid := [("unicode/utf8.acceptRanges", laid_unicode_utf8_acceptRanges), ("unicode/utf8.first", laid_unicode_utf8_first)] }
def FnRawThenEachReadsTheMembersBackSaid : Prop := fnRawThenEachReadsTheMembersBackRow.holds Tryd.pinned (OpenSpec.ofChange fnRawThenEachReadsTheMembersBackSpec)

/-- ITS FALSE NEIGHBOUR: 'it returns false'. Refute it at one input. -/
def fnRawThenEachReadsTheMembersBackWrong : ChangeSpec := { name := "fnRawThenEachReadsTheMembersBack", fn := fun _ => fun
  | [d] => { results := [.lit (.bool false)], args := [d] }
  | _ => none }
def FnRawThenEachReadsTheMembersBackWrongFalsely : Prop := fnRawThenEachReadsTheMembersBackRow.holds Tryd.pinned (OpenSpec.ofChange fnRawThenEachReadsTheMembersBackWrong)

end Rows
end Go.Proofs.Qxb6603514aDoor
