/-
  DERIVED. GIVEN WITH THE SEED: THE CARDS: each row of Qxb6603029aDoorRows.lean that lists a variable, with what it lists TIED to the program's text (the seventh form; the later family's looks); each row that meets fmt, with fmt's text TOLD by the authors' own Lean function (tested against real Go, not proved from fmt's source: count such statements apart). THE CARD IS WHAT COUNTS. Prove the row's statement (the work); the ties are given (Qxb6603029aDoorTie.lean); close each card by the builder's one call (the guide's Derived/Test/ToyasCard.lean, 'card_holds'). Laid BY PROGRAM, IN A SANDBOX (cutbox-door.mjs). By AI agents, Wed Nov 11 2026. No macro, syntax, notation, axiom, sorry.
-/
import Derived.Test.Qxb6603029aDoorRows
import GoSem.ClaimSeven
namespace Go.Proofs.Qxb6603029aDoor
namespace Rows

/-- THE TIED CARD OF 'zzlaws_flags_b1.FnParseDecimalMatchesAutomaton'. -/
def fnParseDecimalMatchesAutomatonCard : Claim7 := { stood := { row := fnParseDecimalMatchesAutomatonRow, standIns := [], harness := (true, "d6059999017c21c9065e390003b0f24c0480261417fce989b4828656142d2994"), looks := false }, kinds := [], alts := [], laidByText := true, laidKinds := [.data, .pinned], laidTests := true, laidLooks := .later }
def FnParseDecimalMatchesAutomatonCardSaid : Prop := Claim7.holds Tryd.pinned (.plain (OpenSpec.ofChange fnParseDecimalMatchesAutomatonSpec)) fnParseDecimalMatchesAutomatonCard

/-- THE TIED CARD OF 'zzlaws_flags_b1.FnParseDecimalSignSymmetric'. -/
def fnParseDecimalSignSymmetricCard : Claim7 := { stood := { row := fnParseDecimalSignSymmetricRow, standIns := [], harness := (true, "d6059999017c21c9065e390003b0f24c0480261417fce989b4828656142d2994"), looks := false }, kinds := [], alts := [], laidByText := true, laidKinds := [.data, .pinned], laidTests := true, laidLooks := .later }
def FnParseDecimalSignSymmetricCardSaid : Prop := Claim7.holds Tryd.pinned (.plain (OpenSpec.ofChange fnParseDecimalSignSymmetricSpec)) fnParseDecimalSignSymmetricCard

/-- THE TIED CARD OF 'zzlaws_flags_b1.FnParseDecimalScientificFormReparses'. -/
def fnParseDecimalScientificFormReparsesCard : Claim7 := { stood := { row := fnParseDecimalScientificFormReparsesRow, standIns := [], harness := (true, "d6059999017c21c9065e390003b0f24c0480261417fce989b4828656142d2994"), looks := false }, kinds := [], alts := [], laidByText := true, laidKinds := [.data, .pinned], laidTests := true, laidLooks := .later }
def FnParseDecimalScientificFormReparsesCardSaid : Prop := Claim7.holds Tryd.pinned (.plain (OpenSpec.ofChange fnParseDecimalScientificFormReparsesSpec)) fnParseDecimalScientificFormReparsesCard

/-- THE TIED CARD OF 'zzlaws_flags_b1.FnParseExponentAgreesWithParseDecimal'. -/
def fnParseExponentAgreesWithParseDecimalCard : Claim7 := { stood := { row := fnParseExponentAgreesWithParseDecimalRow, standIns := [], harness := (true, "d6059999017c21c9065e390003b0f24c0480261417fce989b4828656142d2994"), looks := false }, kinds := [], alts := [], laidByText := true, laidKinds := [.data, .pinned], laidTests := true, laidLooks := .later }
def FnParseExponentAgreesWithParseDecimalCardSaid : Prop := Claim7.holds Tryd.pinned (.plain (OpenSpec.ofChange fnParseExponentAgreesWithParseDecimalSpec)) fnParseExponentAgreesWithParseDecimalCard

/-- THE TIED CARD OF 'zzlaws_flags_b1.FnDecimalIntegerReparsesToShiftedValue'. -/
def fnDecimalIntegerReparsesToShiftedValueCard : Claim7 := { stood := { row := fnDecimalIntegerReparsesToShiftedValueRow, standIns := [], harness := (true, "d6059999017c21c9065e390003b0f24c0480261417fce989b4828656142d2994"), looks := false }, kinds := [], alts := [], laidByText := true, laidKinds := [.data, .pinned], laidTests := true, laidLooks := .later }
def FnDecimalIntegerReparsesToShiftedValueCardSaid : Prop := Claim7.holds Tryd.pinned (.plain (OpenSpec.ofChange fnDecimalIntegerReparsesToShiftedValueSpec)) fnDecimalIntegerReparsesToShiftedValueCard
end Rows
end Go.Proofs.Qxb6603029aDoor
