/-
  DERIVED. GIVEN WITH THE SEED: THE CARDS: each row of Qxb6603262aDoorRows.lean that lists a variable, with what it lists TIED to the program's text (the seventh form; the later family's looks); each row that meets fmt, with fmt's text TOLD by the authors' own Lean function (tested against real Go, not proved from fmt's source: count such statements apart). THE CARD IS WHAT COUNTS. Prove the row's statement (the work); the ties are given (Qxb6603262aDoorTie.lean); close each card by the builder's one call (the guide's Derived/Test/ToyasCard.lean, 'card_holds'). Laid BY PROGRAM, IN A SANDBOX (cutbox-door.mjs). By AI agents, Wed Nov 11 2026. No macro, syntax, notation, axiom, sorry.
-/
import Derived.Test.Qxb6603262aDoorRows
import GoSem.ClaimSeven
namespace Go.Proofs.Qxb6603262aDoor
namespace Rows

/-- THE TIED CARD OF 'zzlaws_internal_jsonvalue_b1.FnParseDecimalMatchesModel'. -/
def fnParseDecimalMatchesModelCard : Claim7 := { stood := { row := fnParseDecimalMatchesModelRow, standIns := [], harness := (true, "632877235042d6c8e608aac2ef7d75e387a90fc4316ec1320f37c4b2d927e9e8"), looks := false }, kinds := [], alts := [], laidByText := true, laidKinds := [.data, .pinned, .pinned], laidTests := true, laidLooks := .later }
def FnParseDecimalMatchesModelCardSaid : Prop := Claim7.holds Tryd.pinned (.plain (OpenSpec.ofChange fnParseDecimalMatchesModelSpec)) fnParseDecimalMatchesModelCard

/-- THE TIED CARD OF 'zzlaws_internal_jsonvalue_b1.FnParseDecimalExponentShifts'. -/
def fnParseDecimalExponentShiftsCard : Claim7 := { stood := { row := fnParseDecimalExponentShiftsRow, standIns := [], harness := (true, "632877235042d6c8e608aac2ef7d75e387a90fc4316ec1320f37c4b2d927e9e8"), looks := false }, kinds := [], alts := [], laidByText := true, laidKinds := [.data, .pinned, .pinned], laidTests := true, laidLooks := .later }
def FnParseDecimalExponentShiftsCardSaid : Prop := Claim7.holds Tryd.pinned (.plain (OpenSpec.ofChange fnParseDecimalExponentShiftsSpec)) fnParseDecimalExponentShiftsCard
end Rows
end Go.Proofs.Qxb6603262aDoor
