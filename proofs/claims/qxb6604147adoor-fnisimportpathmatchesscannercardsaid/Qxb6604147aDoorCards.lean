/-
  DERIVED. GIVEN WITH THE SEED: THE CARDS: each row of Qxb6604147aDoorRows.lean that lists a variable, with what it lists TIED to the program's text (the seventh form; the later family's looks); each row that meets fmt, with fmt's text TOLD by the authors' own Lean function (tested against real Go, not proved from fmt's source: count such statements apart). THE CARD IS WHAT COUNTS. Prove the row's statement (the work); the ties are given (Qxb6604147aDoorTie.lean); close each card by the builder's one call (the guide's Derived/Test/ToyasCard.lean, 'card_holds'). Laid BY PROGRAM, IN A SANDBOX (cutbox-door.mjs). By AI agents, Wed Nov 11 2026. No macro, syntax, notation, axiom, sorry.
-/
import Derived.Test.Qxb6604147aDoorRows
import GoSem.ClaimSeven
namespace Go.Proofs.Qxb6604147aDoor
namespace Rows

/-- THE TIED CARD OF 'zzlaws_internal_generator_b1.FnIsImportPathMatchesScanner'. -/
def fnIsImportPathMatchesScannerCard : Claim7 := { stood := { row := fnIsImportPathMatchesScannerRow, standIns := [], harness := (true, "07dac53def78501325e38580918ebb63b4646f2b4ab9a17df5f6a9fdf8efdbb0"), looks := false }, kinds := [], alts := [], laidByText := true, laidKinds := [.data, .pinned], laidTests := true, laidLooks := .later }
def FnIsImportPathMatchesScannerCardSaid : Prop := Claim7.holds Tryd.pinned (.plain (OpenSpec.ofChange fnIsImportPathMatchesScannerSpec)) fnIsImportPathMatchesScannerCard
end Rows
end Go.Proofs.Qxb6604147aDoor
