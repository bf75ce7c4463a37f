/-
  DERIVED. GIVEN WITH THE SEED: THE CARDS: each row of Qxb6603514aDoorRows.lean that lists a variable, with what it lists TIED to the program's text (the seventh form; the later family's looks); each row that meets fmt, with fmt's text TOLD by the authors' own Lean function (tested against real Go, not proved from fmt's source: count such statements apart). THE CARD IS WHAT COUNTS. Prove the row's statement (the work); the ties are given (Qxb6603514aDoorTie.lean); close each card by the builder's one call (the guide's Derived/Test/ToyasCard.lean, 'card_holds'). Laid BY PROGRAM, IN A SANDBOX (cutbox-door.mjs). By AI agents, Wed Nov 11 2026. No macro, syntax, notation, axiom, sorry.
-/
import Derived.Test.Qxb6603514aDoorRows
import GoSem.ClaimSeven
namespace Go.Proofs.Qxb6603514aDoor
namespace Rows

/-- THE TIED CARD OF 'zzlaws_internal_jsontext_b1.FnRawWritesNameColonCompactText'. -/
def fnRawWritesNameColonCompactTextCard : Claim7 := { stood := { row := fnRawWritesNameColonCompactTextRow, standIns := [], harness := (true, "36c2d9240636fbdfaca14be96c7d5c66e88ce9f1d31f17eb2b4cd4e4a1aa7d2d"), looks := false }, kinds := [], alts := [], laidByText := true, laidKinds := [.data, .pinned], laidTests := true, laidLooks := .later }
def FnRawWritesNameColonCompactTextCardSaid : Prop := Claim7.holds Tryd.pinned (.plain (OpenSpec.ofChange fnRawWritesNameColonCompactTextSpec)) fnRawWritesNameColonCompactTextCard

/-- THE TIED CARD OF 'zzlaws_internal_jsontext_b1.FnRawThenEachReadsTheMembersBack'. -/
def fnRawThenEachReadsTheMembersBackCard : Claim7 := { stood := { row := fnRawThenEachReadsTheMembersBackRow, standIns := [], harness := (true, "36c2d9240636fbdfaca14be96c7d5c66e88ce9f1d31f17eb2b4cd4e4a1aa7d2d"), looks := false }, kinds := [], alts := [], laidByText := true, laidKinds := [.data, .pinned], laidTests := true, laidLooks := .later }
def FnRawThenEachReadsTheMembersBackCardSaid : Prop := Claim7.holds Tryd.pinned (.plain (OpenSpec.ofChange fnRawThenEachReadsTheMembersBackSpec)) fnRawThenEachReadsTheMembersBackCard
end Rows
end Go.Proofs.Qxb6603514aDoor
