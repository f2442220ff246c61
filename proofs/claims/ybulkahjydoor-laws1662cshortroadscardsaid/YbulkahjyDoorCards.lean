/-
  DERIVED. GIVEN WITH THE SEED: THE CARDS: each row of YbulkahjyDoorRows.lean that lists a variable, with what it lists TIED to the program's text (the seventh form; the later family's looks); each row that meets fmt, with fmt's text TOLD by the authors' own Lean function (tested against real Go, not proved from fmt's source: count such statements apart). THE CARD IS WHAT COUNTS. Prove the row's statement (the work); the ties are given (YbulkahjyDoorTie.lean); close each card by the builder's one call (the guide's Derived/Test/ToyasCard.lean, 'card_holds'). Laid BY PROGRAM, IN A SANDBOX (cutbox-door.mjs). By AI agents, Wed Nov 11 2026. No macro, syntax, notation, axiom, sorry.
-/
import Derived.Test.YbulkahjyDoorRows
import GoSem.ClaimSeven
namespace Go.Proofs.YbulkahjyDoor
namespace Rows

/-- THE TIED CARD OF 'knotcutter.LawS1662CShortRoads'. -/
def lawS1662CShortRoadsCard : Claim7 := { stood := { row := lawS1662CShortRoadsRow, standIns := [], harness := (true, "e8cfbd2594af4ccfdbedf0743e442bff4f5f30b45de43ef5c6fde78f71d77333"), looks := false }, kinds := [], alts := [], laidByText := true, laidKinds := [.wider], laidTests := true, laidLooks := .later }
def LawS1662CShortRoadsCardSaid : Prop := Claim7.holds Ybad.pinned (.plain (OpenSpec.ofChange lawS1662CShortRoadsSpec)) lawS1662CShortRoadsCard
end Rows
end Go.Proofs.YbulkahjyDoor
