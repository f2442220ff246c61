/-
  DERIVED. GIVEN WITH THE SEED: THE CARDS: each row of YbulkahiiFmtRows.lean that lists a variable, with what it lists TIED to the program's text (the seventh form; the later family's looks); each row that meets fmt, with fmt's text TOLD by the authors' own Lean function (tested against real Go, not proved from fmt's source: count such statements apart). THE CARD IS WHAT COUNTS. Prove the row's statement (the work); the ties are given (YbulkahiiFmtTie.lean); close each card by the builder's one call (the guide's Derived/Test/ToyasCard.lean, 'card_holds'). Laid BY PROGRAM, IN A SANDBOX (cutbox-door.mjs). By AI agents, Wed Nov 11 2026. No macro, syntax, notation, axiom, sorry.
-/
import Derived.Test.YbulkahiiFmtRows
import GoSem.ClaimSeven
namespace Go.Proofs.YbulkahiiFmt
namespace Rows

/-- THE TOLD CARD OF 'ringwright.LawS1659CMatch'. -/
def lawS1659CMatchCard : Claim7 := { stood := { row := lawS1659CMatchRow, standIns := [], harness := (true, "a9432422595c0a73af1b9dd2cd93d9f29c6636811737d9d7fd32825b9664b6b3"), looks := false }, told := true, goes := false }
def LawS1659CMatchToldSaid : Prop := Claim7.holds Ybaf.pinned (.plain (OpenSpec.ofChange lawS1659CMatchSpec)) lawS1659CMatchCard
/-- ITS FALSE NEIGHBOUR. Refute it at one input. -/
def LawS1659CMatchToldWrongFalsely : Prop := Claim7.holds Ybaf.pinned (.plain (OpenSpec.ofChange lawS1659CMatchWrong)) lawS1659CMatchCard

/-- THE TOLD CARD OF 'ringwright.LawS1659CSame'. -/
def lawS1659CSameCard : Claim7 := { stood := { row := lawS1659CSameRow, standIns := [], harness := (true, "a9432422595c0a73af1b9dd2cd93d9f29c6636811737d9d7fd32825b9664b6b3"), looks := false }, told := true, goes := false }
def LawS1659CSameToldSaid : Prop := Claim7.holds Ybaf.pinned (.plain (OpenSpec.ofChange lawS1659CSameSpec)) lawS1659CSameCard
/-- ITS FALSE NEIGHBOUR. Refute it at one input. -/
def LawS1659CSameToldWrongFalsely : Prop := Claim7.holds Ybaf.pinned (.plain (OpenSpec.ofChange lawS1659CSameWrong)) lawS1659CSameCard

/-- THE TOLD CARD OF 'ringwright.LawS1659COneByte'. -/
def lawS1659COneByteCard : Claim7 := { stood := { row := lawS1659COneByteRow, standIns := [], harness := (true, "a9432422595c0a73af1b9dd2cd93d9f29c6636811737d9d7fd32825b9664b6b3"), looks := false }, told := true, goes := false }
def LawS1659COneByteToldSaid : Prop := Claim7.holds Ybaf.pinned (.plain (OpenSpec.ofChange lawS1659COneByteSpec)) lawS1659COneByteCard
/-- ITS FALSE NEIGHBOUR. Refute it at one input. -/
def LawS1659COneByteToldWrongFalsely : Prop := Claim7.holds Ybaf.pinned (.plain (OpenSpec.ofChange lawS1659COneByteWrong)) lawS1659COneByteCard
end Rows
end Go.Proofs.YbulkahiiFmt
