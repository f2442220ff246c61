/-
  NARROWER THAN 'FOR EVERY INPUT', by the rows' own cells (each row's printed sentence says how): LawS1662CShortRoads: laid.
  DERIVED. THE GIVEN ROWS OF THIS SEAT. 1 by the template 'for every input the law returns true; each argument reads behind the call as it read before'; 0 by the template 'total and deterministic' (their statements: YbulkahjyDoorTotals.lean).
  GIVEN WITH THE SEED: the statements are not yours to turn. If you find one false, say at which input.
  Laid BY PROGRAM, IN A SANDBOX (cutbox-rows.mjs): the forced cells as the released guide's own fill.sh prints them over the translation 6f8fa94995d69791… (all of the seat's roots in one cut). By AI agents, Wed Nov 11 2026. No macro, syntax, notation, axiom, sorry.
-/
import Derived.Test.YbulkahjyDoorChecked
import GoSem.Claim
import GoSem.ClaimJoined
import GoSem.ClaimMapViews
import Derived.JoinedTies
import Derived.KernelRfl
namespace Go.Proofs.YbulkahjyDoor
/- THE CELL 'sum', in the pinned program and in every row, IS THE sha256 OF THE DUMP (.gsa) THAT YbulkahjyDoorProg.lean LOADS. Nothing in Lean hashes anything: it is a label: what it is worth is what the hold of that sum in a sandbox is worth. -/
noncomputable def Ybad.pinned : Pinned := { name := "ybulkahjydoor", sum := "6f8fa94995d69791b82f5fb5a8b391d85fae5c36f1b9c8404178b05802bb3427", checked := Ybad.checked }
namespace Rows
def none {H : Type} : Left H := { results := [], args := [] }

/- WHAT THE LISTED PACKAGE-LEVEL VARIABLES READ AS WHEN THE CALL BEGINS. Each datum BY PROGRAM (the guide's laid-datum.mjs) off the statement by which the dump's own 'gosem.cut.vars' lays the variable. In a bare row this is a premise. The card (YbulkahjyDoorCards.lean) ties it to the program's text. -/
def laid_example_com_knotcutter_knotcutter_modes {H : Type} : DataW H := .agg [.agg [.lit (.string []), .lit (.int .u8 0), .lit (.int .i64 0)], .agg [.lit (.string [115, 104, 97, 114, 101, 100]), .lit (.int .u8 4), .lit (.int .i64 1)], .agg [.lit (.string [101, 120, 99, 108, 117, 115, 105, 118, 101]), .lit (.int .u8 6), .lit (.int .i64 0)]]

/-- 'knotcutter.LawS1662CShortRoads': WHATEVER THE INPUT: true; the input reads as it did. -/
def lawS1662CShortRoadsSpec : ChangeSpec := { name := "lawS1662CShortRoads", vars := ["example.com/knotcutter/knotcutter.modes"], fn := fun _ => fun
  | [d1, d2, d3, d4, g1] => { results := [.lit (.bool true)], args := [d1, d2, d3, d4], vars := [g1] }
  | _ => none }
def lawS1662CShortRoadsRow : OpenClaim := { program := "ybulkahjydoor", sum := "6f8fa94995d69791b82f5fb5a8b391d85fae5c36f1b9c8404178b05802bb3427", func := "example.com/knotcutter/knotcutter.LawS1662CShortRoads", spec := "lawS1662CShortRoads", unfollowed := true, recurses := true, named := ["example.com/knotcutter/knotcutter.modes"], apart := false, laid := [("example.com/knotcutter/knotcutter.modes", laid_example_com_knotcutter_knotcutter_modes)] }
def LawS1662CShortRoadsSaid : Prop := lawS1662CShortRoadsRow.holds Ybad.pinned (OpenSpec.ofChange lawS1662CShortRoadsSpec)

/-- ITS FALSE NEIGHBOUR: 'it returns false'. Refute it at one input. -/
def lawS1662CShortRoadsWrong : ChangeSpec := { name := "lawS1662CShortRoads", vars := ["example.com/knotcutter/knotcutter.modes"], fn := fun _ => fun
  | [d1, d2, d3, d4, g1] => { results := [.lit (.bool false)], args := [d1, d2, d3, d4], vars := [g1] }
  | _ => none }
def LawS1662CShortRoadsWrongFalsely : Prop := lawS1662CShortRoadsRow.holds Ybad.pinned (OpenSpec.ofChange lawS1662CShortRoadsWrong)

end Rows
end Go.Proofs.YbulkahjyDoor
