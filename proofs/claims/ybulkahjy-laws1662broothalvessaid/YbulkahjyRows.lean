/-
  No cell of these rows narrows 'for every input' (looked for: loops, veiled, ifaces, maps, wideKeys, modest, calm, conditions, laid).
  DERIVED. THE GIVEN ROWS OF THIS SEAT. 2 by the template 'for every input the law returns true; each argument reads behind the call as it read before'; 0 by the template 'total and deterministic' (their statements: YbulkahjyTotals.lean).
  GIVEN WITH THE SEED: the statements are not yours to turn. If you find one false, say at which input.
  Laid BY PROGRAM, IN A SANDBOX (cutbox-rows.mjs): the forced cells as the released guide's own fill.sh prints them over the translation 1bfa27c8c1079a25… (all of the seat's roots in one cut). By AI agents, Wed Nov 11 2026. No macro, syntax, notation, axiom, sorry.
-/
import Derived.Test.YbulkahjyChecked
import GoSem.Claim
import GoSem.ClaimJoined
import GoSem.ClaimMapViews
import Derived.JoinedTies
import Derived.KernelRfl
namespace Go.Proofs.Ybulkahjy
/- THE CELL 'sum', in the pinned program and in every row, IS THE sha256 OF THE DUMP (.gsa) THAT YbulkahjyProg.lean LOADS. Nothing in Lean hashes anything: it is a label: what it is worth is what the hold of that sum in a sandbox is worth. -/
noncomputable def Yba.pinned : Pinned := { name := "ybulkahjy", sum := "1bfa27c8c1079a252863e8dbf2b8f27fa364a12976ec541509cf04a93274fcb5", checked := Yba.checked }
namespace Rows
def none {H : Type} : Left H := { results := [], args := [] }

/-- 'knotcutter.LawS1662BRootHalves': WHATEVER THE INPUT: true; the input reads as it did. -/
def lawS1662BRootHalvesSpec : ChangeSpec := { name := "lawS1662BRootHalves", fn := fun _ => fun
  | [d1, d2] => { results := [.lit (.bool true)], args := [d1, d2] }
  | _ => none }
def lawS1662BRootHalvesRow : OpenClaim := { program := "ybulkahjy", sum := "1bfa27c8c1079a252863e8dbf2b8f27fa364a12976ec541509cf04a93274fcb5", func := "example.com/knotcutter/knotcutter.LawS1662BRootHalves", spec := "lawS1662BRootHalves", apart := false }
def LawS1662BRootHalvesSaid : Prop := lawS1662BRootHalvesRow.holds Yba.pinned (OpenSpec.ofChange lawS1662BRootHalvesSpec)

/-- ITS FALSE NEIGHBOUR: 'it returns false'. Refute it at one input. -/
def lawS1662BRootHalvesWrong : ChangeSpec := { name := "lawS1662BRootHalves", fn := fun _ => fun
  | [d1, d2] => { results := [.lit (.bool false)], args := [d1, d2] }
  | _ => none }
def LawS1662BRootHalvesWrongFalsely : Prop := lawS1662BRootHalvesRow.holds Yba.pinned (OpenSpec.ofChange lawS1662BRootHalvesWrong)

/-- 'knotcutter.LawS1662BRootsKept': WHATEVER THE INPUT: true; the input reads as it did. -/
def lawS1662BRootsKeptSpec : ChangeSpec := { name := "lawS1662BRootsKept", fn := fun _ => fun
  | [d] => { results := [.lit (.bool true)], args := [d] }
  | _ => none }
def lawS1662BRootsKeptRow : OpenClaim := { program := "ybulkahjy", sum := "1bfa27c8c1079a252863e8dbf2b8f27fa364a12976ec541509cf04a93274fcb5", func := "example.com/knotcutter/knotcutter.LawS1662BRootsKept", spec := "lawS1662BRootsKept", apart := false }
def LawS1662BRootsKeptSaid : Prop := lawS1662BRootsKeptRow.holds Yba.pinned (OpenSpec.ofChange lawS1662BRootsKeptSpec)

/-- ITS FALSE NEIGHBOUR: 'it returns false'. Refute it at one input. -/
def lawS1662BRootsKeptWrong : ChangeSpec := { name := "lawS1662BRootsKept", fn := fun _ => fun
  | [d] => { results := [.lit (.bool false)], args := [d] }
  | _ => none }
def LawS1662BRootsKeptWrongFalsely : Prop := lawS1662BRootsKeptRow.holds Yba.pinned (OpenSpec.ofChange lawS1662BRootsKeptWrong)

end Rows
end Go.Proofs.Ybulkahjy
