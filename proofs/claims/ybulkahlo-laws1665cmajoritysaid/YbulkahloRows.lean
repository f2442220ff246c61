/-
  NARROWER THAN 'FOR EVERY INPUT', by the rows' own cells (each row's printed sentence says how): LawS1665AFields: maps.
  DERIVED. THE GIVEN ROWS OF THIS SEAT. 2 by the template 'for every input the law returns true; each argument reads behind the call as it read before'; 0 by the template 'total and deterministic' (their statements: YbulkahloTotals.lean).
  GIVEN WITH THE SEED: the statements are not yours to turn. If you find one false, say at which input.
  Laid BY PROGRAM, IN A SANDBOX (cutbox-rows.mjs): the forced cells as the released guide's own fill.sh prints them over the translation 99a1247adfcee965… (all of the seat's roots in one cut). By AI agents, Wed Nov 11 2026. No macro, syntax, notation, axiom, sorry.
-/
import Derived.Test.YbulkahloChecked
import GoSem.Claim
import GoSem.ClaimJoined
import GoSem.ClaimMapViews
import Derived.JoinedTies
import Derived.KernelRfl
namespace Go.Proofs.Ybulkahlo
/- THE CELL 'sum', in the pinned program and in every row, IS THE sha256 OF THE DUMP (.gsa) THAT YbulkahloProg.lean LOADS. Nothing in Lean hashes anything: it is a label: what it is worth is what the hold of that sum in a sandbox is worth. -/
noncomputable def Yba.pinned : Pinned := { name := "ybulkahlo", sum := "99a1247adfcee965d1324d269dca1031a36fdbcfa7e4ff8867dc73a5608520fe", checked := Yba.checked }
namespace Rows
def none {H : Type} : Left H := { results := [], args := [] }

/-- 'election.LawS1665AFields': WHATEVER THE INPUT: true; the input reads as it did. -/
def lawS1665AFieldsSpec : ChangeSpec := { name := "lawS1665AFields", fn := fun _ => fun
  | [d1, d2, d3, d4, d5, d6, d7, d8, d9, d10] => { results := [.lit (.bool true)], args := [d1, d2, d3, d4, d5, d6, d7, d8, d9, d10] }
  | _ => none }
def lawS1665AFieldsRow : OpenClaim := { program := "ybulkahlo", sum := "99a1247adfcee965d1324d269dca1031a36fdbcfa7e4ff8867dc73a5608520fe", func := "example.com/hustings/hustings/election.LawS1665AFields", spec := "lawS1665AFields", maps := true, apart := false }
def LawS1665AFieldsSaid : Prop := lawS1665AFieldsRow.holds Yba.pinned (OpenSpec.ofChange lawS1665AFieldsSpec)

/-- ITS FALSE NEIGHBOUR: 'it returns false'. Refute it at one input. -/
def lawS1665AFieldsWrong : ChangeSpec := { name := "lawS1665AFields", fn := fun _ => fun
  | [d1, d2, d3, d4, d5, d6, d7, d8, d9, d10] => { results := [.lit (.bool false)], args := [d1, d2, d3, d4, d5, d6, d7, d8, d9, d10] }
  | _ => none }
def LawS1665AFieldsWrongFalsely : Prop := lawS1665AFieldsRow.holds Yba.pinned (OpenSpec.ofChange lawS1665AFieldsWrong)

/-- 'election.LawS1665CMajority': WHATEVER THE INPUT: true; the input reads as it did. -/
def lawS1665CMajoritySpec : ChangeSpec := { name := "lawS1665CMajority", fn := fun _ => fun
  | [d1, d2, d3, d4, d5] => { results := [.lit (.bool true)], args := [d1, d2, d3, d4, d5] }
  | _ => none }
def lawS1665CMajorityRow : OpenClaim := { program := "ybulkahlo", sum := "99a1247adfcee965d1324d269dca1031a36fdbcfa7e4ff8867dc73a5608520fe", func := "example.com/hustings/hustings/election.LawS1665CMajority", spec := "lawS1665CMajority", unfollowed := true, recurses := true, apart := false }
def LawS1665CMajoritySaid : Prop := lawS1665CMajorityRow.holds Yba.pinned (OpenSpec.ofChange lawS1665CMajoritySpec)

/-- ITS FALSE NEIGHBOUR: 'it returns false'. Refute it at one input. -/
def lawS1665CMajorityWrong : ChangeSpec := { name := "lawS1665CMajority", fn := fun _ => fun
  | [d1, d2, d3, d4, d5] => { results := [.lit (.bool false)], args := [d1, d2, d3, d4, d5] }
  | _ => none }
def LawS1665CMajorityWrongFalsely : Prop := lawS1665CMajorityRow.holds Yba.pinned (OpenSpec.ofChange lawS1665CMajorityWrong)

end Rows
end Go.Proofs.Ybulkahlo
