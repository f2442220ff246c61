/-
  No cell of these rows narrows 'for every input' (looked for: loops, veiled, ifaces, maps, wideKeys, modest, calm, conditions, laid).
  DERIVED. THE GIVEN ROWS OF THIS SEAT. 3 by the template 'for every input the law returns true; each argument reads behind the call as it read before'; 0 by the template 'total and deterministic' (their statements: YbulkahiiFmtTotals.lean).
  GIVEN WITH THE SEED: the statements are not yours to turn. If you find one false, say at which input.
  Laid BY PROGRAM, IN A SANDBOX (cutbox-rows.mjs): the forced cells as the released guide's own fill.sh prints them over the translation 05fea83c3fac17c7… (all of the seat's roots in one cut). By AI agents, Wed Nov 11 2026. No macro, syntax, notation, axiom, sorry.
-/
import Derived.Test.YbulkahiiFmtChecked
import GoSem.Claim
import GoSem.ClaimJoined
import GoSem.ClaimMapViews
import Derived.JoinedTies
import Derived.KernelRfl
namespace Go.Proofs.YbulkahiiFmt
/- THE CELL 'sum', in the pinned program and in every row, IS THE sha256 OF THE DUMP (.gsa) THAT YbulkahiiFmtProg.lean LOADS. Nothing in Lean hashes anything: it is a label: what it is worth is what the hold of that sum in a sandbox is worth. -/
noncomputable def Ybaf.pinned : Pinned := { name := "ybulkahiifmt", sum := "05fea83c3fac17c7a2b52f74fbeea59fc5da45b414eb0ecb578f89f8bd606687", checked := Ybaf.checked }
namespace Rows
def none {H : Type} : Left H := { results := [], args := [] }

/-- 'ringwright.LawS1659CMatch': WHATEVER THE INPUT: true; the input reads as it did. -/
def lawS1659CMatchSpec : ChangeSpec := { name := "lawS1659CMatch", fn := fun _ => fun
  | [d1, d2, d3] => { results := [.lit (.bool true)], args := [d1, d2, d3] }
  | _ => none }
def lawS1659CMatchRow : OpenClaim := { program := "ybulkahiifmt", sum := "05fea83c3fac17c7a2b52f74fbeea59fc5da45b414eb0ecb578f89f8bd606687", func := "example.com/ringwright/ringwright.LawS1659CMatch", spec := "lawS1659CMatch", stops := ["fmt.errorf, its operands' methods called"], inPlace := ["fmt.errorf"], unfollowed := true, recurses := true, apart := false }
/-- NO THEOREM (fmt's text is open here; it may be false): for the released tool's asking of the row's closed facts alone. THE STATEMENT IS 'LawS1659CMatchToldSaid' (YbulkahiiFmtCards.lean). -/
def LawS1659CMatchFormAsk : Prop := lawS1659CMatchRow.holds Ybaf.pinned (OpenSpec.ofChange lawS1659CMatchSpec)

/-- ITS FALSE NEIGHBOUR: 'it returns false'. Refute it at one input. -/
def lawS1659CMatchWrong : ChangeSpec := { name := "lawS1659CMatch", fn := fun _ => fun
  | [d1, d2, d3] => { results := [.lit (.bool false)], args := [d1, d2, d3] }
  | _ => none }
def LawS1659CMatchWrongFormAsk : Prop := lawS1659CMatchRow.holds Ybaf.pinned (OpenSpec.ofChange lawS1659CMatchWrong)

/-- 'ringwright.LawS1659CSame': WHATEVER THE INPUT: true; the input reads as it did. -/
def lawS1659CSameSpec : ChangeSpec := { name := "lawS1659CSame", fn := fun _ => fun
  | [d1, d2] => { results := [.lit (.bool true)], args := [d1, d2] }
  | _ => none }
def lawS1659CSameRow : OpenClaim := { program := "ybulkahiifmt", sum := "05fea83c3fac17c7a2b52f74fbeea59fc5da45b414eb0ecb578f89f8bd606687", func := "example.com/ringwright/ringwright.LawS1659CSame", spec := "lawS1659CSame", stops := ["fmt.errorf, its operands' methods called"], inPlace := ["fmt.errorf"], unfollowed := true, recurses := true, apart := false }
/-- NO THEOREM (fmt's text is open here; it may be false): for the released tool's asking of the row's closed facts alone. THE STATEMENT IS 'LawS1659CSameToldSaid' (YbulkahiiFmtCards.lean). -/
def LawS1659CSameFormAsk : Prop := lawS1659CSameRow.holds Ybaf.pinned (OpenSpec.ofChange lawS1659CSameSpec)

/-- ITS FALSE NEIGHBOUR: 'it returns false'. Refute it at one input. -/
def lawS1659CSameWrong : ChangeSpec := { name := "lawS1659CSame", fn := fun _ => fun
  | [d1, d2] => { results := [.lit (.bool false)], args := [d1, d2] }
  | _ => none }
def LawS1659CSameWrongFormAsk : Prop := lawS1659CSameRow.holds Ybaf.pinned (OpenSpec.ofChange lawS1659CSameWrong)

/-- 'ringwright.LawS1659COneByte': WHATEVER THE INPUT: true; the input reads as it did. -/
def lawS1659COneByteSpec : ChangeSpec := { name := "lawS1659COneByte", fn := fun _ => fun
  | [d1, d2, d3, d4] => { results := [.lit (.bool true)], args := [d1, d2, d3, d4] }
  | _ => none }
def lawS1659COneByteRow : OpenClaim := { program := "ybulkahiifmt", sum := "05fea83c3fac17c7a2b52f74fbeea59fc5da45b414eb0ecb578f89f8bd606687", func := "example.com/ringwright/ringwright.LawS1659COneByte", spec := "lawS1659COneByte", stops := ["fmt.errorf, its operands' methods called"], inPlace := ["fmt.errorf"], unfollowed := true, recurses := true, apart := false }
/-- NO THEOREM (fmt's text is open here; it may be false): for the released tool's asking of the row's closed facts alone. THE STATEMENT IS 'LawS1659COneByteToldSaid' (YbulkahiiFmtCards.lean). -/
def LawS1659COneByteFormAsk : Prop := lawS1659COneByteRow.holds Ybaf.pinned (OpenSpec.ofChange lawS1659COneByteSpec)

/-- ITS FALSE NEIGHBOUR: 'it returns false'. Refute it at one input. -/
def lawS1659COneByteWrong : ChangeSpec := { name := "lawS1659COneByte", fn := fun _ => fun
  | [d1, d2, d3, d4] => { results := [.lit (.bool false)], args := [d1, d2, d3, d4] }
  | _ => none }
def LawS1659COneByteWrongFormAsk : Prop := lawS1659COneByteRow.holds Ybaf.pinned (OpenSpec.ofChange lawS1659COneByteWrong)

end Rows
end Go.Proofs.YbulkahiiFmt
