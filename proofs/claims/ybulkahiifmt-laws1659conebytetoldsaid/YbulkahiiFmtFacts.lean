/-
  CLOSED FACTS OF THIS PROGRAM for a walk over fmt's stopped front (after the guide's HexbadFmt, LevelsFmt; at this dump's numbers), and laws on whole arrays of 20 cells.
-/
import Derived.Test.YbulkahiiFmtRows
import Derived.Stop.CallBack
import Derived.Stop.IfaceNil
import Derived.WalkKit
import Derived.WalkSpells
import Derived.Laws.StructEq
import Derived.ChangeKeysEq
import Derived.Deep.MidRow
import Derived.Deep.WholeRow
import Derived.Deep.QuietTactic
import Derived.BigQuiet
namespace Go.Proofs.YbulkahiiFmt
open Go.RowKit Go.Extern.Stop Go.Stop Go.Extern

theorem call8 (args : Array Value) (w : World) : (callFunc 8 args).run Ybaf.prog w = (FmtCalls.errorf #[9, 33] #[27] args).run Ybaf.prog w :=
  run_callFunc_next Ybaf.func8 (by kernel_rfl) (by kernel_rfl) (by kernel_rfl) args w
theorem guardF (name : String) (w : World) : (FmtStop.guard name).run Ybaf.prog w = .ok () w := by kernel_rfl
theorem nextTurns : Extern.next FmtCalls.turnsRow = some (FmtCalls.begun #[] #[]) := by kernel_rfl
theorem nextReturned : Extern.next FmtCalls.returnedRow = some (FmtCalls.returned #[] #[]) := by kernel_rfl
theorem fmt0 : FmtStop.printed? ⟨#[37, 115, 58, 32, 116, 104, 101, 32, 110, 111, 100, 101, 32, 116, 104, 101, 114, 101, 32, 104, 97, 115, 32, 105, 100, 32, 37, 115, 44, 32, 110, 111, 116, 32, 37, 115]⟩ 3 = some [(0, 115, false), (1, 115, false), (2, 115, false)] := by kernel_rfl
theorem fmt0r (w : World) : (FmtDoors.printed ⟨#[37, 115, 58, 32, 116, 104, 101, 32, 110, 111, 100, 101, 32, 116, 104, 101, 114, 101, 32, 104, 97, 115, 32, 105, 100, 32, 37, 115, 44, 32, 110, 111, 116, 32, 37, 115]⟩ 3).run Ybaf.prog w = .ok [(0, 115, false), (1, 115, false), (2, 115, false)] w := by kernel_rfl
def shape9 : List UInt8 := [12, 6, 0, 0, 0, 0, 0, 0, 0, 115, 116, 114, 105, 110, 103]
theorem act9 (name : String) (x : Value) (w : World) : (FmtCalls.act name true 115 false (.iface 9 x)).run Ybaf.prog w = .ok (.closed true) w := by kernel_rfl
theorem act23 (name : String) (x : Value) (w : World) : (FmtCalls.act name true 115 false (.iface 23 x)).run Ybaf.prog w = .ok (.call false) w := by kernel_rfl
theorem isString23 (w : World) : (FmtDoors.textMethod 23 "String").run Ybaf.prog w = .ok true w := by kernel_rfl
theorem invokeString23 (x : Value) (w : World) : (invoke (.fn (.method "String") #[]) #[.iface 23 x]).run Ybaf.prog w = .ok (.enter 10 #[x]) w := by kernel_rfl
theorem str23 (w : World) : (typeStr 23).run Ybaf.prog w = .ok "ringwright.ID" w := by kernel_rfl
theorem str9 (w : World) : (typeStr 9).run Ybaf.prog w = .ok "string" w := by kernel_rfl
theorem ptr36 (w : World) : (FmtStop.ptrTo "errors.errorString").run Ybaf.prog w = .ok 36 w := by kernel_rfl
theorem elem36 (w : World) : (elemOf 36).run Ybaf.prog w = .ok 38 w := by kernel_rfl
theorem op9 (name : String) (s : ByteArray) (w : World) : (FmtStop.operand name true 115 false (.iface 9 (.string s))).run Ybaf.prog w = .ok (shape9, FmtStop.pack s.data.toList) w := by kernel_rfl
theorem build25v (a0 a1 a2 a3 a4 a5 a6 a7 a8 a9 a10 a11 a12 a13 a14 a15 a16 a17 a18 a19 : Value) (s : ByteArray) (w : World) : (Instr.build 25 #[(0, .agg #[a0, a1, a2, a3, a4, a5, a6, a7, a8, a9, a10, a11, a12, a13, a14, a15, a16, a17, a18, a19]), (1, .string s)]).run Ybaf.prog w = .ok (.agg #[a0, a1, a2, a3, a4, a5, a6, a7, a8, a9, a10, a11, a12, a13, a14, a15, a16, a17, a18, a19, .string s]) w := run_build w 25 _ _ (by kernel_rfl)
theorem size22 : (Ybaf.prog.info? 22).map (·.size) = some 20 := by kernel_rfl
theorem size23 : (Ybaf.prog.info? 23).map (·.size) = some 20 := by kernel_rfl
theorem size25 : (Ybaf.prog.info? 25).map (·.size) = some 21 := by kernel_rfl

theorem list20 (l : List Value) (h : l.length = 20) : ∃ a0 a1 a2 a3 a4 a5 a6 a7 a8 a9 a10 a11 a12 a13 a14 a15 a16 a17 a18 a19, l = [a0, a1, a2, a3, a4, a5, a6, a7, a8, a9, a10, a11, a12, a13, a14, a15, a16, a17, a18, a19] := by
  match l, h with
  | [a0, a1, a2, a3, a4, a5, a6, a7, a8, a9, a10, a11, a12, a13, a14, a15, a16, a17, a18, a19], _ => exact ⟨a0, a1, a2, a3, a4, a5, a6, a7, a8, a9, a10, a11, a12, a13, a14, a15, a16, a17, a18, a19, rfl⟩

/-- A Peer, built: the id's cells, then the address. -/
theorem build25 (A : Array Value) (hA : A.size = 20) (s : ByteArray) (w : World) : (Instr.build 25 #[(0, .agg A), (1, .string s)]).run Ybaf.prog w = .ok (.agg (A.push (.string s))) w := by
  obtain ⟨l⟩ := A
  obtain ⟨a0, a1, a2, a3, a4, a5, a6, a7, a8, a9, a10, a11, a12, a13, a14, a15, a16, a17, a18, a19, rfl⟩ := list20 l hA
  exact build25v a0 a1 a2 a3 a4 a5 a6 a7 a8 a9 a10 a11 a12 a13 a14 a15 a16 a17 a18 a19 s w

section
variable {P : Program}
/-- A whole value stored into the block that was made last, at a plain region's list. -/
theorem wpList_store_new {ops : Array Oper} {rest : List Oper} {op : Oper} {a : Act} {Q : Exit → Act → World → Prop} (w : World) (g : Nat) (hg : w.heap.size = g) (hgd : op.guard = none) (ty : TypeId) (x y : Operand) (ho : op.op = .store ty x y)
    (c c' : Array Value) (hx : a.eval x = .pointer (some ⟨g, 0, none⟩)) (hy : a.eval y = .agg c')
    (hi : (P.info? ty).map (·.size) = some c'.size) (hs : c.size = c'.size) (h1 : c'.all (·.oneCell') = true)
    (h : wpList P ops Q rest (a.put op.dst undef) (w.alloc (.cells c' ty))) : wpList P ops Q (op :: rest) a (w.alloc (.cells c ty)) :=
  wpList_plain hgd fun _ hK => by
    subst hg
    unfold Oper.wp execOp
    simp only [ho, hx, hy, Instr.storeAt, Instr.sureAddr, Sem.run_bind, Sem.run_pure, Result.andThen_ok, run_storeVar_new w ty c c' hi hs h1]
    exact hK _ _ h

/-- A whole array read in a quiet walk. -/
theorem quiet_load_row {C : World → Prop} {K : Act → Prop} {o : Oper} {a : Act} (ty : TypeId) (x : Operand) (ho : o.op = .load ty x)
    (g : Nat) (hx : a.eval x = .pointer (some ⟨g, 0, none⟩)) (t : TypeId) (cs : Array Value) (fr : Nat × Nat) (d : TypeDesc) (hg : ∀ w, C w → w.heap[g]? = some (.cells cs t fr))
    (hu : P.underlying ty = some d) (hd : (match d with | .struct _ | .array _ _ => true | _ => false) = true) (hi : (P.info? ty).map (·.size) = some cs.size)
    (hk : K (a.put o.dst (.agg cs))) : o.quiet P a C K :=
  ⟨_, fun w hw => by
    unfold Oper.quietAt execOp
    simp only [ho, hx, Instr.loadAt, Instr.sureAddr, Sem.run_bind, Sem.run_pure, Result.andThen_ok, run_loadVar_row w g t ty cs fr d (hg w hw) hu hd hi]
    exact ⟨rfl, rfl⟩, hk⟩
/-- A value built of parts, by its run. -/
theorem wpList_build {ops : Array Oper} {rest : List Oper} {op : Oper} {a : Act} {w : World} {Q : Exit → Act → World → Prop} (hgd : op.guard = none) (t : TypeId) (parts : Array (Nat × Operand)) (ho : op.op = .build t parts)
    (vs : Array (Nat × Value)) (hv : (parts.toList.map fun p => (p.1, a.eval p.2)) = vs.toList) (v : Value) (hrun : (Instr.build t vs).run P w = .ok v w)
    (h : wpList P ops Q rest (a.put op.dst v) w) : wpList P ops Q (op :: rest) a w :=
  wpList_plain hgd fun _ hK => by
    have hv' : (parts.map fun p => (p.1, a.eval p.2)) = vs := Array.ext' (by rw [Array.toList_map]; exact hv)
    unfold Oper.wp execOp
    simp only [ho, hv', Sem.run_bind, hrun, Sem.run_pure, Result.andThen_ok]
    exact hK _ _ h
end
end Go.Proofs.YbulkahiiFmt
