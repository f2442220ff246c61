/-
  A send, a receive, a select with a default IN THE WALK: the walk of a region, operation by operation, over the machine of one.
-/
import Derived.Test.YbulkahiiChecked
import Derived.WalkKit
import Derived.Conc.LoneCalls
import Derived.Conc.LoneSelect
namespace Go.Proofs.Ybulkahii
open Go.RowKit Go.Conc

/-- What is left of the region comes to an end of which Q holds. -/
def RegAt (P : Program) (ops : Array Oper) (Q : Exit → Act → World → Prop) (l : List Nat) (a : Act) (w : World) : Prop :=
  ∀ (b : Frame) (k : List Item) (cs : List Frame), ∃ e a' w', Q e a' w' ∧ Arrives P (lone (b.at a (.inRegion ops l :: k)) cs w) b k cs e a' w'

section
variable {P : Program} {ops : Array Oper} {Q : Exit → Act → World → Prop} {a : Act} {w w' : World} {i : Nat} {rest : List Nat} {o : Oper}

theorem wp_region_at {id : Nat} (h : RegAt P ops Q (List.range ops.size) a w) : (Code.region id ops false).wp P Q a w :=
  fun b k cs => let ⟨e, a', w', q, r⟩ := h b k cs; ⟨e, a', w', q, .of_steps (.one step_region) r⟩
theorem regAt_of_ops {l : List Nat} (h : wpOps P ops Q l a w) : RegAt P ops Q l a w := wp_ops l a w h

theorem regAt_value {v : Value} (ho : ops[i]? = some o) (hw : Region.wanted o (yielded ops a.tmps) = true) (hr : (execOp a.eval o).run P w = .ok (.value v) w') (h : RegAt P ops Q rest (a.put o.dst v) w') :
    RegAt P ops Q (i :: rest) a w := by
  intro b k cs
  obtain ⟨e, a', w'', hq, harr⟩ := h b k cs
  have hfin : ∀ v, (b.at a (.inRegion ops (i :: rest) :: k)).finish v = b.at (a.put o.dst v) (.inRegion ops rest :: k) := by
    intro v; rw [Frame.finish_at, ho]; rfl
  refine ⟨e, a', w'', hq, .of_steps (.one (step_lone_go ?_)) harr⟩
  rw [stepG_op ho hw, ← hfin]; simp [stepG.apply, hr]

theorem stepG_comm_any {b : Frame} {k : List Item} {cs : List Frame} {cases : Array CommCase} {blocking : Bool} {shape : CommShape} (ho : ops[i]? = some o) (hw : Region.wanted o (yielded ops a.tmps) = true)
    (hr : (execOp a.eval o).run P w = .ok (.comm cases blocking shape) w') :
    ∃ es, stepG P true (G (b.at a (.inRegion ops (i :: rest) :: k)) cs) w = .comm (G (b.at a (.inRegion ops (i :: rest) :: k)) cs) cases blocking shape w' es := by
  rw [stepG_oper ho hw]
  simp [stepG.apply, hr, G, Frame.at, GStep.after]

/-- A send into a buffer with room. -/
theorem regAt_send {c cap s r : Nat} {buf : Array Value} {v z : Value} {tm : Bool} (ho : ops[i]? = some o) (hw : Region.wanted o (yielded ops a.tmps) = true) (hr : (execOp a.eval o).run P w = .ok (.comm #[scase c v z] true .send) w')
    (hc : w'.heap[c]? = some (.chan cap buf false s r tm)) (hroom : buf.size < cap) (h : RegAt P ops Q rest (a.put o.dst undef) (w'.setChan c cap (buf.push v) false (s + 1) r tm)) : RegAt P ops Q (i :: rest) a w := by
  intro b k cs
  obtain ⟨e, a', w'', hq, harr⟩ := h b k cs
  have hfin : ∀ v, (b.at a (.inRegion ops (i :: rest) :: k)).finish v = b.at (a.put o.dst v) (.inRegion ops rest :: k) := by
    intro v; rw [Frame.finish_at, ho]; rfl
  obtain ⟨es, hs⟩ := stepG_comm_any (P := P) (b := b) (k := k) (cs := cs) (rest := rest) ho hw hr
  refine ⟨e, a', w'', hq, .of_steps (.one ?_) harr⟩
  rw [lone_eq_solo, lone_eq_solo, ← hfin]
  exact step_lone_send_room hs hc hroom

/-- A receive from a buffer that holds something. -/
theorem regAt_recv {c cap s r : Nat} {buf : Array Value} {z : Value} {closed tm : Bool} (ho : ops[i]? = some o) (hw : Region.wanted o (yielded ops a.tmps) = true) (hr : (execOp a.eval o).run P w = .ok (.comm #[rcase c z] true (.recv false)) w')
    (hc : w'.heap[c]? = some (.chan cap buf closed s r tm)) (hsome : 0 < buf.size) (h : RegAt P ops Q rest (a.put o.dst (buf.getD 0 undef)) (w'.setChan c cap (buf.extract 1 buf.size) closed s (r + 1) tm)) : RegAt P ops Q (i :: rest) a w := by
  intro b k cs
  obtain ⟨e, a', w'', hq, harr⟩ := h b k cs
  have hfin : ∀ v, (b.at a (.inRegion ops (i :: rest) :: k)).finish v = b.at (a.put o.dst v) (.inRegion ops rest :: k) := by
    intro v; rw [Frame.finish_at, ho]; rfl
  obtain ⟨es, hs⟩ := stepG_comm_any (P := P) (b := b) (k := k) (cs := cs) (rest := rest) ho hw hr
  refine ⟨e, a', w'', hq, .of_steps (.one ?_) harr⟩
  rw [lone_eq_solo, lone_eq_solo, ← hfin]
  exact step_lone_recv_buf false hs hc hsome

/-- A select of one receive with a default: the buffer holds something. -/
theorem regAt_select_buf {c cap s r : Nat} {buf : Array Value} {z : Value} {closed tm : Bool} (ho : ops[i]? = some o) (hw : Region.wanted o (yielded ops a.tmps) = true) (hr : (execOp a.eval o).run P w = .ok (.comm #[rcase c z] false .select) w')
    (hc : w'.heap[c]? = some (.chan cap buf closed s r tm)) (hsome : 0 < buf.size) (h : RegAt P ops Q rest (a.put o.dst (.tuple #[goInt 0, .bool true, buf.getD 0 undef])) (w'.setChan c cap (buf.extract 1 buf.size) closed s (r + 1) tm)) : RegAt P ops Q (i :: rest) a w := by
  intro b k cs
  obtain ⟨e, a', w'', hq, harr⟩ := h b k cs
  have hfin : ∀ v, (b.at a (.inRegion ops (i :: rest) :: k)).finish v = b.at (a.put o.dst v) (.inRegion ops rest :: k) := by
    intro v; rw [Frame.finish_at, ho]; rfl
  obtain ⟨es, hs⟩ := stepG_comm_any (P := P) (b := b) (k := k) (cs := cs) (rest := rest) ho hw hr
  refine ⟨e, a', w'', hq, .of_steps (.one ?_) harr⟩
  rw [lone_eq_solo, lone_eq_solo, ← hfin]
  exact step_lone_select_recv_buf hs hc hsome

/-- .. the buffer is empty and the channel open: the default. -/
theorem regAt_select_default {c cap s r : Nat} {z : Value} {tm : Bool} (ho : ops[i]? = some o) (hw : Region.wanted o (yielded ops a.tmps) = true) (hr : (execOp a.eval o).run P w = .ok (.comm #[rcase c z] false .select) w')
    (hc : w'.heap[c]? = some (.chan cap #[] false s r tm)) (h : RegAt P ops Q rest (a.put o.dst (.tuple #[goInt (-1), .bool false, z])) w') : RegAt P ops Q (i :: rest) a w := by
  intro b k cs
  obtain ⟨e, a', w'', hq, harr⟩ := h b k cs
  have hfin : ∀ v, (b.at a (.inRegion ops (i :: rest) :: k)).finish v = b.at (a.put o.dst v) (.inRegion ops rest :: k) := by
    intro v; rw [Frame.finish_at, ho]; rfl
  obtain ⟨es, hs⟩ := stepG_comm_any (P := P) (b := b) (k := k) (cs := cs) (rest := rest) ho hw hr
  refine ⟨e, a', w'', hq, .of_steps (.one ?_) harr⟩
  rw [lone_eq_solo, lone_eq_solo, ← hfin]
  exact step_lone_select_default hs hc
end
end Go.Proofs.Ybulkahii
