/-
  LawS1659BSend: operations on ranges, in a region that is walked operation by operation.
-/
import Derived.Test.YbulkahiiSl
namespace Go.Proofs.Ybulkahii
open Go.RowKit Go.Conc

section
variable {P : Program} {ops : Array Oper} {Q : Exit → Act → World → Prop} {a : Act} {w w' : World} {i : Nat} {rest : List Nat} {o : Oper}
theorem regAt_skip (ho : ops[i]? = some o) (hw : Region.wanted o (yielded ops a.tmps) = true) (hr : (execOp a.eval o).run P w = .ok .skip w') (h : RegAt P ops Q rest (a.put o.dst undef) w') :
    RegAt P ops Q (i :: rest) a w := by
  intro b k cs
  obtain ⟨e, a', w'', hq, harr⟩ := h b k cs
  have hfin : ∀ v, (b.at a (.inRegion ops (i :: rest) :: k)).finish v = b.at (a.put o.dst v) (.inRegion ops rest :: k) := by
    intro v; rw [Frame.finish_at, ho]; rfl
  refine ⟨e, a', w'', hq, .of_steps (.one (step_lone_go ?_)) harr⟩
  rw [stepG_op ho hw, ← hfin]; simp [stepG.apply, hr]
theorem regAt_pure (d : Option Tmp) (v : Value) (ho : ops[i]? = some o) (hd : o.dst = d) (hw : Region.wanted o (yielded ops a.tmps) = true) (hr : (execOp a.eval o).run P w = .ok (.value v) w) (h : RegAt P ops Q rest (a.put d v) w) :
    RegAt P ops Q (i :: rest) a w := regAt_value ho hw hr (hd ▸ h)
theorem regAt_skips (d : Option Tmp) (ho : ops[i]? = some o) (hd : o.dst = d) (hw : Region.wanted o (yielded ops a.tmps) = true) (hr : (execOp a.eval o).run P w = .ok .skip w') (h : RegAt P ops Q rest (a.put d undef) w') :
    RegAt P ops Q (i :: rest) a w := regAt_skip ho hw hr (hd ▸ h)
theorem regAt_move (d : Option Tmp) (v : Value) {x : Operand} (ho : ops[i]? = some o) (hd : o.dst = d) (hw : Region.wanted o (yielded ops a.tmps) = true) (hop : o.op = .move x ∨ o.op = .assign x) (hx : a.eval x = v) (h : RegAt P ops Q rest (a.put d v) w) :
    RegAt P ops Q (i :: rest) a w := regAt_pure d v ho hd hw (by unfold execOp; rcases hop with hop | hop <;> simp [hop, hx]) h
theorem regAt_sendTo (d : Option Tmp) {c cap s r : Nat} {buf : Array Value} {v z : Value} {tm : Bool} (ho : ops[i]? = some o) (hd : o.dst = d) (hw : Region.wanted o (yielded ops a.tmps) = true) (hr : (execOp a.eval o).run P w = .ok (.comm #[scase c v z] true .send) w')
    (hc : w'.heap[c]? = some (.chan cap buf false s r tm)) (hroom : buf.size < cap) (h : RegAt P ops Q rest (a.put d undef) (w'.setChan c cap (buf.push v) false (s + 1) r tm)) : RegAt P ops Q (i :: rest) a w := regAt_send ho hw hr hc hroom (hd ▸ h)
theorem regAt_recvTo (d : Option Tmp) {c cap s r : Nat} {buf : Array Value} {z : Value} {closed tm : Bool} (ho : ops[i]? = some o) (hd : o.dst = d) (hw : Region.wanted o (yielded ops a.tmps) = true) (hr : (execOp a.eval o).run P w = .ok (.comm #[rcase c z] true (.recv false)) w')
    (hc : w'.heap[c]? = some (.chan cap buf closed s r tm)) (hsome : 0 < buf.size) (h : RegAt P ops Q rest (a.put d (buf.getD 0 undef)) (w'.setChan c cap (buf.extract 1 buf.size) closed s (r + 1) tm)) : RegAt P ops Q (i :: rest) a w := regAt_recv ho hw hr hc hsome (hd ▸ h)
theorem regAt_selBuf (d : Option Tmp) {c cap s r : Nat} {buf : Array Value} {z : Value} {closed tm : Bool} (ho : ops[i]? = some o) (hd : o.dst = d) (hw : Region.wanted o (yielded ops a.tmps) = true) (hr : (execOp a.eval o).run P w = .ok (.comm #[rcase c z] false .select) w')
    (hc : w'.heap[c]? = some (.chan cap buf closed s r tm)) (hsome : 0 < buf.size) (h : RegAt P ops Q rest (a.put d (.tuple #[goInt 0, .bool true, buf.getD 0 undef])) (w'.setChan c cap (buf.extract 1 buf.size) closed s (r + 1) tm)) : RegAt P ops Q (i :: rest) a w := regAt_select_buf ho hw hr hc hsome (hd ▸ h)
theorem regAt_selDef (d : Option Tmp) {c cap s r : Nat} {z : Value} {tm : Bool} (ho : ops[i]? = some o) (hd : o.dst = d) (hw : Region.wanted o (yielded ops a.tmps) = true) (hr : (execOp a.eval o).run P w = .ok (.comm #[rcase c z] false .select) w')
    (hc : w'.heap[c]? = some (.chan cap #[] false s r tm)) (h : RegAt P ops Q rest (a.put d (.tuple #[goInt (-1), .bool false, z])) w') : RegAt P ops Q (i :: rest) a w := regAt_select_default ho hw hr hc (hd ▸ h)
theorem regAt_done (h : Q .normal a w) : RegAt P ops Q [] a w := regAt_of_ops h
end

theorem alloc29 (w : World) : (Instr.alloc 29 true (.tuple #[])).run Yba.prog w = .ok (.pointer (some ⟨w.heap.size, 0, none⟩)) (w.alloc (.cells zero40 29)) := by kernel_rfl
theorem exec_alloc29 {o : Oper} {a : Act} {w : World} (ho : o.op = .alloc 29) : (execOp a.eval o).run Yba.prog w = .ok (.value (.pointer (some ⟨w.heap.size, 0, none⟩))) (w.alloc (.cells zero40 29)) := by
  unfold execOp
  simp only [ho, Sem.run_bind, Sem.run_pure, Result.andThen_ok, alloc29]
theorem exec_store_new {o : Oper} {a : Act} {w : World} {x y : Operand} {s e : Int} (ho : o.op = .store 29 x y) (hx : a.eval x = .pointer (some ⟨w.heap.size, 0, none⟩)) (hy : a.eval y = .agg (rngA s e)) :
    (execOp a.eval o).run Yba.prog (w.alloc (.cells zero40 29)) = .ok .skip (w.alloc (.cells (rngA s e) 29)) := by
  unfold execOp
  simp only [ho, hx, hy, Instr.storeAt, Instr.sureAddr, Sem.run_bind, Sem.run_pure, Result.andThen_ok, run_storeVar_new w 29 zero40 (rngA s e) (by rw [rngA_size]; exact size29) (by rw [zero40_size, rngA_size]) (rngA_one s e)]
theorem RngAt.range {g : Nat} {s e : Int} {W : World} (h : RngAt g s e W) : W.rangeAt g 0 (rngA s e).toList := fun j v hv => by
  have := h.cells j v hv
  rwa [Addr.add_mid] at this
theorem exec_load29 {o : Oper} {a : Act} {w : World} {x : Operand} {s e : Int} {g : Nat} (ho : o.op = .load 29 x) (hx : a.eval x = .pointer (some ⟨g, 0, none⟩)) (hg : RngAt g s e w) :
    (execOp a.eval o).run Yba.prog w = .ok (.value (.agg (rngA s e))) w := exec_load_mid ho hx _ hg.range Yba.underlying29 rfl (list29 s e)
theorem exec_build1 {o : Oper} {a : Act} {w : World} {y : Operand} {s e : Int} (ho : o.op = .buildSlice 25 1 #[(0, y)]) (hy : a.eval y = .agg (rngA s e)) :
    (execOp a.eval o).run Yba.prog w = .ok (.value (.slice (some ⟨w.heap.size, 0, none⟩) 1 1)) (w.alloc (.cells (rngA s e) 29)) := by
  unfold execOp
  have : (#[((0 : Nat), y)].map fun (p : Nat × Operand) => (p.1, a.eval p.2)) = #[(0, .agg (rngA s e))] := by simp [hy]
  simp only [ho, this, Sem.run_bind, Sem.run_pure, Result.andThen_ok, build1]
theorem exec_append {o : Oper} {a : Act} {w w' : World} {x y : Operand} {v u v' : Value} (ho : o.op = .call { callee := .builtin .append, args := #[x, y], argTypes := #[25, 25] }) (hx : a.eval x = v) (hy : a.eval y = u)
    (hr : (Builtin.append_ #[25, 25] o.type #[v, u]).run Yba.prog w = .ok v' w') : (execOp a.eval o).run Yba.prog w = .ok (.value v') w' := by
  unfold execOp
  simp only [ho, resolve, invoke, builtin, Sem.run_bind, Sem.run_pure, Result.andThen_ok, List.map_toArray, List.map_cons, List.map_nil, hx, hy, hr]

section
variable {ops : Array Oper} {Q : Exit → Act → World → Prop} {a : Act} {w w' : World} {i j : Nat} {rest : List Nat} {o o' : Oper}
/-- 'x := r': a new block that holds the range. -/
theorem regAt_fresh (d : Option Tmp) {x y : Operand} (s e : Int) (hi : ops[i]? = some o) (hd : o.dst = d) (hwi : Region.wanted o (yielded ops a.tmps) = true) (ho : o.op = .alloc 29) (hj : ops[j]? = some o') (hd' : o'.dst = none) (hwj : Region.wanted o' (yielded ops (a.put d (.pointer (some ⟨w.heap.size, 0, none⟩))).tmps) = true) (ho' : o'.op = .store 29 x y)
    (hx : (a.put d (.pointer (some ⟨w.heap.size, 0, none⟩))).eval x = .pointer (some ⟨w.heap.size, 0, none⟩)) (hy : (a.put d (.pointer (some ⟨w.heap.size, 0, none⟩))).eval y = .agg (rngA s e))
    (h : RegAt Yba.prog ops Q rest (a.put d (.pointer (some ⟨w.heap.size, 0, none⟩))) (w.alloc (.cells (rngA s e) 29))) : RegAt Yba.prog ops Q (i :: j :: rest) a w := by
  subst hd
  refine regAt_value hi hwi (exec_alloc29 ho) (regAt_skip hj hwj (exec_store_new ho' hx hy) ?_)
  rw [hd']; exact h
theorem regAt_load (d : Option Tmp) {x : Operand} (s e : Int) (g : Nat) (hi : ops[i]? = some o) (hd : o.dst = d) (hwi : Region.wanted o (yielded ops a.tmps) = true) (ho : o.op = .load 29 x) (hx : a.eval x = .pointer (some ⟨g, 0, none⟩)) (hg : RngAt g s e w)
    (h : RegAt Yba.prog ops Q rest (a.put d (.agg (rngA s e))) w) : RegAt Yba.prog ops Q (i :: rest) a w := regAt_pure d _ hi hd hwi (exec_load29 ho hx hg) h
/-- 'v = append(v, r)', the range in a block of its own ahead. -/
theorem regAt_app (d d' : Option Tmp) {x y z : Operand} {v : Value} (s e : Int) {L : List (Int × Int)} {base : Nat} (hi : ops[i]? = some o) (hd : o.dst = d) (hwi : Region.wanted o (yielded ops a.tmps) = true) (ho : o.op = .buildSlice 25 1 #[(0, z)]) (hz : a.eval z = .agg (rngA s e))
    (hj : ops[j]? = some o') (hd' : o'.dst = d') (hwj : Region.wanted o' (yielded ops (a.put d (.slice (some ⟨w.heap.size, 0, none⟩) 1 1)).tmps) = true) (ho' : o'.op = .call { callee := .builtin .append, args := #[x, y], argTypes := #[25, 25] })
    (hx : (a.put d (.slice (some ⟨w.heap.size, 0, none⟩) 1 1)).eval x = v) (hy : (a.put d (.slice (some ⟨w.heap.size, 0, none⟩) 1 1)).eval y = .slice (some ⟨w.heap.size, 0, none⟩) 1 1)
    (hown : Own base v L w) (hL : L.length ≤ 2000) (hb : base ≤ w.heap.size)
    (h : ∀ v' w', Own base v' (L ++ [(s, e)]) w' → w.grownBy w' v.ownBlock → (∀ g, v'.ownBlock = some g → v.ownBlock = some g ∨ w.heap.size ≤ g) → RegAt Yba.prog ops Q rest ((a.put d (.slice (some ⟨w.heap.size, 0, none⟩) 1 1)).put d' v') w') : RegAt Yba.prog ops Q (i :: j :: rest) a w := by
  subst hd hd'
  have hal : (w.alloc (.cells (rngA s e) 29)).heap.size = w.heap.size + 1 := by show (w.heap.push _).size = _; simp
  have hsame : Own base v L (w.alloc (.cells (rngA s e) 29)) := hown.kept ((Below.refl _ w).alloc (Nat.le_refl _) _) (Nat.le_refl _)
  have hat : RngAt w.heap.size s e (w.alloc (.cells (rngA s e) 29)) := Deep.blk_alloc_new w _
  obtain ⟨v', w', hr, h1, h2, h3⟩ := rng_append hsame s e w.heap.size hat hL (by omega) o'.type
  refine regAt_value hi hwi (exec_build1 ho hz) (regAt_value hj hwj (exec_append ho' hx hy hr) (h v' w' h1 ?_ ?_))
  · refine ⟨h2.os, h2.tape, h2.output, by have := h2.size; omega, fun k hk hr => ?_⟩
    rw [h2.block k (by omega) hr]
    exact Deep.blk_alloc_lt _ _ _ hk
  · intro g hg
    rcases h3 with h3 | h3
    · exact .inl (h3 ▸ hg)
    · rw [h3] at hg; right; simp only [Option.some.injEq] at hg; omega
end
end Go.Proofs.Ybulkahii
