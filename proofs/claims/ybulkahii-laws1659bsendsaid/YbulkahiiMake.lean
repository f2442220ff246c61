/-
  LawS1659BSend: the watch is made (its region draws: the two maps, the two watchers, in whatever order).
-/
import Derived.Test.YbulkahiiSend
namespace Go.Proofs.Ybulkahii
open Go.RowKit Go.Conc
open Go.ChangeMaps (setBlock)

/-- A new map (no elder than X) of these entries. -/
def MapIs (X : World) (m : Nat) (es : Array MapEntry) (w : World) : Prop := w.heap[m]? = some (.map es es.size) ∧ X.heap.size ≤ m
theorem MapIs.lt {X : World} {m : Nat} {es : Array MapEntry} {w : World} (h : MapIs X m es w) : m < w.heap.size := (Array.getElem?_eq_some_iff.1 h.1).1
theorem MapIs.turned {S : Nat → Prop} {X : World} {m : Nat} {es : Array MapEntry} {w w' : World} (h : MapIs X m es w) (tn : Tn S w w') (hS : ¬ S m) : MapIs X m es w' := ⟨(tn.block m h.lt hS).trans h.1, h.2⟩
theorem st_make (X : World) {w : World} (t : TypeId) (tn : Tn (fun k => X.heap.size ≤ k) X w) :
    ∃ m w', (Instr.makeMap t none).run Yba.prog w = .ok (.map (some m)) w' ∧ MapIs X m #[] w' ∧ Tn (fun _ => False) w w' ∧ Tn (fun k => X.heap.size ≤ k) X w' ∧ w.heap.size ≤ m :=
  ⟨w.heap.size, w.alloc (.map #[] 0), run_makeMap t w, ⟨Deep.blk_alloc_new w _, tn.size⟩, Tn.alloc _ _ _, tn.then (Tn.alloc _ _ _), Nat.le_refl _⟩
theorem exec_make {o : Oper} {a : Act} {w w' : World} {t : TypeId} {m : Nat} (ho : o.op = .makeMap t none) (hr : (Instr.makeMap t none).run Yba.prog w = .ok (.map (some m)) w') : (execOp a.eval o).run Yba.prog w = .ok (.value (.map (some m))) w' := by
  unfold execOp
  simp only [ho, Option.map_none, Sem.run_bind, Sem.run_pure, Result.andThen_ok, hr]

theorem checkKey31 (c : Nat) (emp : Bool) (w : World) : (Instr.checkKey emp 10000 31 (.chan (some c))).run Yba.prog w = .ok () w := by kernel_rfl
theorem equal31 (c c' : Nat) (w : World) : (Op.equal 31 (.chan (some c)) (.chan (some c'))).run Yba.prog w = .ok (some c == some c') w := by kernel_rfl
theorem st_ins {X w : World} {m : Nat} {es : Array MapEntry} (c : Nat) (f : Value) (h : MapIs X m es w) (tn : Tn (fun k => X.heap.size ≤ k) X w) (hes : es = #[] ∨ ∃ c' f', es = #[⟨.chan (some c'), f', 0⟩] ∧ c' ≠ c) :
    ∃ w', (Instr.mapUpdate 34 (.map (some m)) (.chan (some c)) f).run Yba.prog w = .ok () w' ∧ MapIs X m (es.push ⟨.chan (some c), f, es.size⟩) w' ∧ Tn (· = m) w w' ∧ Tn (fun k => X.heap.size ≤ k) X w' := by
  have hl := h.lt
  refine ⟨setBlock w m (.map (es.push ⟨.chan (some c), f, es.size⟩) (es.size + 1)), ?_, ⟨?_, h.2⟩, setBlock_tn _ _ _, tn.then ((setBlock_tn _ _ _).mono (fun k hk => by have := h.2; omega))⟩
  · rcases hes with rfl | ⟨c', f', rfl, hne⟩
    · simp [Instr.mapUpdate, run_underlying under34, MapKept.run_getObj_map h.1, checkKey31, Instr.findKey, Instr.findNow, MapKept.run_setObj_map _ h.1, setBlock]
    · have hq : (Op.equal 31 (.chan (some c)) (.chan (some c'))).run Yba.prog w = .ok false w := by
        rw [equal31]; simp [Ne.symm hne]
      simp [Instr.mapUpdate, run_underlying under34, MapKept.run_getObj_map h.1, checkKey31, Instr.findKey, Instr.findNow, Instr.sameNow, Instr.findAsking, hq, MapKept.run_setObj_map _ h.1, setBlock]
  · rw [setBlock_at _ hl]; simp
theorem exec_ins {o : Oper} {a : Act} {w w' : World} {x y z : Operand} {m c : Nat} {f : Value} (ho : o.op = .insert 34 x y z) (hx : a.eval x = .map (some m)) (hy : a.eval y = .chan (some c)) (hz : a.eval z = f)
    (hr : (Instr.mapUpdate 34 (.map (some m)) (.chan (some c)) f).run Yba.prog w = .ok () w') : (execOp a.eval o).run Yba.prog w = .ok .skip w' := by
  unfold execOp
  simp only [ho, hx, hy, hz, Sem.run_bind, Sem.run_pure, Result.andThen_ok, hr]
theorem build44 (c : Int) (mw ml : Nat) (w : World) : (Instr.build 44 #[(1, .int .i64 c), (2, .map (some mw)), (3, .map (some ml))]).run Yba.prog w = .ok (.agg #[.int .i32 0, .int .u32 0, .int .i64 c, .map (some mw), .map (some ml), .bool false]) w := by kernel_rfl
theorem exec_box44 {o : Oper} {a : Act} {w : World} {x : Operand} {c : Int} {mw ml : Nat} (ho : o.op = .box 44 x) (hx : a.eval x = .agg #[.int .i32 0, .int .u32 0, .int .i64 c, .map (some mw), .map (some ml), .bool false]) :
    (execOp a.eval o).run Yba.prog w = .ok (.value (.pointer (some ⟨w.heap.size, 0, none⟩))) (w.alloc (.cells #[.int .i32 0, .int .u32 0, .int .i64 c, .map (some mw), .map (some ml), .bool false] 44)) := by
  unfold execOp
  have : (Instr.box 44 (.agg #[.int .i32 0, .int .u32 0, .int .i64 c, .map (some mw), .map (some ml), .bool false])).run Yba.prog w = .ok (.pointer (some ⟨w.heap.size, 0, none⟩)) (w.alloc (.cells #[.int .i32 0, .int .u32 0, .int .i64 c, .map (some mw), .map (some ml), .bool false] 44)) := by kernel_rfl
  simp only [ho, hx, Sem.run_bind, Sem.run_pure, Result.andThen_ok, this]

theorem exec_assign {o : Oper} {a : Act} {w : World} {x : Operand} {v : Value} (ho : o.op = .assign x) (hx : a.eval x = v) : (execOp a.eval o).run Yba.prog w = .ok (.value v) w := by
  unfold execOp
  simp [ho, hx]
theorem exec_eql27To {o : Oper} {a : Act} {w : World} {x y : Operand} {s e : Int} {t : TypeId} (c : Bool) (hc : decide (s = e) = c) (ho : o.op = .binOp .eql 27 x y t) (hx : a.eval x = .agg (idA s)) (hy : a.eval y = .agg (idA e)) :
    (execOp a.eval o).run Yba.prog w = .ok (.value (.bool c)) w := by rw [exec_eql27 ho hx hy, hc]
theorem exec_neqTo {o : Oper} {a : Act} {w : World} {x y : Operand} {s e s' e' : Int} {t : TypeId} (c : Bool) (hc : (!(decide (s = s') && decide (e = e'))) = c) (ho : o.op = .binOp .neq 29 x y t) (hx : a.eval x = .agg (rngA s e)) (hy : a.eval y = .agg (rngA s' e')) :
    (execOp a.eval o).run Yba.prog w = .ok (.value (.bool c)) w := by rw [exec_neq29 ho hx hy, hc]
theorem exec_not {o : Oper} {a : Act} {w : World} {x : Operand} {t : TypeId} {c : Bool} (ho : o.op = .unOp .not t x) (hx : a.eval x = .bool c) : (execOp a.eval o).run Yba.prog w = .ok (.value (.bool (!c))) w := by
  have : (Op.unary .not (.bool c)).run Yba.prog w = .ok (.bool (!c)) w := rfl
  unfold execOp
  simp only [ho, hx, Sem.run_bind, Sem.run_pure, Result.andThen_ok, this]
theorem rngSl_one {g : Nat} {s e : Int} {W : World} (h : RngAt g s e W) : RngSl (some ⟨g, 0, none⟩) 1 (fun i => [(s, e)].getD i (0, 0)) W := fun _ => ⟨g, rfl, h.lt, fun i hi => by
  obtain rfl : i = 0 := by omega
  simpa using h.range⟩
theorem RngSl.kept {a : Option Addr} {n B : Nat} {f : Nat → Int × Int} {W W' : World} (h : RngSl a n f W) (hb : Below B W W') (hB : W.heap.size ≤ B) : RngSl a n f W' := fun hn => by
  obtain ⟨G, h1, h2, h3⟩ := h hn
  exact ⟨G, h1, Nat.lt_of_lt_of_le h2 hb.size, h3.kept hb (by omega)⟩
theorem exec_lenMap {o : Oper} {a : Act} {w : World} {x : Operand} {t k e : TypeId} {m c : Nat} {es : Array MapEntry} (ho : o.op = .call { callee := .builtin .len, args := #[x], argTypes := #[t] }) (hu : Yba.prog.underlying t = some (.map k e)) (hx : a.eval x = .map (some m)) (hb : w.heap[m]? = some (.map es c)) :
    (execOp a.eval o).run Yba.prog w = .ok (.value (.int .i64 es.size)) w := by
  unfold execOp
  simp [ho, resolve, invoke, builtin, hx, Builtin.len_, run_underlying hu, MapKept.run_getObj_map hb, goInt]
/-- What the law looks at in the end. -/
structure Fz (b mw ml c1 c2 g : Nat) (n rs re : Int) (W : World) : Prop where
  box : W.heap[b]? = some (.cells #[.int .i32 0, .int .u32 0, .int .i64 n, .map (some mw), .map (some ml), .bool false] 44 (0, 0))
  wat : WatAt mw c1 c2 W
  last : LastAt ml (some rs) re W
  rr : RngAt g rs re W
theorem Fz.fresh {b mw ml c1 c2 g : Nat} {n rs re : Int} {W W' : World} (h : Fz b mw ml c1 c2 g n rs re W) (tn : Tn (fun _ => False) W W') : Fz b mw ml c1 c2 g n rs re W' :=
  ⟨(tn.block b ((Array.getElem?_eq_some_iff.1 h.box).1) (by simp)).trans h.box, h.wat.same (tn.block mw h.wat.lt (by simp)), h.last.same (tn.block ml h.last.lt (by simp)), h.rr.same (tn.block g h.rr.lt (by simp))⟩
theorem Fz.cell {b mw ml c1 c2 g : Nat} {n rs re : Int} {W : World} (h : Fz b mw ml c1 c2 g n rs re W) : W.cell? ⟨b, 3, none⟩ = some (.map (some mw)) ∧ W.cell? ⟨b, 4, none⟩ = some (.map (some ml)) ∧ W.cell? ⟨b, 5, none⟩ = some (.bool false) := by
  refine ⟨?_, ?_, ?_⟩ <;> simp [World.cell?, h.box]
theorem exec_build44 {o : Oper} {a : Act} {w : World} {x y z : Operand} {c : Int} {mw ml : Nat} (ho : o.op = .build 44 #[(1, x), (2, y), (3, z)]) (hx : a.eval x = .int .i64 c) (hy : a.eval y = .map (some mw)) (hz : a.eval z = .map (some ml)) :
    (execOp a.eval o).run Yba.prog w = .ok (.value (.agg #[.int .i32 0, .int .u32 0, .int .i64 c, .map (some mw), .map (some ml), .bool false])) w :=
  exec_build ho #[(1, .int .i64 c), (2, .map (some mw)), (3, .map (some ml))] (by simp [hx, hy, hz]) (build44 c mw ml w)
/-- The watch, made. -/
theorem fin27 {X w : World} {c1 c2 cap mw ml : Nat} {L1 L2 : List (Int × Int)} {f1 f2 : Value} (n re : Int) (h1 : ChanAt c1 cap L1 X) (h2 : ChanAt c2 cap L2 X) (f34 : MapIs X mw #[⟨.chan (some c1), f1, 0⟩, ⟨.chan (some c2), f2, 1⟩] w) (f35 : MapIs X ml #[] w) (tn : Tn (fun k => X.heap.size ≤ k) X w) :
    St w.heap.size 0 n mw ml c1 c2 cap none re L1 L2 (w.alloc (.cells #[.int .i32 0, .int .u32 0, .int .i64 n, .map (some mw), .map (some ml), .bool false] 44)) ∧
      Tn (fun k => X.heap.size ≤ k) X (w.alloc (.cells #[.int .i32 0, .int .u32 0, .int .i64 n, .map (some mw), .map (some ml), .bool false] 44)) := by
  have ta := Tn.alloc (fun _ => False) w (.cells #[.int .i32 0, .int .u32 0, .int .i64 n, .map (some mw), .map (some ml), .bool false] 44)
  have tx : Tn (fun k => X.heap.size ≤ k) X (w.alloc (.cells #[.int .i32 0, .int .u32 0, .int .i64 n, .map (some mw), .map (some ml), .bool false] 44)) := tn.trans ta (by simp)
  have l1 := h1.lt
  have l2 := h2.lt
  exact ⟨⟨Deep.blk_alloc_new w _, ⟨f1, f2, (f34.turned ta (by simp)).1⟩, ⟨0, (f35.turned ta (by simp)).1⟩, h1.turned tx (by omega), h2.turned tx (by omega)⟩, tx⟩

section
variable {P : Program} {ops : Array Oper} {Q : Exit → Act → World → Prop} {S : World → Prop} {md : Region.Mode} {fuel : Nat} {listed : Array Bool} {a : Act} {w w' : World}
theorem ready2 {i j : Nat} (hr : Region.ready md ops listed = [i, j]) (hi : wpOp P ops Q i (fun a' w' => S w' ∧ wpAnyH P md ops Q S fuel (listed.setIfInBounds i true) a' w') a w)
    (hj : wpOp P ops Q j (fun a' w' => S w' ∧ wpAnyH P md ops Q S fuel (listed.setIfInBounds j true) a' w') a w) : wpAnyH P md ops Q S (fuel + 1) listed a w := by
  refine wpAnyH_all hr (by simp) fun x hx => ?_
  rcases List.mem_cons.1 hx with rfl | hx
  · exact hi
  · rcases List.mem_cons.1 hx with rfl | hx
    · exact hj
    · cases hx
theorem ready3 {i j k : Nat} (hr : Region.ready md ops listed = [i, j, k]) (hi : wpOp P ops Q i (fun a' w' => S w' ∧ wpAnyH P md ops Q S fuel (listed.setIfInBounds i true) a' w') a w)
    (hj : wpOp P ops Q j (fun a' w' => S w' ∧ wpAnyH P md ops Q S fuel (listed.setIfInBounds j true) a' w') a w) (hk : wpOp P ops Q k (fun a' w' => S w' ∧ wpAnyH P md ops Q S fuel (listed.setIfInBounds k true) a' w') a w) : wpAnyH P md ops Q S (fuel + 1) listed a w := by
  refine wpAnyH_all hr (by simp) fun x hx => ?_
  rcases List.mem_cons.1 hx with rfl | hx
  · exact hi
  · rcases List.mem_cons.1 hx with rfl | hx
    · exact hj
    · rcases List.mem_cons.1 hx with rfl | hx
      · exact hk
      · cases hx
theorem op_value {i : Nat} {oi : Oper} (d : Option Tmp) (v : Value) (hi : ops[i]? = some oi) (hd : oi.dst = d) (hw : Region.wanted oi (yielded ops a.tmps) = true) (hrun : (execOp a.eval oi).run P w = .ok (.value v) w') (hS : S w')
    (h : wpAnyH P md ops Q S fuel (listed.setIfInBounds i true) (a.put d v) w') : wpOp P ops Q i (fun a' w' => S w' ∧ wpAnyH P md ops Q S fuel (listed.setIfInBounds i true) a' w') a w := by
  subst hd
  simp only [wpOp, hi, hw, if_true]
  left
  unfold Oper.wp
  rw [hrun]
  exact ⟨hS, h⟩
theorem op_skip {i : Nat} {oi : Oper} (d : Option Tmp) (hi : ops[i]? = some oi) (hd : oi.dst = d) (hw : Region.wanted oi (yielded ops a.tmps) = true) (hrun : (execOp a.eval oi).run P w = .ok .skip w') (hS : S w')
    (h : wpAnyH P md ops Q S fuel (listed.setIfInBounds i true) (a.put d undef) w') : wpOp P ops Q i (fun a' w' => S w' ∧ wpAnyH P md ops Q S fuel (listed.setIfInBounds i true) a' w') a w := by
  subst hd
  simp only [wpOp, hi, hw, if_true]
  left
  unfold Oper.wp
  rw [hrun]
  exact ⟨hS, h⟩
theorem only_call {i : Nat} {oi : Oper} (d : Option Tmp) (v : Value) {f : FuncId} {args : Array Value} {R : World → Prop} (hi : ops[i]? = some oi) (hd : oi.dst = d) (hr : Region.ready md ops listed = [i]) (hw : Region.wanted oi (yielded ops a.tmps) = true)
    (hrun : (execOp a.eval oi).run P w = .ok (.enter f args) w') (hc : Calls P f args w' fun x W => x = .returned v ∧ R W) (h : ∀ W, R W → S W ∧ wpAnyH P md ops Q S fuel (listed.setIfInBounds i true) (a.put d v) W) : wpAnyH P md ops Q S (fuel + 1) listed a w := by
  subst hd
  exact only_op hi hr hw (wp_enter hrun hc h)
end
end Go.Proofs.Ybulkahii
