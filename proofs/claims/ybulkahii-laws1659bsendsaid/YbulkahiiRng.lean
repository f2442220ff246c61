/-
  LawS1659BSend: a range made of two bytes.
-/
import Derived.Test.YbulkahiiIds
import Derived.OrdersHeld
import Derived.Deep.RegionHeld
namespace Go.Proofs.Ybulkahii
open Go.RowKit Go.Conc

def zero40 : Array Value := #[Value.int .u8 0, Value.int .u8 0, Value.int .u8 0, Value.int .u8 0, Value.int .u8 0, Value.int .u8 0, Value.int .u8 0, Value.int .u8 0, Value.int .u8 0, Value.int .u8 0, Value.int .u8 0, Value.int .u8 0, Value.int .u8 0, Value.int .u8 0, Value.int .u8 0, Value.int .u8 0, Value.int .u8 0, Value.int .u8 0, Value.int .u8 0, Value.int .u8 0, Value.int .u8 0, Value.int .u8 0, Value.int .u8 0, Value.int .u8 0, Value.int .u8 0, Value.int .u8 0, Value.int .u8 0, Value.int .u8 0, Value.int .u8 0, Value.int .u8 0, Value.int .u8 0, Value.int .u8 0, Value.int .u8 0, Value.int .u8 0, Value.int .u8 0, Value.int .u8 0, Value.int .u8 0, Value.int .u8 0, Value.int .u8 0, Value.int .u8 0]
theorem zero40_size : zero40.size = 40 := by simp [zero40]
theorem size29 : (Yba.prog.info? 29).map (·.size) = some 40 := by kernel_rfl
theorem build29v (s x e y : Int) (w : World) : (Instr.build 29 #[(0, .agg #[.int .u8 s, .int .u8 0, .int .u8 0, .int .u8 0, .int .u8 0, .int .u8 0, .int .u8 0, .int .u8 0, .int .u8 0, .int .u8 0, .int .u8 0, .int .u8 0, .int .u8 0, .int .u8 0, .int .u8 0, .int .u8 0, .int .u8 0, .int .u8 0, .int .u8 0, .int .u8 x]), (1, .agg #[.int .u8 e, .int .u8 0, .int .u8 0, .int .u8 0, .int .u8 0, .int .u8 0, .int .u8 0, .int .u8 0, .int .u8 0, .int .u8 0, .int .u8 0, .int .u8 0, .int .u8 0, .int .u8 0, .int .u8 0, .int .u8 0, .int .u8 0, .int .u8 0, .int .u8 0, .int .u8 y])]).run Yba.prog w = .ok (.agg #[.int .u8 s, .int .u8 0, .int .u8 0, .int .u8 0, .int .u8 0, .int .u8 0, .int .u8 0, .int .u8 0, .int .u8 0, .int .u8 0, .int .u8 0, .int .u8 0, .int .u8 0, .int .u8 0, .int .u8 0, .int .u8 0, .int .u8 0, .int .u8 0, .int .u8 0, .int .u8 x, .int .u8 e, .int .u8 0, .int .u8 0, .int .u8 0, .int .u8 0, .int .u8 0, .int .u8 0, .int .u8 0, .int .u8 0, .int .u8 0, .int .u8 0, .int .u8 0, .int .u8 0, .int .u8 0, .int .u8 0, .int .u8 0, .int .u8 0, .int .u8 0, .int .u8 0, .int .u8 y]) w := by kernel_rfl
theorem build29 (s e : Int) (w : World) : (Instr.build 29 #[(0, .agg (idA s)), (1, .agg (idA e))]).run Yba.prog w = .ok (.agg (rngA s e)) w := by
  have h := build29v s (bits .xor .u8 s 90) e (bits .xor .u8 e 90) w
  simpa [idA, idL, rngA] using h
theorem rngA_one (s e : Int) : (rngA s e).all (·.oneCell') = true := by simp [rngA, idA, idL, Value.oneCell']

/-- The two blocks of the making. -/
structure Two (B : Nat) (s e : Int) (Z : Array Value) (w : World) (W : World) : Prop where
  box : W.heap[B]? = some (.cells #[.int .u8 s, .int .u8 e] 24 (0, 0))
  row : W.heap[B + 1]? = some (.cells Z 29 (0, 0))
  size : B + 2 ≤ W.heap.size
  below : Below B w W
theorem Two.drew {B : Nat} {s e : Int} {Z : Array Value} {w W : World} (h : Two B s e Z w W) : Two B s e Z w W.drew := ⟨h.box, h.row, h.size, h.below.drew⟩
theorem Two.kept {B : Nat} {s e : Int} {Z : Array Value} {w W W' : World} (h : Two B s e Z w W) (hb : Below W.heap.size W W') : Two B s e Z w W' :=
  ⟨by rw [hb.block _ (Nat.lt_of_lt_of_le (by omega) h.size)]; exact h.box, by rw [hb.block _ (Nat.lt_of_lt_of_le (by omega) h.size)]; exact h.row, Nat.le_trans h.size hb.size,
    h.below.trans (hb.mono (Nat.le_trans (by omega) h.size))⟩
theorem Two.cell0 {B : Nat} {s e : Int} {Z : Array Value} {w W : World} (h : Two B s e Z w W) : W.cell? ⟨B, 0, none⟩ = some (.int .u8 s) := by simp [World.cell?, h.box]
theorem Two.cell1 {B : Nat} {s e : Int} {Z : Array Value} {w W : World} (h : Two B s e Z w W) : W.cell? ⟨B, 1, none⟩ = some (.int .u8 e) := by simp [World.cell?, h.box]

theorem Two.stored {B : Nat} {s e : Int} {Z : Array Value} {w W : World} (h : Two B s e Z w W) (C : Array Value) : Two B s e C w (W.setRow (B + 1) C) :=
  ⟨by rw [(setRow_below W (B + 1) (B + 1) C (Nat.le_refl _)).block _ (by omega)]; exact h.box, setRow_same _ _ _ _ _ h.row, by rw [setRow_size]; exact h.size, h.below.trans (setRow_below _ _ _ _ (by omega))⟩

section
variable {P : Program} {ops : Array Oper} {Q : Exit → Act → World → Prop} {S : World → Prop} {md : Region.Mode}
/-- An operation that only reads, taken first. -/
theorem take_run {i : Nat} {oi : Oper} {v : Value} {fuel : Nat} {listed : Array Bool} {a : Act} {w : World} (hi : ops[i]? = some oi) (hs : Region.noSelect ops = true) (hf : Region.free md ops listed i = true)
    (hr : (Region.ready md ops listed).contains i = true) (hQ : ∀ c a w, Q (.panic c) (a.put oi.dst v) w → Q (.panic c) a w) (hw : Region.wanted oi (yielded ops a.tmps) = true)
    (hrun : ∀ W, S W → (execOp a.eval oi).run P W = .ok (.value v) W) (hS : S w) (h : wpAnyH P md ops Q S fuel (listed.setIfInBounds i true) (a.put oi.dst v) w) : wpAnyH P md ops Q S (fuel + 1) listed a w :=
  wpAnyH_take hi hs hf hr hQ (.inl ⟨hw, hrun⟩) hS h
/-- A call of a Go function, by its contract. -/
theorem wp_enter {o : Oper} {a : Act} {w w' : World} {f : FuncId} {args : Array Value} {K : Act → World → Prop} {v : Value} {R : World → Prop} (hr : (execOp a.eval o).run P w = .ok (.enter f args) w')
    (hc : Calls P f args w' fun x W => x = .returned v ∧ R W) (h : ∀ W, R W → K (a.put o.dst v) W) : o.wp P a w K Q := by
  unfold Oper.wp
  rw [hr, Oper.upon_enter]
  refine hc.mono ?_
  rintro x W ⟨rfl, hR⟩
  exact h W hR
theorem exec_build {o : Oper} {a : Act} {w : World} {t : TypeId} {parts : Array (Nat × Operand)} (ho : o.op = .build t parts) (vs : Array (Nat × Value)) (hv : (parts.toList.map fun p => (p.1, a.eval p.2)) = vs.toList) {v : Value}
    (hrun : (Instr.build t vs).run P w = .ok v w) : (execOp a.eval o).run P w = .ok (.value v) w := by
  have hv' : (parts.map fun p => (p.1, a.eval p.2)) = vs := Array.ext' (by rw [Array.toList_map]; exact hv)
  unfold execOp
  simp only [ho, hv', Sem.run_bind, hrun, Sem.run_pure, Result.andThen_ok]
/-- The one operation that may come up. -/
theorem only_op {i : Nat} {oi : Oper} {fuel : Nat} {listed : Array Bool} {a : Act} {w : World} (hi : ops[i]? = some oi) (hr : Region.ready md ops listed = [i]) (hw : Region.wanted oi (yielded ops a.tmps) = true)
    (h : oi.wp P a w (fun a' w' => S w' ∧ wpAnyH P md ops Q S fuel (listed.setIfInBounds i true) a' w') Q) : wpAnyH P md ops Q S (fuel + 1) listed a w := by
  refine wpAnyH_all hr (by simp) fun j hj => ?_
  obtain rfl : j = i := by simpa using hj
  simp only [wpOp, hi, hw, if_true]
  exact .inl h
end

set_option maxRecDepth 100000 in
set_option maxHeartbeats 1600000 in
theorem rng4 (s e : Int) (w : World) : Calls Yba.prog 4 #[.agg #[.int .u8 s, .int .u8 e]] w fun x w' => x = .returned (.agg (rngA s e)) ∧ Below w.heap.size w w' := by
  obtain ⟨Z, hZ⟩ : ∃ Z, Hid (Z = zero40) := ⟨_, rfl⟩
  have zs : Z.size = 40 := by rw [hZ.out]; exact zero40_size
  obtain ⟨A, hA⟩ : ∃ A, Hid (A = idA s) := ⟨_, rfl⟩
  obtain ⟨B, hB⟩ : ∃ B, Hid (B = idA e) := ⟨_, rfl⟩
  obtain ⟨C, hC⟩ : ∃ C, Hid (C = rngA s e) := ⟨_, rfl⟩
  have hbuild : ∀ W, (Instr.build 29 #[(0, .agg A), (1, .agg B)]).run Yba.prog W = .ok (.agg C) W := by rw [hA.out, hB.out, hC.out]; exact build29 s e
  have sC : C.size = 40 := by rw [hC.out]; exact rngA_size s e
  have i29 : Hid ((Yba.prog.info? 29).map (·.size) = some C.size) := by rw [sC]; exact size29
  have c1 : Hid (C.all (·.oneCell') = true) := by rw [hC.out]; exact rngA_one s e
  have id1 : ∀ W, Calls Yba.prog 7 #[.int .u8 s] W fun x W' => x = .returned (.agg A) ∧ Below W.heap.size W W' := by rw [hA.out]; exact id7 s
  have id2 : ∀ W, Calls Yba.prog 7 #[.int .u8 e] W fun x W' => x = .returned (.agg B) ∧ Below W.heap.size W W' := by rw [hB.out]; exact id7 e
  have ID1 : Hid _ := id1
  have ID2 : Hid _ := id2
  clear id1 id2
  go_enter Yba.func4, Yba.ntmps4
  go_upto_region 1 with fail
  rw [show (#[Value.int IntKind.u8 0, Value.int IntKind.u8 0, Value.int IntKind.u8 0, Value.int IntKind.u8 0, Value.int IntKind.u8 0, Value.int IntKind.u8 0, Value.int IntKind.u8 0, Value.int IntKind.u8 0, Value.int IntKind.u8 0, Value.int IntKind.u8 0, Value.int IntKind.u8 0, Value.int IntKind.u8 0, Value.int IntKind.u8 0, Value.int IntKind.u8 0, Value.int IntKind.u8 0, Value.int IntKind.u8 0, Value.int IntKind.u8 0, Value.int IntKind.u8 0, Value.int IntKind.u8 0, Value.int IntKind.u8 0, Value.int IntKind.u8 0, Value.int IntKind.u8 0, Value.int IntKind.u8 0, Value.int IntKind.u8 0, Value.int IntKind.u8 0, Value.int IntKind.u8 0, Value.int IntKind.u8 0, Value.int IntKind.u8 0, Value.int IntKind.u8 0, Value.int IntKind.u8 0, Value.int IntKind.u8 0, Value.int IntKind.u8 0, Value.int IntKind.u8 0, Value.int IntKind.u8 0, Value.int IntKind.u8 0, Value.int IntKind.u8 0, Value.int IntKind.u8 0, Value.int IntKind.u8 0, Value.int IntKind.u8 0, Value.int IntKind.u8 0] : Array Value) = Z from by rw [hZ.out]; rfl]
  have two : Hid (Two w.heap.size s e Z w ((w.alloc (.cells #[.int .u8 s, .int .u8 e] 24)).alloc (.cells Z 29))) :=
    ⟨heap2_0 w _ _, heap2_1 w _ _, by show _ ≤ (Array.push _ _).size; simp, ((Below.refl _ w).alloc (Nat.le_refl _) _).alloc (by show _ ≤ (w.heap.push _).size; simp) _⟩
  generalize (w.alloc (.cells #[.int .u8 s, .int .u8 e] 24)).alloc (.cells Z 29) = W0 at two ⊢
  have hm : Yba.prog.follows .mixedOrders = true := by kernel_rfl
  refine wp_region_held (S := fun W => ∃ Z, Z.size = 40 ∧ Two w.heap.size s e Z w W) hm ?_
  have S0 : ∃ Z, Z.size = 40 ∧ Two w.heap.size s e Z w ({ W0 with drawn := W0.drawn + 1 } : World) := ⟨Z, zs, two.out.drew⟩
  refine take_run (i := 0) (v := .pointer (some ⟨w.heap.size, 0, none⟩)) rfl (by kernel_rfl) (by kernel_rfl) (by kernel_rfl) (fun _ _ _ h => h) rfl (fun W hW => by simp [execOp, go_sem, Act.eval]) S0 ?_
  refine take_run (i := 1) (v := .int .u8 s) rfl (by kernel_rfl) (by kernel_rfl) (by kernel_rfl) (fun _ _ _ h => h) rfl (fun W ⟨_, _, hW⟩ => by have := hW.cell0; simp [execOp, go_sem, Act.eval, this]) S0 ?_
  refine take_run (i := 3) (v := .pointer (some ⟨w.heap.size, 1, none⟩)) rfl (by kernel_rfl) (by kernel_rfl) (by kernel_rfl) (fun _ _ _ h => h) rfl (fun W hW => by simp [execOp, go_sem, Act.eval]) S0 ?_
  refine take_run (i := 4) (v := .int .u8 e) rfl (by kernel_rfl) (by kernel_rfl) (by kernel_rfl) (fun _ _ _ h => h) rfl (fun W ⟨_, _, hW⟩ => by have := hW.cell1; simp [execOp, go_sem, Act.eval, this]) S0 ?_
  change wpAnyH Yba.prog .any _ _ _ 4 #[true, true, false, true, true, false, false, false] ⟨#[.agg #[.int .u8 s, .int .u8 e], .pointer (some ⟨w.heap.size, 0, none⟩), .pointer (some ⟨w.heap.size + 1, 0, none⟩), .pointer (some ⟨w.heap.size, 0, none⟩), .int .u8 s, undef, .pointer (some ⟨w.heap.size, 1, none⟩), .int .u8 e, undef, undef], []⟩ _
  refine only_op (i := 2) rfl (by kernel_rfl) rfl ?_
  refine wp_enter (w' := W0.drew) (f := 7) (args := #[.int .u8 s]) (by simp [execOp, go_sem, Act.eval]) (ID1.out _) fun W1 hb => ?_
  have two1 : Two w.heap.size s e Z w W1 := two.out.drew.kept hb
  refine ⟨⟨Z, zs, two1⟩, ?_⟩
  change wpAnyH Yba.prog .any _ _ _ 3 #[true, true, true, true, true, false, false, false] ⟨#[.agg #[.int .u8 s, .int .u8 e], .pointer (some ⟨w.heap.size, 0, none⟩), .pointer (some ⟨w.heap.size + 1, 0, none⟩), .pointer (some ⟨w.heap.size, 0, none⟩), .int .u8 s, .agg A, .pointer (some ⟨w.heap.size, 1, none⟩), .int .u8 e, undef, undef], []⟩ W1
  refine only_op (i := 5) rfl (by kernel_rfl) rfl ?_
  refine wp_enter (w' := W1) (f := 7) (args := #[.int .u8 e]) (by simp [execOp, go_sem, Act.eval]) (ID2.out _) fun W2 hb2 => ?_
  have two2 : Two w.heap.size s e Z w W2 := two1.kept hb2
  refine ⟨⟨Z, zs, two2⟩, ?_⟩
  change wpAnyH Yba.prog .any _ _ _ 2 #[true, true, true, true, true, true, false, false] ⟨#[.agg #[.int .u8 s, .int .u8 e], .pointer (some ⟨w.heap.size, 0, none⟩), .pointer (some ⟨w.heap.size + 1, 0, none⟩), .pointer (some ⟨w.heap.size, 0, none⟩), .int .u8 s, .agg A, .pointer (some ⟨w.heap.size, 1, none⟩), .int .u8 e, .agg B, undef], []⟩ W2
  refine take_run (i := 6) (v := .agg C) rfl (by kernel_rfl) (by kernel_rfl) (by kernel_rfl) (fun _ _ _ h => h) rfl (fun W _ => exec_build rfl #[(0, .agg A), (1, .agg B)] rfl (hbuild W)) ⟨Z, zs, two2⟩ ?_
  change wpAnyH Yba.prog .any _ _ _ 1 #[true, true, true, true, true, true, true, false] ⟨#[.agg #[.int .u8 s, .int .u8 e], .pointer (some ⟨w.heap.size, 0, none⟩), .pointer (some ⟨w.heap.size + 1, 0, none⟩), .pointer (some ⟨w.heap.size, 0, none⟩), .int .u8 s, .agg A, .pointer (some ⟨w.heap.size, 1, none⟩), .int .u8 e, .agg B, .agg C], []⟩ W2
  refine only_op (i := 7) rfl (by kernel_rfl) rfl ?_
  refine wp_store_row 29 (.tmp 2) (.tmp 9) rfl (w.heap.size + 1) C rfl rfl 29 Z two2.row i29.out (by rw [zs, sC]) c1.out ?_
  refine ⟨⟨C, sC, two2.stored C⟩, ?_⟩
  change wpAnyH Yba.prog .any _ _ _ 0 #[true, true, true, true, true, true, true, true] ⟨#[.agg #[.int .u8 s, .int .u8 e], .pointer (some ⟨w.heap.size, 0, none⟩), .pointer (some ⟨w.heap.size + 1, 0, none⟩), .pointer (some ⟨w.heap.size, 0, none⟩), .int .u8 s, .agg A, .pointer (some ⟨w.heap.size, 1, none⟩), .int .u8 e, .agg B, .agg C], []⟩ _
  refine wpAnyH_done (by kernel_rfl) ?_ _
  have two3 : Hid (Two w.heap.size s e C w (W2.setRow (w.heap.size + 1) C)) := two2.stored C
  generalize W2.setRow (w.heap.size + 1) C = W3 at two3 ⊢
  clear hb hb2 two1 two2
  go_wp2
  have hl := run_loadVar_row (P := Yba.prog) W3 (w.heap.size + 1) 29 29 C (0, 0) _ two3.out.row Yba.underlying29 rfl i29.out
  refine bodyPost_ret (v := .agg C) (results_cell Yba.results4 rfl hl) rfl ⟨by rw [hC.out], two3.out.below⟩
end Go.Proofs.Ybulkahii
