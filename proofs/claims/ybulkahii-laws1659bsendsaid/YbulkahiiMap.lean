/-
  LawS1659BSend: the map of the last ranges (at most one entry), the map of the watchers (two channels), the watch itself.
-/
import Derived.Test.YbulkahiiTake
import Derived.Maps.RangeRun
namespace Go.Proofs.Ybulkahii
open Go.RowKit Go.Conc
open Go.ChangeMaps (setBlock)

theorem checkKey27v (emp : Bool) (b y : Int) (w : World) : (Instr.checkKey emp 10000 27 (.agg #[.int .u8 b, .int .u8 0, .int .u8 0, .int .u8 0, .int .u8 0, .int .u8 0, .int .u8 0, .int .u8 0, .int .u8 0, .int .u8 0, .int .u8 0, .int .u8 0, .int .u8 0, .int .u8 0, .int .u8 0, .int .u8 0, .int .u8 0, .int .u8 0, .int .u8 0, .int .u8 y])).run Yba.prog w = .ok () w := by kernel_rfl
theorem checkKey27 (emp : Bool) (b : Int) (w : World) : (Instr.checkKey emp 10000 27 (.agg (idA b))).run Yba.prog w = .ok () w := by
  have h := checkKey27v emp b (bits .xor .u8 b 90) w
  simpa [idA, idL] using h
theorem equal27 (b : Int) (w : World) : (Op.equal 27 (.agg (idA b)) (.agg (idA b))).run Yba.prog w = .ok true w := by
  have h := eqId 9998 b b w
  rw [show (9998 : Nat) + 2 = 10000 from rfl, decide_eq_true rfl] at h
  exact h
theorem findKey_none (b : Int) (w : World) : (Instr.findKey 27 (.agg (idA b)) []).run Yba.prog w = .ok none w := by
  simp [Instr.findKey, run_underlying under27, Instr.findNow]
theorem findKey_one (b : Int) (v : Value) (n : Nat) (w : World) : (Instr.findKey 27 (.agg (idA b)) [⟨.agg (idA b), v, n⟩]).run Yba.prog w = .ok (some (0, v)) w := by
  simp [Instr.findKey, run_underlying under27, Instr.findNow, Instr.sameNow, Instr.findAsking, equal27]
theorem sameBits27 (b : Int) : Instr.sameBits 10000 (.agg (idA b)) (.agg (idA b)) = true := by
  simp [idA, idL, Instr.sameBits]

/-- The last range of the id re, if any; no other. -/
def LastAt (ml : Nat) (o : Option Int) (re : Int) (W : World) : Prop :=
  match o with
  | none => ∃ k, W.heap[ml]? = some (.map #[] k)
  | some s => ∃ n k, W.heap[ml]? = some (.map #[⟨.agg (idA re), .agg (rngA s re), n⟩] k)
theorem LastAt.lt {ml : Nat} {o : Option Int} {re : Int} {W : World} (h : LastAt ml o re W) : ml < W.heap.size := by
  cases o with
  | none => obtain ⟨k, h⟩ := h; exact (Array.getElem?_eq_some_iff.1 h).1
  | some s => obtain ⟨n, k, h⟩ := h; exact (Array.getElem?_eq_some_iff.1 h).1
theorem LastAt.same {ml : Nat} {o : Option Int} {re : Int} {W W' : World} (h : LastAt ml o re W) (hs : W'.heap[ml]? = W.heap[ml]?) : LastAt ml o re W' := by
  cases o with
  | none => obtain ⟨k, h⟩ := h; exact ⟨k, hs.trans h⟩
  | some s => obtain ⟨n, k, h⟩ := h; exact ⟨n, k, hs.trans h⟩

theorem under35 : Yba.prog.underlying 35 = some (.map 27 29) := by kernel_rfl
theorem under34 : Yba.prog.underlying 34 = some (.map 31 33) := by kernel_rfl
/-- 'last, ok := w.last[r.End]'. -/
theorem look_none {ml : Nat} {re : Int} {W : World} (h : LastAt ml none re W) : (Instr.lookup 35 (.map (some ml)) (.agg (idA re)) true).run Yba.prog W = .ok (.tuple #[.agg zero40, .bool false]) W := by
  obtain ⟨k, h⟩ := h
  simp [Instr.lookup, run_underlying under35, MapKept.run_getObj_map h, checkKey27, findKey_none]
  rfl
theorem look_some {ml : Nat} {s re : Int} {W : World} (h : LastAt ml (some s) re W) : (Instr.lookup 35 (.map (some ml)) (.agg (idA re)) true).run Yba.prog W = .ok (.tuple #[.agg (rngA s re), .bool true]) W := by
  obtain ⟨n, k, h⟩ := h
  simp [Instr.lookup, run_underlying under35, MapKept.run_getObj_map h, checkKey27, findKey_one]

theorem setBlock_tn (W : World) (b : Nat) (o : Obj) : Tn (· = b) W (setBlock W b o) :=
  ⟨rfl, rfl, rfl, by simp [setBlock], fun k _ hk => by simp [setBlock, Ne.symm hk]⟩
theorem setBlock_at {W : World} {b : Nat} (o : Obj) (h : b < W.heap.size) : (setBlock W b o).heap[b]? = some o := by simp [setBlock, h]
/-- 'w.last[r.End] = r'. -/
theorem put_last {ml : Nat} {o : Option Int} {s re : Int} {W : World} (h : LastAt ml o re W) :
    ∃ W', (Instr.mapUpdate 35 (.map (some ml)) (.agg (idA re)) (.agg (rngA s re))).run Yba.prog W = .ok () W' ∧ LastAt ml (some s) re W' ∧ Tn (· = ml) W W' := by
  have hl := h.lt
  cases o with
  | none =>
    obtain ⟨k, h⟩ := h
    refine ⟨setBlock W ml (.map #[⟨.agg (idA re), .agg (rngA s re), k⟩] (k + 1)), ?_, ⟨k, k + 1, setBlock_at _ hl⟩, setBlock_tn _ _ _⟩
    simp [Instr.mapUpdate, run_underlying under35, MapKept.run_getObj_map h, checkKey27, findKey_none, MapKept.run_setObj_map _ h, setBlock]
  | some s' =>
    obtain ⟨n, k, h⟩ := h
    refine ⟨setBlock W ml (.map #[⟨.agg (idA re), .agg (rngA s re), n⟩] k), ?_, ⟨n, k, setBlock_at _ hl⟩, setBlock_tn _ _ _⟩
    simp [Instr.mapUpdate, run_underlying under35, MapKept.run_getObj_map h, checkKey27, findKey_one, Instr.keyThatStays, sameBits27, MapKept.run_setObj_map _ h, setBlock]

/-- The map of two watchers. -/
def WatAt (mw c1 c2 : Nat) (W : World) : Prop := ∃ f1 f2, W.heap[mw]? = some (.map #[⟨.chan (some c1), f1, 0⟩, ⟨.chan (some c2), f2, 1⟩] 2)
/-- The iterator. -/
def IterAt (it mw : Nat) (d1 d2 : Bool) (W : World) : Prop := ∃ seen : Array Nat, W.heap[it]? = some (.mapIter (some mw) 2 seen 2) ∧ seen.contains 0 = d1 ∧ seen.contains 1 = d2
theorem WatAt.same {mw c1 c2 : Nat} {W W' : World} (h : WatAt mw c1 c2 W) (hs : W'.heap[mw]? = W.heap[mw]?) : WatAt mw c1 c2 W' := by
  obtain ⟨f1, f2, h⟩ := h; exact ⟨f1, f2, hs.trans h⟩
theorem WatAt.lt {mw c1 c2 : Nat} {W : World} (h : WatAt mw c1 c2 W) : mw < W.heap.size := by
  obtain ⟨f1, f2, h⟩ := h; exact (Array.getElem?_eq_some_iff.1 h).1
theorem IterAt.same {it mw : Nat} {d1 d2 : Bool} {W W' : World} (h : IterAt it mw d1 d2 W) (hs : W'.heap[it]? = W.heap[it]?) : IterAt it mw d1 d2 W' := by
  obtain ⟨f1, h, r⟩ := h; exact ⟨f1, hs.trans h, r⟩
theorem IterAt.lt {it mw : Nat} {d1 d2 : Bool} {W : World} (h : IterAt it mw d1 d2 W) : it < W.heap.size := by
  obtain ⟨f1, h, _⟩ := h; exact (Array.getElem?_eq_some_iff.1 h).1
/-- The step: nothing left; or one of the two that are left. -/
theorem next_step {it mw c1 c2 : Nat} {d1 d2 : Bool} {W : World} (hi : IterAt it mw d1 d2 W) (hm : WatAt mw c1 c2 W) (ty : TypeId) :
    (d1 = true ∧ d2 = true ∧ (Instr.next (.pointer (some ⟨it, 0, none⟩)) false ty).run Yba.prog W = .ok (.tuple #[.bool false]) W) ∨
    (∃ k v W', (Instr.next (.pointer (some ⟨it, 0, none⟩)) false ty).run Yba.prog W = .ok (.tuple #[.bool true, k, v]) W' ∧ Tn (· = it) W W' ∧
      ((d1 = false ∧ IterAt it mw true d2 W' ∧ ∃ x, (Instr.entry (.pointer (some ⟨it, 0, none⟩))).run Yba.prog W' = .ok (.tuple #[.chan (some c1), x]) W') ∨
       (d2 = false ∧ IterAt it mw d1 true W' ∧ ∃ x, (Instr.entry (.pointer (some ⟨it, 0, none⟩))).run Yba.prog W' = .ok (.tuple #[.chan (some c2), x]) W'))) := by
  have hlt := hi.lt
  obtain ⟨seen, hi, h1, h2⟩ := hi
  obtain ⟨f1, f2, hm⟩ := hm
  have hne : it ≠ mw := fun e => by subst e; rw [hi] at hm; cases hm
  rcases run_next_at (P := Yba.prog) W ty it mw 2 2 seen _ 2 hi hm (by simp) (Nat.le_refl _) with ⟨h0, hr⟩ | ⟨e, he, w1, hw1, hr⟩
  · left
    have ha := all_seen _ _ h0
    exact ⟨by rw [← h1]; exact ha ⟨.chan (some c1), f1, 0⟩ (by simp), by rw [← h2]; exact ha ⟨.chan (some c2), f2, 1⟩ (by simp), hr⟩
  · right
    have hw1h : w1.heap = W.heap := by rcases hw1 with rfl | rfl <;> rfl
    have hm' : (setBlock w1 it (.mapIter (some mw) 2 (seen.push e.born) 2)).heap[mw]? = some (.map #[⟨.chan (some c1), f1, 0⟩, ⟨.chan (some c2), f2, 1⟩] 2) := by
      simp [setBlock, hne, hw1h, hm]
    have hi' : (setBlock w1 it (.mapIter (some mw) 2 (seen.push e.born) 2)).heap[it]? = some (.mapIter (some mw) 2 (seen.push e.born) 2) := setBlock_at _ (by rw [hw1h]; exact hlt)
    have hen := run_entry_at (P := Yba.prog) _ it mw 2 seen _ 2 e hi' hm' (mem_left he).1 (by simp)
    have htn : Tn (· = it) W (setBlock w1 it (.mapIter (some mw) 2 (seen.push e.born) 2)) := by
      rcases hw1 with rfl | rfl
      · exact setBlock_tn _ _ _
      · exact (Tn.drew _ W).then (setBlock_tn _ _ _)
    refine ⟨_, _, _, hr, htn, ?_⟩
    have hmem := mem_left he
    have hcases : e = ⟨.chan (some c1), f1, 0⟩ ∨ e = ⟨.chan (some c2), f2, 1⟩ := by simpa using hmem.1
    rcases hcases with rfl | rfl
    · left
      exact ⟨by rw [← h1]; exact hmem.2, ⟨_, hi', by simp, by rw [← h2]; simp⟩, f1, hen⟩
    · right
      exact ⟨by rw [← h2]; exact hmem.2, ⟨_, hi', by rw [← h1]; simp, by simp⟩, f2, hen⟩
end Go.Proofs.Ybulkahii
