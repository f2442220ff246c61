/-
  LawS1659BSend: ids and ranges, as arrays that are not looked into.
-/
import Derived.Test.YbulkahiiComm
import Derived.WalkSpells
import Derived.Laws.StructEq
import Derived.ChangeKeysEq
import Derived.Deep.MidRow
import Derived.Deep.WholeRow
import Derived.Deep.QuietTactic
import Derived.BigQuiet
import Derived.Below
import Derived.Deep.OwnRows
import Derived.Deep.DeepCutAuto
namespace Go.Proofs.Ybulkahii
open Go.RowKit Go.Conc

/-- The bytes of the id that b names. -/
def idL (b : Int) : List Int := [b, 0, 0, 0, 0, 0, 0, 0, 0, 0, 0, 0, 0, 0, 0, 0, 0, 0, 0, bits .xor .u8 b 90]
def idA (b : Int) : Array Value := ((idL b).map (Value.int .u8)).toArray
/-- The range from s to e. -/
def rngA (s e : Int) : Array Value := idA s ++ idA e

theorem idA_size (b : Int) : (idA b).size = 20 := by simp [idA, idL]
theorem rngA_size (s e : Int) : (rngA s e).size = 40 := by simp [rngA, idA_size]
theorem idA_inj {a b : Int} (h : idA a = idA b) : a = b := by
  have := congrArg (fun A => A[0]?) h
  simpa [idA, idL] using this

/-- Twenty noughts. -/
def zero20 : Array Value := #[.int .u8 0, .int .u8 0, .int .u8 0, .int .u8 0, .int .u8 0, .int .u8 0, .int .u8 0, .int .u8 0, .int .u8 0, .int .u8 0, .int .u8 0, .int .u8 0, .int .u8 0, .int .u8 0, .int .u8 0, .int .u8 0, .int .u8 0, .int .u8 0, .int .u8 0, .int .u8 0]
theorem zero20_size : zero20.size = 20 := by simp [zero20]
theorem zero20_0 : zero20[0]? = some (.int .u8 0) := by simp [zero20]
theorem zero20_19 : zero20[19]? = some (.int .u8 0) := by simp [zero20]
theorem zero20_id (b : Int) : (zero20.setIfInBounds 0 (.int .u8 b)).setIfInBounds 19 (.int .u8 (bits .xor .u8 b 90)) = idA b := by simp [zero20, idA, idL]

theorem size27 : (Yba.prog.info? 27).map (·.size) = some 20 := by kernel_rfl
theorem under27 : Yba.prog.underlying 27 = some (.array 20 5) := by kernel_rfl
theorem idA_one (b : Int) : (idA b).all (·.oneCell') = true := by simp [idA, idL, Value.oneCell']

theorem heap2_0 (w : World) (o p : Obj) : ((w.alloc o).alloc p).heap[w.heap.size]? = some o := by
  rw [Deep.blk_alloc_lt _ _ _ (by show _ < (w.heap.push _).size; simp)]; exact Deep.blk_alloc_new w o
theorem heap2_1 (w : World) (o p : Obj) : ((w.alloc o).alloc p).heap[w.heap.size + 1]? = some p := by
  have := Deep.blk_alloc_new (w.alloc o) p
  rwa [show (w.alloc o).heap.size = w.heap.size + 1 by show (w.heap.push _).size = _; simp] at this
theorem setRow_below (w : World) (g B : Nat) (c : Array Value) (hg : B ≤ g) : Below B w (w.setRow g c) := by
  refine ⟨rfl, rfl, rfl, by simp [World.setRow], fun k hk => ?_⟩
  simp [World.setRow, Array.getElem?_modify, show g ≠ k by omega]
theorem setRow_same (w : World) (g : Nat) (t : TypeId) (old c : Array Value) (h : w.heap[g]? = some (.cells old t (0, 0))) : (w.setRow g c).heap[g]? = some (.cells c t (0, 0)) := by
  simp [World.setRow, Array.getElem?_modify, h]
theorem setRow_size (w : World) (g : Nat) (c : Array Value) : (w.setRow g c).heap.size = w.heap.size := by simp [World.setRow]

/-- A result that lies in memory. -/
theorem results_cell {P : Program} {fn : Func} {tmps : Array Value} {w : World} {d : Nat} {t : TypeId} {ad : Addr} {v : Value} (hr : fn.results = #[.cell d t]) (ht : tmps.getD d undef = .pointer (some ad)) (hl : (loadVar t ad).run P w = .ok v w) :
    (results fn tmps).run P w = .ok v w := by
  have ha : (asAddr (.pointer (some ad))).run P w = .ok ad w := by simp [asAddr]
  simp only [results, hr, List.mapM_toArray, Sem.run_bind, List.mapM_cons, List.mapM_nil]
  simp [ht, ha, hl]

set_option maxRecDepth 100000 in
set_option maxHeartbeats 1600000 in
theorem id7 (b : Int) (w : World) : Calls Yba.prog 7 #[.int .u8 b] w fun e w' => e = .returned (.agg (idA b)) ∧ Below w.heap.size w w' := by
  obtain ⟨Z, hZ⟩ : ∃ Z, Hid (Z = zero20) := ⟨_, rfl⟩
  have z0 : Z[0]? = some (.int .u8 0) := by rw [hZ.out]; exact zero20_0
  have z19 : Z[19]? = some (.int .u8 0) := by rw [hZ.out]; exact zero20_19
  have zs : Z.size = 20 := by rw [hZ.out]; exact zero20_size
  go_enter Yba.func7, Yba.ntmps7
  go_upto_region 1 with fail
  rw [show (#[Value.int IntKind.u8 0, Value.int IntKind.u8 0, Value.int IntKind.u8 0, Value.int IntKind.u8 0,
        Value.int IntKind.u8 0, Value.int IntKind.u8 0, Value.int IntKind.u8 0, Value.int IntKind.u8 0,
        Value.int IntKind.u8 0, Value.int IntKind.u8 0, Value.int IntKind.u8 0, Value.int IntKind.u8 0,
        Value.int IntKind.u8 0, Value.int IntKind.u8 0, Value.int IntKind.u8 0, Value.int IntKind.u8 0,
        Value.int IntKind.u8 0, Value.int IntKind.u8 0, Value.int IntKind.u8 0, Value.int IntKind.u8 0] : Array Value) = Z from hZ.out.symm]
  go_upto_region 2 with fail
  rw [show (#[Value.int IntKind.u8 0, Value.int IntKind.u8 0, Value.int IntKind.u8 0, Value.int IntKind.u8 0,
        Value.int IntKind.u8 0, Value.int IntKind.u8 0, Value.int IntKind.u8 0, Value.int IntKind.u8 0,
        Value.int IntKind.u8 0, Value.int IntKind.u8 0, Value.int IntKind.u8 0, Value.int IntKind.u8 0,
        Value.int IntKind.u8 0, Value.int IntKind.u8 0, Value.int IntKind.u8 0, Value.int IntKind.u8 0,
        Value.int IntKind.u8 0, Value.int IntKind.u8 0, Value.int IntKind.u8 0, Value.int IntKind.u8 0] : Array Value) = Z from hZ.out.symm]
  go_upto_region 4 with fail
  obtain ⟨A, hA⟩ : ∃ A, Hid (A = idA b) := ⟨_, rfl⟩
  rw [show (Z.setIfInBounds 0 (Value.int IntKind.u8 b)).setIfInBounds 19 (Value.int IntKind.u8 (bits BinOp.xor IntKind.u8 b 90)) = A from by rw [hA.out, hZ.out]; exact zero20_id b]
  have sA : A.size = 20 := by rw [hA.out]; exact idA_size b
  have a1 : A.all (·.oneCell') = true := by rw [hA.out]; exact idA_one b
  have s27 : (Yba.prog.info? 27).map (·.size) = some A.size := by rw [sA]; exact size27
  go_wp2_with (first
    | (refine wpList_load_row rfl 27 (.tmp 3) rfl (w.heap.size + 1) rfl 27 A (0, 0) _ (heap2_1 w _ _) under27 rfl s27 ?_)
    | (refine wpList_store_row rfl 27 (.tmp 2) (.tmp 9) rfl w.heap.size A rfl rfl 27 Z (heap2_0 w _ _) s27 (by rw [zs, sA]) a1 ?_))
  have hl := run_loadVar_row (P := Yba.prog) (((w.alloc (.cells Z 27)).alloc (.cells A 27)).setRow w.heap.size A) w.heap.size 27 27 A (0, 0) _ (setRow_same _ _ _ Z A (heap2_0 w _ _)) under27 rfl s27
  refine bodyPost_ret (v := .agg A) (results_cell Yba.results7 rfl hl) rfl ⟨by rw [hA.out], ?_⟩
  exact (((Below.refl _ w).alloc (Nat.le_refl _) _).alloc (by show _ ≤ (w.heap.push _).size; simp) _).trans (setRow_below _ _ _ _ (Nat.le_refl _))
end Go.Proofs.Ybulkahii
