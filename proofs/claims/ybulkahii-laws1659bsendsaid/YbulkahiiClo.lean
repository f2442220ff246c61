/-
  LawS1659BSend: the closure that looks for an id; IndexFunc; Equal.
-/
import Derived.Test.YbulkahiiEq
namespace Go.Proofs.Ybulkahii
open Go.RowKit Go.Conc

/-- A block that holds a range. -/
def RngAt (g : Nat) (s e : Int) (W : World) : Prop := W.heap[g]? = some (.cells (rngA s e) 29 (0, 0))
theorem RngAt.kept {g B : Nat} {s e : Int} {W W' : World} (h : RngAt g s e W) (hb : Below B W W') (hg : g < B) : RngAt g s e W' := by
  show W'.heap[g]? = _
  rw [hb.block _ hg]; exact h
theorem rngA_get_end (s e : Int) (j : Nat) (hj : j < 20) : (rngA s e)[20 + j]? = (idA e)[j]? := by
  unfold rngA
  rw [Array.getElem?_append_right (by rw [idA_size]; omega), idA_size, show 20 + j - 20 = j by omega]
/-- The id at a range's end. -/
theorem RngAt.endId {g : Nat} {s e : Int} {W : World} (h : RngAt g s e W) : W.rangeAt g 20 (idA e).toList := by
  intro j v hv
  have hv' : (idA e)[j]? = some v := by simpa using hv
  have hj : j < 20 := by
    have := (Array.getElem?_eq_some_iff.1 hv').1
    rw [idA_size] at this; exact this
  have : W.cell? ⟨g, 20 + j, none⟩ = (rngA s e)[20 + j]? := by
    have h' : W.heap[g]? = some (.cells (rngA s e) 29 (0, 0)) := h
    unfold World.cell?
    rw [h']
    simp
  rw [this, rngA_get_end s e j hj, hv']

theorem eql27 (a b : Int) (w : World) : (binOp .eql 27 (.agg (idA a)) (.agg (idA b))).run Yba.prog w = .ok (.bool (decide (a = b))) w := by
  rw [run_eql_struct]
  have h := eqId 9998 a b w
  rw [show (9998 : Nat) + 2 = 10000 from rfl] at h
  rw [h]; rfl

set_option maxRecDepth 100000 in
set_option maxHeartbeats 800000 in
theorem clo15 (s e rs re : Int) (g : Nat) (W : World) (hg : Hid (RngAt g rs re W)) (hlt : g < W.heap.size) :
    Calls Yba.prog 15 #[.agg (rngA s e), .pointer (some ⟨g, 0, none⟩)] W fun x W' => x = .returned (.bool (decide (e = re))) ∧ Below W.heap.size W W' := by
  obtain ⟨C, hC⟩ : ∃ C, Hid (C = rngA s e) := ⟨_, rfl⟩
  rw [← hC.out]
  go_enter Yba.func15, Yba.ntmps15
  go_upto_region 1 with fail
  have w1 : Hid (RngAt W.heap.size s e (W.alloc (.cells C 29))) := by rw [hC.out]; exact Deep.blk_alloc_new W _
  have w2 : Hid (RngAt g rs re (W.alloc (.cells C 29))) := (hg.out.kept ((Below.refl _ W).alloc (Nat.le_refl _) _) hlt)
  have hb : Hid (Below W.heap.size W (W.alloc (.cells C 29))) := (Below.refl _ W).alloc (Nat.le_refl _) _
  generalize W.alloc (.cells C 29) = W1 at w1 w2 hb ⊢
  obtain ⟨A, hA⟩ : ∃ A, Hid (A = idA e) := ⟨_, rfl⟩
  obtain ⟨B, hB⟩ : ∃ B, Hid (B = idA re) := ⟨_, rfl⟩
  have r1 : W1.rangeAt W.heap.size 20 A.toList := by rw [hA.out]; exact w1.out.endId
  have r2 : W1.rangeAt g 20 B.toList := by rw [hB.out]; exact w2.out.endId
  have sA : (Yba.prog.info? 27).map (·.size) = some A.toList.length := by rw [hA.out]; simpa [idA_size] using size27
  have sB : (Yba.prog.info? 27).map (·.size) = some B.toList.length := by rw [hB.out]; simpa [idA_size] using size27
  have heq : ∀ w, (binOp .eql 27 (.agg A) (.agg B)).run Yba.prog w = .ok (.bool (decide (e = re))) w := by rw [hA.out, hB.out]; exact eql27 e re
  go_wp2_with (first
    | (refine wpList_load_mid rfl 27 (.tmp 4) rfl W.heap.size 20 rfl A.toList _ r1 under27 rfl sA ?_)
    | (refine wpList_load_mid rfl 27 (.tmp 6) rfl g 20 rfl B.toList _ r2 under27 rfl sB ?_))
  go_ret
  exact ⟨rfl, hb.out⟩
end Go.Proofs.Ybulkahii
