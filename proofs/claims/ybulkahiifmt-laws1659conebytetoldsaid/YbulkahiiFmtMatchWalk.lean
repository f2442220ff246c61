/-
  LawS1659CMatch: the walk.
-/
import Derived.Test.YbulkahiiFmtWalk1
import Derived.WalkSmall
namespace Go.Proofs.YbulkahiiFmt
open Go.RowKit Go.Extern.Stop Go.Stop Go.Extern BigFrame

theorem heads_push (A : Array Value) (v : Value) : Heads A (A.push v) := fun j u h => by
  have hj : j < A.size := (Array.getElem?_eq_some_iff.1 h).1
  rw [Array.getElem?_push, if_neg (by omega)]; exact h

theorem last_push (A : Array Value) (v : Value) (hA : A.size = 20) : (A.push v)[20]? = some v := by
  rw [Array.getElem?_push, if_pos hA.symm]

theorem heap3_0 (w : World) (a b c : Obj) : (((w.alloc a).alloc b).alloc c).heap[w.heap.size]? = some a := by
  rw [Below.heap_alloc _ _ _ (by simp; omega), heap_alloc2_old]
theorem heap3_1 (w : World) (a b c : Obj) : (((w.alloc a).alloc b).alloc c).heap[w.heap.size + 1]? = some b := by
  rw [Below.heap_alloc _ _ _ (by simp), heap_alloc2_new]
theorem heap3_2 (w : World) (a b c : Obj) : (((w.alloc a).alloc b).alloc c).heap[w.heap.size + 1 + 1]? = some c := by
  have := heap_alloc_new ((w.alloc a).alloc b) c
  simpa using this

/-- Behind the call: the two ids are read again and compared; the answer is whether 'err == nil' says what 'a == b' says. -/
theorem heap_drewN (w : World) (n : Nat) : (w.drewN n).heap = w.heap := rfl

set_option maxHeartbeats 1600000 in
theorem match_walk (F : Interp) (A B : Array Value) (xs ys : List Int) (s : ByteArray) (w : World) (hF : F.answers w.tape) (hxs : Hid (IsId A xs)) (hys : Hid (IsId B ys)) :
    Calls Ybaf.prog 3 #[.agg A, .agg B, .string s] w fun e w' => e = .returned (.bool true) ∧ Below w.heap.size w w' := by
  have hA := hxs.out.size
  have hB := hys.out.size
  have sA : (Ybaf.prog.info? 22).map (·.size) = some A.size := by rw [hA]; exact size22
  have sB : (Ybaf.prog.info? 22).map (·.size) = some B.size := by rw [hB]; exact size22
  have hbuild := build25 A hA s
  obtain ⟨C, hC⟩ : ∃ C, C = A.push (.string s) := ⟨_, rfl⟩
  rw [← hC] at hbuild
  have hCs : C.size = 21 := by rw [hC]; simp [hA]
  have sC : (Ybaf.prog.info? 25).map (·.size) = some C.size := by rw [hCs]; exact size25
  have hone : C.all (·.oneCell') = true := by
    rw [hC, Array.all_push, hxs.out.one]; rfl
  have hh : Heads A C := by rw [hC]; exact heads_push A _
  have hl : C[20]? = some (.string s) := by rw [hC]; exact last_push A _ hA
  have HC : Hid (C = A.push (.string s)) := hC
  have HCs : Hid (C.size = 21) := hCs
  have HA : Hid (A.size = 20) := hA
  have HB : Hid (B.size = 20) := hB
  clear hC hA hB hCs
  by_cases hsame : ys = xs
  · have heq : ∀ w, (Op.equalIn 10000 23 (.agg B) (.agg A)).run Ybaf.prog w = .ok true w := fun w => by rw [equal20 23 Ybaf.underlying23 hys.out hxs.out w]; simp [hsame]
    have heq2 : ∀ w, (Op.equalIn 10000 22 (.agg A) (.agg B)).run Ybaf.prog w = .ok true w := fun w => by rw [equal20 22 Ybaf.underlying22 hxs.out hys.out w]; simp [hsame]
    clear hsame
    have HE : Hid (∀ w, (Op.equalIn 10000 23 (.agg B) (.agg A)).run Ybaf.prog w = .ok true w) := heq
    clear heq
    go_enter Ybaf.func3, Ybaf.ntmps3
    go_wp2_with (first
      | (refine wpList_load_row rfl 22 (.tmp 3) rfl w.heap.size rfl 22 A (0, 0) _ (heap_alloc2_old w _ _) Ybaf.underlying22 rfl sA ?_)
      | (refine wpList_build rfl 25 _ rfl #[(0, .agg A), (1, .string s)] rfl (.agg C) (hbuild _) ?_)
      | (refine wpList_store_new _ (w.heap.size + 1 + 1) (by simp) rfl 25 (.tmp 7) (.tmp 11) rfl _ C rfl rfl sC HCs.out.symm hone ?_)
      | (refine wpList_load_row rfl 25 (.tmp 7) rfl (w.heap.size + 1 + 1) rfl 25 C (0, 0) _ (heap3_2 w _ _ _) Ybaf.underlying25 rfl sC ?_)
      | (refine wpList_load_row rfl 22 (.tmp 4) rfl (w.heap.size + 1) rfl 22 B (0, 0) _ (heap3_1 w _ _ _) Ybaf.underlying22 rfl sB ?_)
      | fail)
    refine (check_same A B C _ HA.out HB.out hh HE.out).mono ?_
    rintro e w1 ⟨rfl, hb⟩
    have g0 : w1.heap[w.heap.size]? = some (.cells A 22 (0, 0)) := by rw [hb.block _ (by simp; omega)]; exact heap3_0 w _ _ _
    have g1 : w1.heap[w.heap.size + 1]? = some (.cells B 22 (0, 0)) := by rw [hb.block _ (by simp)]; exact heap3_1 w _ _ _
    go_wp2
    refine wp_region_quiet_lit (by kernel_rfl) (by kernel_rfl) ?_
    repeat (first
      | (go_big_quiet_want; refine quiet_load_row 22 (.tmp 3) rfl w.heap.size rfl 22 A (0, 0) _ (fun w' hw' => by obtain ⟨n, rfl⟩ := hw'; exact g0) Ybaf.underlying22 rfl sA ?_; simp only [Act.put, List.setIfInBounds_toArray, List.set_cons_succ, List.set_cons_zero]; go_big_quiet_on)
      | (go_big_quiet_want; refine quiet_load_row 22 (.tmp 4) rfl (w.heap.size + 1) rfl 22 B (0, 0) _ (fun w' hw' => by obtain ⟨n, rfl⟩ := hw'; exact g1) Ybaf.underlying22 rfl sB ?_; simp only [Act.put, List.setIfInBounds_toArray, List.set_cons_succ, List.set_cons_zero]; go_big_quiet_on)
      | go_big_quiet_step (fail))
    refine wpQuiet_nil ?_
    intro _ hw'
    obtain ⟨nq, hw''⟩ := hw'
    subst hw''
    go_wp2
    go_ret
    exact ⟨rfl, below_drewN (((((Below.refl _ w).alloc (Nat.le_refl _) _).alloc (by simp) _).alloc (by simp; omega) _).trans (hb.mono (by simp; omega))) _⟩
  · have heq : ∀ w, (Op.equalIn 10000 23 (.agg B) (.agg A)).run Ybaf.prog w = .ok false w := fun w => by rw [equal20 23 Ybaf.underlying23 hys.out hxs.out w]; simp [hsame]
    have heq2 : ∀ w, (Op.equalIn 10000 22 (.agg A) (.agg B)).run Ybaf.prog w = .ok false w := fun w => by rw [equal20 22 Ybaf.underlying22 hxs.out hys.out w]; simp [show ¬ xs = ys from fun h => hsame h.symm]
    clear hsame
    have HE : Hid (∀ w, (Op.equalIn 10000 23 (.agg B) (.agg A)).run Ybaf.prog w = .ok false w) := heq
    clear heq
    go_enter Ybaf.func3, Ybaf.ntmps3
    go_wp2_with (first
      | (refine wpList_load_row rfl 22 (.tmp 3) rfl w.heap.size rfl 22 A (0, 0) _ (heap_alloc2_old w _ _) Ybaf.underlying22 rfl sA ?_)
      | (refine wpList_build rfl 25 _ rfl #[(0, .agg A), (1, .string s)] rfl (.agg C) (hbuild _) ?_)
      | (refine wpList_store_new _ (w.heap.size + 1 + 1) (by simp) rfl 25 (.tmp 7) (.tmp 11) rfl _ C rfl rfl sC HCs.out.symm hone ?_)
      | (refine wpList_load_row rfl 25 (.tmp 7) rfl (w.heap.size + 1 + 1) rfl 25 C (0, 0) _ (heap3_2 w _ _ _) Ybaf.underlying25 rfl sC ?_)
      | (refine wpList_load_row rfl 22 (.tmp 4) rfl (w.heap.size + 1) rfl 22 B (0, 0) _ (heap3_1 w _ _ _) Ybaf.underlying22 rfl sB ?_)
      | fail)
    refine (check_diff F A B C xs ys s _ (by exact hF) HA.out HB.out hh hl hxs hys HE.out).mono ?_
    rintro e w1 ⟨⟨p, rfl⟩, hb⟩
    have g0 : w1.heap[w.heap.size]? = some (.cells A 22 (0, 0)) := by rw [hb.block _ (by simp; omega)]; exact heap3_0 w _ _ _
    have g1 : w1.heap[w.heap.size + 1]? = some (.cells B 22 (0, 0)) := by rw [hb.block _ (by simp)]; exact heap3_1 w _ _ _
    go_wp2
    refine wp_region_quiet_lit (by kernel_rfl) (by kernel_rfl) ?_
    repeat (first
      | (go_big_quiet_want; refine quiet_load_row 22 (.tmp 3) rfl w.heap.size rfl 22 A (0, 0) _ (fun w' hw' => by obtain ⟨n, rfl⟩ := hw'; exact g0) Ybaf.underlying22 rfl sA ?_; simp only [Act.put, List.setIfInBounds_toArray, List.set_cons_succ, List.set_cons_zero]; go_big_quiet_on)
      | (go_big_quiet_want; refine quiet_load_row 22 (.tmp 4) rfl (w.heap.size + 1) rfl 22 B (0, 0) _ (fun w' hw' => by obtain ⟨n, rfl⟩ := hw'; exact g1) Ybaf.underlying22 rfl sB ?_; simp only [Act.put, List.setIfInBounds_toArray, List.set_cons_succ, List.set_cons_zero]; go_big_quiet_on)
      | go_big_quiet_step (fail))
    refine wpQuiet_nil ?_
    intro _ hw'
    obtain ⟨nq, hw''⟩ := hw'
    subst hw''
    go_wp2
    go_ret
    exact ⟨rfl, below_drewN (((((Below.refl _ w).alloc (Nat.le_refl _) _).alloc (by simp) _).alloc (by simp; omega) _).trans (hb.mono (by simp; omega))) _⟩

end Go.Proofs.YbulkahiiFmt
