/-
  zzs1662bbuild: the row of gaps.
-/
import Derived.Test.YbulkahjyParents
namespace Go.Proofs.Ybulkahjy
open Go.RowKit Forest

theorem info31 : (Yba.prog.info? 31).map (fun i => (i.zero, i.size, i.bytes)) = some (some (.agg #[.pointer none, .pointer none, .int .u8 0]), 3, 24) := by kernel_rfl

theorem make_gaps (n : Nat) (hn : n ≤ 512) (w : World) : (Instr.makeSlice 26 (.int .i64 (n : Int)) (.int .i64 (n : Int))).run Yba.prog w =
    .ok (.slice (some ⟨w.heap.size, 0, none⟩) n n) (w.alloc (.cells (madeCells #[.pointer none, .pointer none, .int .u8 0] (n * 3)) 31)) := by
  obtain ⟨i, hi, hzz⟩ := Option.map_eq_some_iff.1 info31
  simp only [Prod.mk.injEq] at hzz
  obtain ⟨hz, hs, hb⟩ := hzz
  have := run_make (P := Yba.prog) w 26 31 i _ Yba.underlying26 hi hz .i64 .i64 (n : Int) (n : Int) (by omega) (Int.le_refl _) (by rw [hb]; omega) (by omega)
  rw [hs] at this
  simpa [Value.cells] using this

/-- The row while it is filled. -/
def buildAt (G : Nat) (p : Nat → Int) (k j : Nat) : Value := if j / 3 < k then gapAt G p j else if j % 3 = 2 then .int .u8 0 else .pointer none

theorem made_gaps (w : World) (n : Nat) (p : Nat → Int) : (w.alloc (.cells (madeCells #[.pointer none, .pointer none, .int .u8 0] (n * 3)) 31)).rowIs w.heap.size 31 (3 * n) (buildAt w.heap.size p 0) := by
  refine ⟨_, Deep.blk_alloc_new _ _, by rw [size_madeCells]; omega, fun j hj => ?_⟩
  have h : (madeCells #[Value.pointer none, .pointer none, .int .u8 0] (n * 3))[j]? = some ((#[Value.pointer none, .pointer none, .int .u8 0] : Array Value)[j % 3]!) := by
    simp [madeCells, show j < n * 3 by omega]
  rw [h]
  unfold buildAt
  rw [if_neg (by omega)]
  have hm : j % 3 = 0 ∨ j % 3 = 1 ∨ j % 3 = 2 := by omega
  rcases hm with hm | hm | hm <;> rw [hm] <;> rfl

theorem build_into (G : Nat) (p : Nat → Int) (k : Nat) : buildAt G p k (k * 3 + 1) = .pointer none := by
  unfold buildAt; rw [if_neg (by omega), if_neg (by omega)]
theorem build_rank (G : Nat) (p : Nat → Int) (k : Nat) : buildAt G p k (k * 3 + 2) = .int .u8 0 := by
  unfold buildAt; rw [if_neg (by omega), if_pos (by omega)]

theorem build_step (G : Nat) (p : Nat → Int) (k j : Nat) :
    (if j = k * 3 + 1 then ptr G (p k) else if j = k * 3 + 2 then .int .u8 ((k : Int) % 256) else buildAt G p k j) = buildAt G p (k + 1) j := by
  by_cases h1 : j = k * 3 + 1
  · subst h1
    rw [if_pos rfl, buildAt, if_pos (by omega), gap_into]
  · rw [if_neg h1]
    by_cases h2 : j = k * 3 + 2
    · subst h2
      rw [if_pos rfl, buildAt, if_pos (by omega), gapAt, if_neg (by omega), if_neg (by omega), show (k * 3 + 2) / 3 = k by omega]
    · rw [if_neg h2]
      unfold buildAt
      by_cases h3 : j / 3 < k
      · rw [if_pos h3, if_pos (by omega)]
      · rw [if_neg h3]
        by_cases h4 : j / 3 < k + 1
        · have hj : j = k * 3 := by omega
          subst hj
          rw [if_pos h4, if_neg (by omega), gapAt, if_neg (by omega), if_pos (by omega)]
        · rw [if_neg h4]

set_option maxHeartbeats 800000 in
theorem build_walk (g n : Nat) (p : Nat → Int) (w : World) (hn : 1 ≤ n) (hn2 : n ≤ 512) (hok : Hid (Ok n p)) (hp : Hid (w.rowIs g 3 n (fun j => .int .i64 (p j)))) :
    Calls Yba.prog 6 #[.slice (some ⟨g, 0, none⟩) n n] w fun e w' => e = .returned (.slice (some ⟨w.heap.size, 0, none⟩) n n) ∧
      w'.rowIs w.heap.size 31 (3 * n) (gapAt w.heap.size p) ∧ w'.heap.size = w.heap.size + 1 ∧ Below w.heap.size w w' := by
  have hmk := make_gaps n hn2
  have hg := hp.out.lt
  go_enter Yba.func6, Yba.ntmps6
  go_wp2
  go_loopw [4] (fun i wr => ∃ k : Nat, k ≤ n ∧ i = .int .i64 k ∧ Hid (wr.rowIs w.heap.size 31 (3 * n) (buildAt w.heap.size p k)) ∧ Hid (Turn w.heap.size (w.alloc (.cells (madeCells #[.pointer none, .pointer none, .int .u8 0] (n * 3)) 31)) wr))
    (fun i _ => n - (intOf i).toNat)
  case atStart => exact ⟨0, Nat.zero_le _, rfl, made_gaps w n p, Turn.refl _ _⟩
  case round =>
    obtain ⟨k, hk, rfl, hr, ht⟩ := hrel
    by_cases hlt : k < n
    · have hpr : wr.rowIs g 3 n (fun j => .int .i64 (p j)) := ht.out.row (by omega) (hp.out.alloc _)
      have hpk := hpr.cell hlt
      have hc1 := hr.out.cell (i := k * 3 + 1) (by omega)
      have hc2 := hr.out.cell (i := k * 3 + 2) (by omega)
      rw [build_into] at hc1
      rw [build_rank] at hc2
      have hf1 := hr.out.frozen (k * 3 + 1)
      have hf2 := hr.out.frozen (k * 3 + 2)
      have hpar := hok.out k hlt
      have HPR : Hid (wr.rowIs g 3 n (fun j => .int .i64 (p j))) := hpr
      have hne : g ≠ w.heap.size := by omega
      clear hpr
      by_cases h0 : p k < 0
      · have hnew : Hid ((wr.setCell ⟨w.heap.size, k * 3 + 2, none⟩ (.int .u8 ((k : Int) % 256))).rowIs w.heap.size 31 (3 * n) (buildAt w.heap.size p (k + 1))) :=
          (hr.out.set (k * 3 + 2) (.int .u8 ((k : Int) % 256))).congr (fun j _ => by
            rw [← build_step, ptr, if_pos h0, ← build_into w.heap.size p k]
            by_cases hj : j = k * 3 + 1
            · subst hj; rw [if_pos rfl, if_neg (by omega)]
            · rw [if_neg hj])
        have htn : Hid (Turn w.heap.size (w.alloc (.cells (madeCells #[.pointer none, .pointer none, .int .u8 0] (n * 3)) 31)) (wr.setCell ⟨w.heap.size, k * 3 + 2, none⟩ (.int .u8 ((k : Int) % 256)))) := ht.out.setCell _ _
        clear hpar
        go_wp2
        go_roundw
        case rel => exact ⟨k + 1, by omega, by go_num, hnew, htn⟩
        case measure => simp [intOf]; omega
      · have h0' : 0 ≤ p k := by omega
        have h1' : p k < (n : Int) := by omega
        have hnew : Hid (((wr.setCell ⟨w.heap.size, k * 3 + 2, none⟩ (.int .u8 ((k : Int) % 256))).setCell ⟨w.heap.size, k * 3 + 1, none⟩ (.pointer (some ⟨w.heap.size, (p k).toNat * 3, none⟩))).rowIs w.heap.size 31 (3 * n) (buildAt w.heap.size p (k + 1))) :=
          ((hr.out.set (k * 3 + 2) (.int .u8 ((k : Int) % 256))).set (k * 3 + 1) (.pointer (some ⟨w.heap.size, (p k).toNat * 3, none⟩))).congr (fun j _ => by
            rw [← build_step, ptr, if_neg h0])
        have htn : Hid (Turn w.heap.size (w.alloc (.cells (madeCells #[.pointer none, .pointer none, .int .u8 0] (n * 3)) 31)) ((wr.setCell ⟨w.heap.size, k * 3 + 2, none⟩ (.int .u8 ((k : Int) % 256))).setCell ⟨w.heap.size, k * 3 + 1, none⟩ (.pointer (some ⟨w.heap.size, (p k).toNat * 3, none⟩)))) := (ht.out.setCell _ _).setCell _ _
        clear hpar h0
        go_wp2
        go_roundw
        case rel => exact ⟨k + 1, by omega, by go_num, hnew, htn⟩
        case measure => simp [intOf]; omega
    · go_wp2
      go_ret
      have e : k = n := by omega
      subst e
      refine ⟨rfl, hr.out.congr (fun j hj => by rw [buildAt, if_pos (by omega)]), by rw [ht.out.size]; simp, ((Below.refl _ w).alloc (Nat.le_refl _) _).trans (ht.out.below (Nat.le_refl _))⟩
end Go.Proofs.Ybulkahjy
