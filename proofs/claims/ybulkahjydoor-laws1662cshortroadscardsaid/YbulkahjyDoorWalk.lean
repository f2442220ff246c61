/-
  LawS1662CShortRoads: the walks.
-/
import Derived.Test.YbulkahjyDoorWalk10
namespace Go.Proofs.YbulkahjyDoor
open Go.RowKit

theorem eql_same (a : Addr) (w : World) : (binOp .eql 36 (.pointer (some a)) (.pointer (some a))).run Ybad.prog w = .ok (.bool true) w := by
  obtain ⟨i, hi⟩ := Option.isSome_iff_exists.1 (show (Ybad.prog.info? 70).isSome = true from by kernel_rfl)
  exact run_eql_ptr_same w a Ybad.underlying36 hi

set_option maxRecDepth 100000 in
set_option maxHeartbeats 1600000 in
/-- Nothing waits for t. -/
theorem none_walk (aw d x : Int) (w : World) (h0 : ¬ 0 < aw) :
    Calls Ybad.prog 3 #[.int .i32 aw, .bool false, .int .i64 d, .int .u64 x] w fun e w' => e = .returned (.bool true) ∧ Below w.heap.size w w' := by
  have hsame := eql_same
  go_enter Ybad.func3, Ybad.ntmps3
  go_wp2
  go_ret
  exact ⟨rfl, (((((((Below.refl _ w).alloc (Nat.le_refl _) _).alloc (by simp) _).alloc (by simp; omega) _).alloc (by simp; omega) _).alloc (by simp; omega) _).alloc (by simp; omega) _).alloc (by simp; omega) _⟩

set_option maxRecDepth 100000 in
set_option maxHeartbeats 1600000 in
theorem held_low (aw d x : Int) (w : World) (h0 : 0 < aw) (hd : d ≤ 0) :
    Calls Ybad.prog 3 #[.int .i32 aw, .bool false, .int .i64 d, .int .u64 x] w fun e w' => e = .returned (.bool true) ∧ Below w.heap.size w w' := by
  have hsame := eql_same
  go_enter Ybad.func3, Ybad.ntmps3
  go_wp2_with (first | (go_at_call 4; go_in) | (go_at_call 5; go_in) | (go_at_call 6; go_in) | (go_at_call 12; go_in) | (go_at_call 13; go_in) | fail)
  refine (walk10 (w.heap.size + 1 + 1 + 1 + 1) (w.heap.size + 1 + 1) _ _ d x _ hd (by simp) (by go_simp) (by go_simp) (by go_simp) (by go_simp)).mono ?_
  rintro e w1 ⟨rfl, hw⟩
  have k0 := hw.count
  obtain ⟨qa, qc, k2⟩ := hw.queue
  have kb : w1.cell? ⟨w.heap.size + 1 + 1 + 1 + 1 + 1 + 1 + 1, 0, none⟩ = some (.bool false) := (hw.other _ _ (by simp) (by omega)).trans (by go_simp)
  have k7 : w1.cell? ⟨w.heap.size + 1 + 1, 7, none⟩ = some (.pointer (some ⟨w.heap.size + 1 + 1 + 1, 0, none⟩)) := (hw.other _ _ (by simp) (by omega)).trans (by go_simp)
  have k12 : w1.cell? ⟨w.heap.size + 1 + 1, 12, none⟩ = some (.int .u64 0) := (hw.other _ _ (by simp) (by omega)).trans (by go_simp)
  have KB : Hid (Below w.heap.size w w1) := (((((((((Below.refl _ w).alloc (Nat.le_refl _) _).alloc (by simp) _).alloc (by simp; omega) _).alloc (by simp; omega) _).alloc (by simp; omega) _).alloc (by simp; omega) _).alloc (by simp; omega) _).alloc (by simp; omega) _).trans (hw.below.mono (by omega))
  clear hw
  go_wp2
  go_ret
  exact ⟨rfl, KB.out⟩

set_option maxRecDepth 100000 in
set_option maxHeartbeats 1600000 in
theorem held_high (aw d x : Int) (w : World) (h0 : 0 < aw) (hd : 0 < d) (hd2 : d ≤ 9223372036854775807) :
    Calls Ybad.prog 3 #[.int .i32 aw, .bool false, .int .i64 d, .int .u64 x] w fun e w' => e = .returned (.bool true) ∧ Below w.heap.size w w' := by
  have hsame := eql_same
  go_enter Ybad.func3, Ybad.ntmps3
  go_wp2_with (first | (go_at_call 4; go_in) | (go_at_call 5; go_in) | (go_at_call 6; go_in) | (go_at_call 12; go_in) | (go_at_call 13; go_in) | fail)
  refine (walk10 (w.heap.size + 1 + 1 + 1 + 1) (w.heap.size + 1 + 1) _ _ (-d) x _ (by omega) (by simp) (by go_simp) (by go_simp) (by go_simp) (by go_simp)).mono ?_
  rintro e w1 ⟨rfl, hw⟩
  have k0 := hw.count
  obtain ⟨qa, qc, k2⟩ := hw.queue
  have kb : w1.cell? ⟨w.heap.size + 1 + 1 + 1 + 1 + 1 + 1 + 1, 0, none⟩ = some (.bool false) := (hw.other _ _ (by simp) (by omega)).trans (by go_simp)
  have k7 : w1.cell? ⟨w.heap.size + 1 + 1, 7, none⟩ = some (.pointer (some ⟨w.heap.size + 1 + 1 + 1, 0, none⟩)) := (hw.other _ _ (by simp) (by omega)).trans (by go_simp)
  have k12 : w1.cell? ⟨w.heap.size + 1 + 1, 12, none⟩ = some (.int .u64 0) := (hw.other _ _ (by simp) (by omega)).trans (by go_simp)
  have KB : Hid (Below w.heap.size w w1) := (((((((((Below.refl _ w).alloc (Nat.le_refl _) _).alloc (by simp) _).alloc (by simp; omega) _).alloc (by simp; omega) _).alloc (by simp; omega) _).alloc (by simp; omega) _).alloc (by simp; omega) _).alloc (by simp; omega) _).trans (hw.below.mono (by omega))
  clear hw
  go_wp2
  go_ret
  exact ⟨rfl, KB.out⟩

set_option maxRecDepth 100000 in
set_option maxHeartbeats 1600000 in
theorem next_low (aw d x : Int) (w : World) (hd : d ≤ 0) :
    Calls Ybad.prog 3 #[.int .i32 aw, .bool true, .int .i64 d, .int .u64 x] w fun e w' => e = .returned (.bool true) ∧ Below w.heap.size w w' := by
  have hsame := eql_same
  go_enter Ybad.func3, Ybad.ntmps3
  go_wp2_with (first | (go_at_call 4; go_in) | (go_at_call 5; go_in) | (go_at_call 6; go_in) | (go_at_call 12; go_in) | (go_at_call 13; go_in) | fail)
  refine (walk10 (w.heap.size + 1 + 1 + 1 + 1 + 1) (w.heap.size + 1 + 1) _ _ d x _ hd (by simp) (by go_simp) (by go_simp) (by go_simp) (by go_simp)).mono ?_
  rintro e w1 ⟨rfl, hw⟩
  have k0 := hw.count
  obtain ⟨qa, qc, k2⟩ := hw.queue
  have kb : w1.cell? ⟨w.heap.size + 1 + 1 + 1 + 1 + 1 + 1 + 1 + 1, 0, none⟩ = some (.bool false) := (hw.other _ _ (by simp) (by omega)).trans (by go_simp)
  have k7 : w1.cell? ⟨w.heap.size + 1 + 1, 7, none⟩ = some (.pointer (some ⟨w.heap.size + 1 + 1 + 1, 0, none⟩)) := (hw.other _ _ (by simp) (by omega)).trans (by go_simp)
  have k12 : w1.cell? ⟨w.heap.size + 1 + 1, 12, none⟩ = some (.int .u64 0) := (hw.other _ _ (by simp) (by omega)).trans (by go_simp)
  have KB : Hid (Below w.heap.size w w1) := ((((((((((Below.refl _ w).alloc (Nat.le_refl _) _).alloc (by simp) _).alloc (by simp; omega) _).alloc (by simp; omega) _).alloc (by simp; omega) _).alloc (by simp; omega) _).alloc (by simp; omega) _).alloc (by simp; omega) _).alloc (by simp; omega) _).trans (hw.below.mono (by omega))
  clear hw
  go_wp2
  go_ret
  exact ⟨rfl, KB.out⟩

set_option maxRecDepth 100000 in
set_option maxHeartbeats 1600000 in
theorem next_high (aw d x : Int) (w : World) (hd : 0 < d) (hd2 : d ≤ 9223372036854775807) :
    Calls Ybad.prog 3 #[.int .i32 aw, .bool true, .int .i64 d, .int .u64 x] w fun e w' => e = .returned (.bool true) ∧ Below w.heap.size w w' := by
  have hsame := eql_same
  go_enter Ybad.func3, Ybad.ntmps3
  go_wp2_with (first | (go_at_call 4; go_in) | (go_at_call 5; go_in) | (go_at_call 6; go_in) | (go_at_call 12; go_in) | (go_at_call 13; go_in) | fail)
  refine (walk10 (w.heap.size + 1 + 1 + 1 + 1 + 1) (w.heap.size + 1 + 1) _ _ (-d) x _ (by omega) (by simp) (by go_simp) (by go_simp) (by go_simp) (by go_simp)).mono ?_
  rintro e w1 ⟨rfl, hw⟩
  have k0 := hw.count
  obtain ⟨qa, qc, k2⟩ := hw.queue
  have kb : w1.cell? ⟨w.heap.size + 1 + 1 + 1 + 1 + 1 + 1 + 1 + 1, 0, none⟩ = some (.bool false) := (hw.other _ _ (by simp) (by omega)).trans (by go_simp)
  have k7 : w1.cell? ⟨w.heap.size + 1 + 1, 7, none⟩ = some (.pointer (some ⟨w.heap.size + 1 + 1 + 1, 0, none⟩)) := (hw.other _ _ (by simp) (by omega)).trans (by go_simp)
  have k12 : w1.cell? ⟨w.heap.size + 1 + 1, 12, none⟩ = some (.int .u64 0) := (hw.other _ _ (by simp) (by omega)).trans (by go_simp)
  have KB : Hid (Below w.heap.size w w1) := ((((((((((Below.refl _ w).alloc (Nat.le_refl _) _).alloc (by simp) _).alloc (by simp; omega) _).alloc (by simp; omega) _).alloc (by simp; omega) _).alloc (by simp; omega) _).alloc (by simp; omega) _).alloc (by simp; omega) _).alloc (by simp; omega) _).trans (hw.below.mono (by omega))
  clear hw
  go_wp2
  go_ret
  exact ⟨rfl, KB.out⟩
end Go.Proofs.YbulkahjyDoor
