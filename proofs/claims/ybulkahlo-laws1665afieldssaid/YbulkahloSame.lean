/-
  The callees of LawS1665AFields: zzs1665asame, (Persistent).log.
-/
import Derived.Test.YbulkahloRows
import Derived.WalkKit
import Derived.WalkSpells
import Derived.WalkLawsBesides
import Derived.Below
import Derived.LaidEqlPtr
import Derived.Lib.Builder
import Derived.Deep.OwnRows
import Derived.Deep.QuietTactic
import Derived.BigQuiet
import Derived.WalkSmall
namespace Go.Proofs.Ybulkahlo
open Go.RowKit

theorem eql56 (a : Addr) (w : World) : (binOp .eql 56 (.pointer (some a)) (.pointer (some a))).run Yba.prog w = .ok (.bool true) w := by
  obtain ⟨i, hi⟩ := Option.isSome_iff_exists.1 (show (Yba.prog.info? 22).isSome = true from by kernel_rfl)
  exact run_eql_ptr_same w a Yba.underlying56 hi

set_option maxHeartbeats 800000 in
theorem same_empty (a : Option Addr) (c : Nat) (w : World) :
    Calls Yba.prog 6 #[.slice a 0 c, .slice a 0 c] w fun e w' => e = .returned (.bool true) ∧ ∃ m, w' = w.drewN m := by
  have hs := @Lib.run_eql_slice_nil Yba.prog
  go_enter Yba.func6, Yba.ntmps6
  go_wp2
  go_quiet (fail)
  go_wp2
  go_ret
  exact ⟨rfl, _, rfl⟩

set_option maxHeartbeats 800000 in
theorem same_some (b off n c : Nat) (w : World) (hn : 1 ≤ n) :
    Calls Yba.prog 6 #[.slice (some ⟨b, off, none⟩) n c, .slice (some ⟨b, off, none⟩) n c] w fun e w' => e = .returned (.bool true) ∧ ∃ m, w' = w.drewN m := by
  have hs := @Lib.run_eql_slice_nil Yba.prog
  have hq := eql56
  have h0 : (0 : Int) < (n : Int) := by omega
  have h1 : ((n : Int) == 0) = false := by simp; omega
  go_enter Yba.func6, Yba.ntmps6
  go_wp2
  go_quiet (fail)
  go_wp2
  go_ret
  exact ⟨rfl, _, rfl⟩

/-- A slice as a walk meets it: empty, or at an address. -/
def SliceOk (a : Option Addr) (n : Nat) : Prop := n = 0 ∨ ∃ b off, a = some ⟨b, off, none⟩

theorem same_walk (a : Option Addr) (n c : Nat) (w : World) (h : Hid (SliceOk a n)) :
    Calls Yba.prog 6 #[.slice a n c, .slice a n c] w fun e w' => e = .returned (.bool true) ∧ ∃ m, w' = w.drewN m := by
  rcases h.out with rfl | ⟨b, off, rfl⟩
  · exact same_empty a c w
  · by_cases hn : n = 0
    · subst hn; exact same_empty _ c w
    · exact same_some b off n c w (by omega)

set_option maxHeartbeats 800000 in
theorem log_none (t v pi pt : Int) (g : Option Addr) (n c : Nat) (w : World) :
    Calls Yba.prog 5 #[.agg #[.int .u64 t, .int .u64 v, .int .u64 pi, .int .u64 pt, .pointer none, .slice g n c]] w fun e w' =>
      e = .returned (.agg #[.int .u64 pi, .int .u64 pt, .slice none 0 0, .slice none 0 0, .slice none 0 0, .map none, .bool false, .slice g n c]) ∧ Below w.heap.size w w' := by
  go_enter Yba.func5, Yba.ntmps5
  go_wp2
  exact bodyPost_ret (v := .agg #[.int .u64 pi, .int .u64 pt, .slice none 0 0, .slice none 0 0, .slice none 0 0, .map none, .bool false, .slice g n c]) (by simp [results, Yba.results5, go_sem]) rfl
    ⟨rfl, (((Below.refl _ w).alloc (Nat.le_refl _) _).alloc (by simp) _).alloc (by simp; omega) _⟩

set_option maxHeartbeats 800000 in
theorem log_some (t v pi pt : Int) (g : Option Addr) (n c : Nat) (C : Nat) (a5 a6 a7 : Option Addr) (n5 c5 n6 c6 n7 c7 : Nat) (m : Option Nat) (w : World) (hC : C < w.heap.size)
    (h0 : w.cell? ⟨C, 0, none⟩ = some (.slice a5 n5 c5)) (h1 : w.cell? ⟨C, 1, none⟩ = some (.slice a6 n6 c6)) (h2 : w.cell? ⟨C, 2, none⟩ = some (.slice a7 n7 c7)) (h3 : w.cell? ⟨C, 3, none⟩ = some (.map m)) :
    Calls Yba.prog 5 #[.agg #[.int .u64 t, .int .u64 v, .int .u64 pi, .int .u64 pt, .pointer (some ⟨C, 0, none⟩), .slice g n c]] w fun e w' =>
      e = .returned (.agg #[.int .u64 pi, .int .u64 pt, .slice a5 n5 c5, .slice a6 n6 c6, .slice a7 n7 c7, .map m, .bool false, .slice g n c]) ∧ Below w.heap.size w w' := by
  have hC1 : C < w.heap.size + 1 := by omega
  have hC2 : C < w.heap.size + 1 + 1 := by omega
  have hC3 : C < w.heap.size + 1 + 1 + 1 := by omega
  go_enter Yba.func5, Yba.ntmps5
  go_wp2
  exact bodyPost_ret (v := .agg #[.int .u64 pi, .int .u64 pt, .slice a5 n5 c5, .slice a6 n6 c6, .slice a7 n7 c7, .map m, .bool false, .slice g n c]) (by simp [results, Yba.results5, go_sem]) rfl
    ⟨rfl, (((Below.refl _ w).alloc (Nat.le_refl _) _).alloc (by simp) _).alloc (by simp; omega) _⟩
end Go.Proofs.Ybulkahlo
