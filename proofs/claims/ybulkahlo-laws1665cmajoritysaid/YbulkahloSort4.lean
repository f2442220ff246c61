/-
  The library's sort at uint64: the pattern breaker.
-/
import Derived.Test.YbulkahloSort3
import Derived.Test.YbulkahloShelf
import Derived.Lib.ItoaNum
import Derived.Laws.Bits64
import Derived.Deep.RegionHeld
import Derived.Laws.Bits64b
namespace Go.Proofs.Ybulkahlo
open Go.RowKit

theorem xor_range (x y : Int) : ∃ Y : Nat, Y < 18446744073709551616 ∧ bits .xor .u64 x y = (Y : Int) := by
  have h : bits .xor .u64 x y = IntKind.u64.wrap ((BitVec.ofInt 64 x ^^^ BitVec.ofInt 64 y).toNat : Int) := rfl
  rw [h, IntKind.wrap_u64]
  exact ⟨(BitVec.ofInt 64 x ^^^ BitVec.ofInt 64 y).toNat % 18446744073709551616, by omega, by omega⟩

theorem and_range (x m : Nat) (hx : x < 18446744073709551616) (hm : m < 18446744073709551616) : ∃ Y : Nat, Y ≤ m ∧ bits .and .u64 (x : Int) (m : Int) = (Y : Int) :=
  ⟨x &&& m, Nat.and_le_right, bits_and_u64_nat x m hx hm⟩

theorem and_mask (Y M : Nat) (hY : Y < 18446744073709551616) (hM : 1 ≤ M) (hM2 : M ≤ 1024) : ∃ z : Nat, z < M ∧ bits .and .u64 (Y : Int) ((M : Int) - 1) = (z : Int) := by
  obtain ⟨z, hz, e⟩ := and_range Y (M - 1) hY (by omega)
  exact ⟨z, by omega, by rw [← e]; congr 1; omega⟩

theorem pow_len (l : Nat) (h1 : 1 ≤ l) (h2 : l ≤ 512) : Lib.bitLen l ≤ 10 ∧ 2 ^ Lib.bitLen l ≤ 2 * l := by
  have hb := Lib.bitLenAux_bounds 64 l (by omega) (by omega)
  have h10 : Lib.bitLen l ≤ 10 := Lib.bitLen_le l 10 (by omega) (by omega)
  refine ⟨h10, ?_⟩
  unfold Lib.bitLen
  obtain ⟨k, hk⟩ : ∃ k, Lib.bitLenAux 64 l = k + 1 := ⟨Lib.bitLenAux 64 l - 1, by omega⟩
  rw [hk] at hb ⊢
  rw [Nat.pow_succ]
  simp only [Nat.add_sub_cancel] at hb
  omega

theorem nextPow (l : Nat) (h1 : 1 ≤ l) (h2 : l ≤ 512) (w : World) : Calls Yba.prog 29 #[.int .i64 l] w fun e w' => (∃ M : Nat, e = .returned (.int .u64 M) ∧ 1 ≤ M ∧ M ≤ 2 * l) ∧ w' = w := by
  go_enter Yba.func29, Yba.ntmps29
  go_wp2_with (go_at_call 16; refine (Yba.bits_Len _ _ (by omega) (by omega)).mono ?_; rintro e w1 ⟨rfl, rfl⟩)
  go_ret
  obtain ⟨h10, hp⟩ := pow_len l h1 h2
  have h0 : (2 : Nat) ^ Lib.bitLen l ≤ 1024 := by omega
  have h00 : 0 < (2 : Nat) ^ Lib.bitLen l := Nat.pow_pos (by omega)
  refine ⟨⟨2 ^ Lib.bitLen l, ?_, by omega, hp⟩, rfl⟩
  have e : (2 : Int) ^ Lib.bitLen l = ((2 ^ Lib.bitLen l : Nat) : Int) := by norm_cast
  have e2 : IntKind.u64.wrap (2 ^ Lib.bitLen l) = ((2 ^ Lib.bitLen l : Nat) : Int) := by rw [e]; exact IntWalk.u64_in _ ⟨by omega, by omega⟩
  rw [show min (Lib.bitLen l) 64 = Lib.bitLen l by omega, e2]
  rfl

set_option maxRecDepth 100000 in
theorem next (R o : Nat) (X : Int) (w : World) (hc : w.cell? ⟨R, o, none⟩ = some (.int .u64 X)) (hf : w.frozen? ⟨R, o, none⟩ = false) :
    Calls Yba.prog 30 #[.pointer (some ⟨R, o, none⟩)] w fun e w' => ∃ Y : Nat, Y < 18446744073709551616 ∧ e = .returned (.int .u64 Y) ∧ Stir R w w' ∧ w'.cell? ⟨R, o, none⟩ = some (.int .u64 Y) ∧ w'.frozen? ⟨R, o, none⟩ = false := by
  go_enter Yba.func30, Yba.ntmps30
  go_wp2
  go_region
  generalize bits BinOp.xor IntKind.u64 X (IntKind.u64.wrap (X * 8192)) = A
  go_wp2
  go_region
  generalize bits BinOp.xor IntKind.u64 A (A / 128) = B
  go_wp2
  go_region
  obtain ⟨Y, hY, e⟩ := xor_range B (IntKind.u64.wrap (B * 131072))
  rw [e]
  have hc3 : (((w.setCell ⟨R, o, none⟩ (.int .u64 A)).setCell ⟨R, o, none⟩ (.int .u64 B)).setCell ⟨R, o, none⟩ (.int .u64 Y)).cell? ⟨R, o, none⟩ = some (.int .u64 Y) :=
    World.cell?_setCell_same _ _ _ (World.cell?_setCell_same _ _ _ (World.cell?_setCell_same _ _ _ hc))
  go_wp2
  go_ret
  refine ⟨Y, hY, rfl, ?_, ?_, ?_⟩
  · exact ((((Stir.refl R w).setCell o _).setCell o _).setCell o _).drew 3
  · exact hc3
  · simpa using hf

theorem Stir.other {G R : Nat} {a b c : World} (h : Stir G a b) (k : Stir R b c) (hR : a.heap.size ≤ R) : Stir G a c :=
  ⟨k.os.trans h.os, k.tape.trans h.tape, k.output.trans h.output, Nat.le_trans h.size k.size, fun i hi hg => (k.block i (Nat.lt_of_lt_of_le hi h.size) (by omega)).trans (h.block i hi hg)⟩
theorem Row.other {G o n R : Nat} {f : Nat → Int} {w w' : World} (h : Row G o n f w) (k : Stir R w w') (hR : G ≠ R) : Row G o n f w' := ⟨h.zero, World.rowIs.of_block h.is (k.block G h.is.lt hR)⟩

set_option maxRecDepth 100000 in
set_option maxHeartbeats 1600000 in
theorem breakp (G o n cap a b l : Nat) (f : Nat → Int) (w : World) (h : Hid (Row G o n f w)) (hl : Hid (b = a + l)) (h8 : 12 < l) (hb1 : b ≤ a + l) (hb2 : a + l ≤ b) (hb : b ≤ n) (hn : n ≤ 512) :
    Calls Yba.prog 19 #[.slice (some ⟨G, o, none⟩) n cap, .int .i64 a, .int .i64 b] w fun e w' =>
      e = .returned (.tuple #[]) ∧ ∃ g, At G o n a b f w g w' := by
  have hG : G < w.heap.size := h.out.is.lt
  go_enter Yba.func19, Yba.ntmps19
  have e0 : (b : Int) - (a : Int) = (l : Int) := by have := hl.out; omega
  go_wp2_with (go_at_call 29; refine (nextPow l (by omega) (by omega) _).mono ?_; rintro e w1 ⟨⟨M, rfl, hM1, hM2⟩, rfl⟩)
  clear e0
  have hw0 : (w.alloc (.cells #[.int .u64 l] 77)).rowIs w.heap.size 77 1 (fun _ => .int .u64 l) := World.rowIs_alloc w #[.int .u64 l] 77 _ (fun i hi => by
    simp at hi; subst hi; rfl)
  have hat0 : Hid (At G o n a b f w f (w.alloc (.cells #[.int .u64 l] 77))) :=
    ⟨⟨h.out.zero, h.out.is.alloc _⟩, ⟨rfl, rfl, rfl, by show w.heap.size ≤ (w.heap.push _).size; simp, fun k hk _ => Deep.blk_alloc_lt _ _ _ hk⟩, Sh.refl _ _ _ _⟩
  go_loopw [9] (fun vi wr => ∃ (i : Nat) (X : Int) (g : Nat → Int), vi = .int .i64 i ∧ a + l / 4 * 2 ≤ i + 1 ∧ i ≤ a + l / 4 * 2 + 2 ∧ Hid (At G o n a b f w g wr) ∧ Hid (wr.cell? ⟨w.heap.size, 0, none⟩ = some (.int .u64 X)) ∧ Hid (wr.frozen? ⟨w.heap.size, 0, none⟩ = false))
    (fun vi _ => a + l / 4 * 2 + 2 - (intOf vi).toNat)
  case atStart => exact ⟨a + l / 4 * 2 - 1, l, f, by go_num, by omega, by omega, hat0, hw0.cell (by omega), hw0.frozen 0⟩
  case round =>
    clear hw0 hat0
    obtain ⟨i, X, g, rfl, hi1, hi2, hat, hcR, hfR⟩ := hrel
    by_cases hlt : i ≤ a + l / 4 * 2 + 1
    · go_wp2_with (go_at_call 30; refine (next _ _ X _ hcR hfR).mono ?_; rintro e w1 ⟨Y, hY, rfl, hst, hcY, hfY⟩; obtain ⟨z, hz, ez⟩ := and_mask Y M hY hM1 (by omega))
      all_goals
        clear ez
        have hat2 : Hid (At G o n a b f w g w1) := ⟨hat.out.row.other hst (by omega), hat.out.stir.other hst (Nat.le_refl _), hat.out.sh⟩
        have hc := hat2.out.cell
        have hf := hat2.out.frozen
      · obtain ⟨y, ey, hy⟩ : ∃ y : Nat, (z : Int) - (l : Int) = (y : Int) ∧ y < l := ⟨z - l, by omega, by omega⟩
        rw [ey]
        clear ey
        have hx := hat2.out.row.second i (a + y) (by omega)
        go_region
        go_wp2
        go_roundw
        case rel =>
          exact ⟨i + 1, Y, _, by congr 1, by omega, by omega, hat2.out.swap hb (by omega) (by omega) (by omega) (by omega) 1,
            (World.cell?_setCell_far _ _ _ _ (Nat.ne_of_lt hG)).trans ((World.cell?_setCell_far _ _ _ _ (Nat.ne_of_lt hG)).trans hcY), (World.frozen?_setCell _ _ _ _).trans ((World.frozen?_setCell _ _ _ _).trans hfY)⟩
        case measure => simp [intOf]; omega
      · obtain ⟨y, ey, hy⟩ : ∃ y : Nat, (z : Int) = (y : Int) ∧ y < l := ⟨z, by omega, by omega⟩
        rw [ey]
        clear ey
        have hx := hat2.out.row.second i (a + y) (by omega)
        go_region
        go_wp2
        go_roundw
        case rel =>
          exact ⟨i + 1, Y, _, by congr 1, by omega, by omega, hat2.out.swap hb (by omega) (by omega) (by omega) (by omega) 1,
            (World.cell?_setCell_far _ _ _ _ (Nat.ne_of_lt hG)).trans ((World.cell?_setCell_far _ _ _ _ (Nat.ne_of_lt hG)).trans hcY), (World.frozen?_setCell _ _ _ _).trans ((World.frozen?_setCell _ _ _ _).trans hfY)⟩
        case measure => simp [intOf]; omega
    · go_wp2
      go_end0
      exact ⟨rfl, g, hat.out⟩
end Go.Proofs.Ybulkahlo
