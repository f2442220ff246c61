/-
  The library's sort at uint64: the choice of the pivot: no more is asked of it than that it lies within.
-/
import Derived.Test.YbulkahloSort4
namespace Go.Proofs.Ybulkahlo
open Go.RowKit

/-- The count of exchanges, in a block of its own. -/
structure Cnt (R s : Nat) (w : World) : Prop where
  cell : w.cell? ⟨R, 0, none⟩ = some (.int .i64 s)
  frozen : w.frozen? ⟨R, 0, none⟩ = false

theorem Cnt.drew {R s : Nat} {w : World} (h : Cnt R s w) (q : Nat) : Cnt R s (w.drewN q) := ⟨h.cell, h.frozen⟩
theorem Cnt.set {R s : Nat} {w : World} (h : Cnt R s w) (t : Nat) : Cnt R t (w.setCell ⟨R, 0, none⟩ (.int .i64 t)) := ⟨World.cell?_setCell_same _ _ _ h.cell, (World.frozen?_setCell _ _ _ _).trans h.frozen⟩

set_option maxRecDepth 100000 in
set_option maxHeartbeats 1600000 in
theorem order2 (G o n cap R s x y a b : Nat) (f : Nat → Int) (w : World) (h : Hid (Row G o n f w)) (hk : Cnt R s w) (hs : s ≤ 1000) (_ : n ≤ 512) (hb : b ≤ n) (hx : a ≤ x) (hx2 : x < b) (hy : a ≤ y) (hy2 : y < b) (hR : G ≠ R) :
    Calls Yba.prog 34 #[.slice (some ⟨G, o, none⟩) n cap, .int .i64 x, .int .i64 y, .pointer (some ⟨R, 0, none⟩)] w fun e w' =>
      ∃ x' y' s' : Nat, e = .returned (.tuple #[.int .i64 x', .int .i64 y']) ∧ a ≤ x' ∧ x' < b ∧ a ≤ y' ∧ y' < b ∧ s' ≤ s + 1 ∧ Cnt R s' w' ∧ Row G o n f w' ∧ Stir R w w' := by
  have hc := h.out.cell
  have hf := h.out.frozen
  have hcR := hk.cell
  have hfR := hk.frozen
  go_enter Yba.func34, Yba.ntmps34
  go_wp2
  go_big_quiet (first | (go_at_call 23; refine Calls.quiet_of_same (less _ _ _)))
  go_wp2
  · go_ret2
    exact ⟨y, x, s + 1, rfl, hy, hy2, hx, hx2, by omega, (hk.drew _).set (s + 1), (h.out.drew _).other ((Stir.refl R _).setCell _ _) hR, ((Stir.refl _ _).drew _).setCell _ _⟩
  · go_ret2
    exact ⟨x, y, s, rfl, hx, hx2, hy, hy2, by omega, hk.drew _, h.out.drew _, (Stir.refl _ _).drew _⟩

set_option maxRecDepth 100000 in
set_option maxHeartbeats 1600000 in
theorem median (G o n cap R s x y z a b : Nat) (f : Nat → Int) (w : World) (h : Hid (Row G o n f w)) (hk : Cnt R s w) (hs : s ≤ 900) (hn : n ≤ 512) (hb : b ≤ n) (hx : a ≤ x) (hx2 : x < b) (hy : a ≤ y) (hy2 : y < b) (hz : a ≤ z) (hz2 : z < b) (hR : G ≠ R) :
    Calls Yba.prog 32 #[.slice (some ⟨G, o, none⟩) n cap, .int .i64 x, .int .i64 y, .int .i64 z, .pointer (some ⟨R, 0, none⟩)] w fun e w' =>
      ∃ y' s' : Nat, e = .returned (.int .i64 y') ∧ a ≤ y' ∧ y' < b ∧ s' ≤ s + 3 ∧ Cnt R s' w' ∧ Row G o n f w' ∧ Stir R w w' := by
  go_enter Yba.func32, Yba.ntmps32
  go_wp2_with fail
  refine (order2 G o n cap R s x y a b f w h hk (by omega) hn hb hx hx2 hy hy2 hR).mono ?_
  rintro e w1 ⟨x1, y1, s1, rfl, hx1, hx12, hy1, hy12, hs1, hk1, hr1, hst1⟩
  clear h hk
  go_wp2_with fail
  refine (order2 G o n cap R s1 y1 z a b f w1 hr1 hk1 (by omega) hn hb hy1 hy12 hz hz2 hR).mono ?_
  rintro e w2 ⟨y2, z2, s2, rfl, hy2, hy22, hz2, hz22, hs2, hk2, hr2, hst2⟩
  go_wp2_with fail
  refine (order2 G o n cap R s2 x1 y2 a b f w2 hr2 hk2 (by omega) hn hb hx1 hx12 hy2 hy22 hR).mono ?_
  rintro e w3 ⟨x3, y3, s3, rfl, hx3, hx32, hy3, hy32, hs3, hk3, hr3, hst3⟩
  go_wp2
  go_ret
  exact ⟨y3, s3, rfl, hy3, hy32, by omega, hk3, hr3, (hst1.trans hst2).trans hst3⟩

set_option maxRecDepth 100000 in
theorem medianAdj (G o n cap R s x a b : Nat) (f : Nat → Int) (w : World) (h : Hid (Row G o n f w)) (hk : Cnt R s w) (hs : s ≤ 900) (hn : n ≤ 512) (hb : b ≤ n) (hx : a + 1 ≤ x) (hx2 : x + 1 < b) (hR : G ≠ R) :
    Calls Yba.prog 31 #[.slice (some ⟨G, o, none⟩) n cap, .int .i64 x, .pointer (some ⟨R, 0, none⟩)] w fun e w' =>
      ∃ y' s' : Nat, e = .returned (.int .i64 y') ∧ a ≤ y' ∧ y' < b ∧ s' ≤ s + 3 ∧ Cnt R s' w' ∧ Row G o n f w' ∧ Stir R w w' := by
  go_enter Yba.func31, Yba.ntmps31
  go_wp2_with fail
  have e1 : (x : Int) - 1 = ((x - 1 : Nat) : Int) := by omega
  have e2 : (x : Int) + 1 = ((x + 1 : Nat) : Int) := by omega
  rw [e1, e2]
  clear e1 e2
  refine (median G o n cap R s (x - 1) x (x + 1) a b f w h hk hs hn hb (by omega) (by omega) (by omega) (by omega) (by omega) (by omega) hR).mono ?_
  rintro e w1 ⟨y1, s1, rfl, hy1, hy12, hs1, hk1, hr1, hst1⟩
  go_wp2
  go_ret
  exact ⟨y1, s1, rfl, hy1, hy12, hs1, hk1, hr1, hst1⟩

set_option maxRecDepth 100000 in
set_option maxHeartbeats 1600000 in
theorem pivot (G o n cap a b l : Nat) (f : Nat → Int) (w : World) (h : Hid (Row G o n f w)) (hl : Hid (b = a + l)) (h8 : 12 < l) (hb1 : b ≤ a + l) (hb2 : a + l ≤ b) (hb : b ≤ n) (hn : n ≤ 512) :
    Calls Yba.prog 20 #[.slice (some ⟨G, o, none⟩) n cap, .int .i64 a, .int .i64 b] w fun e w' =>
      ∃ p t : Nat, e = .returned (.tuple #[.int .i64 p, .int .i64 t]) ∧ a ≤ p ∧ p < b ∧ Row G o n f w' ∧ Stir G w w' := by
  have hG : G < w.heap.size := h.out.is.lt
  have e0 : (b : Int) - (a : Int) = (l : Int) := by have := hl.out; omega
  have hw0 : (w.alloc (.cells #[.int .i64 0] 3)).rowIs w.heap.size 3 1 (fun _ => .int .i64 0) := World.rowIs_alloc w #[.int .i64 0] 3 _ (fun i hi => by
    simp at hi; subst hi; rfl)
  have hk0 : Cnt w.heap.size 0 (w.alloc (.cells #[.int .i64 0] 3)) := ⟨hw0.cell (by omega), hw0.frozen 0⟩
  have hr0 : Row G o n f (w.alloc (.cells #[.int .i64 0] 3)) := ⟨h.out.zero, h.out.is.alloc _⟩
  have hst0 : Stir G w (w.alloc (.cells #[.int .i64 0] 3)) := ⟨rfl, rfl, rfl, by show w.heap.size ≤ (w.heap.push _).size; simp, fun k hk _ => Deep.blk_alloc_lt _ _ _ hk⟩
  have HK : Hid _ := hk0
  have HR : Hid _ := hr0
  have HS : Hid _ := hst0
  clear hw0 hk0 hr0 hst0
  go_enter Yba.func20, Yba.ntmps20
  have e1 : (a : Int) + (l : Int) / 4 = ((a + l / 4 : Nat) : Int) := by omega
  have e2 : (a : Int) + (l : Int) / 4 * 2 = ((a + l / 4 * 2 : Nat) : Int) := by omega
  have e3 : (a : Int) + (l : Int) / 4 * 3 = ((a + l / 4 * 3 : Nat) : Int) := by omega
  have E1 : Hid _ := e1
  have E2 : Hid _ := e2
  have E3 : Hid _ := e3
  clear e1 e2 e3
  go_wp2_with fail
  · rw [E1.out, E2.out, E3.out]
    refine (medianAdj G o n cap w.heap.size 0 (a + l / 4) a b f _ HR HK.out (by omega) hn hb (by omega) (by omega) (by omega)).mono ?_
    rintro e w1 ⟨y1, s1, rfl, hy1, hy12, hs1, hk1, hr1, hst1⟩
    have HST : Hid (Stir G w w1) := HS.out.other hst1 (Nat.le_refl _)
    clear HS HR HK hst1
    go_wp2_with fail
    refine (medianAdj G o n cap w.heap.size s1 (a + l / 4 * 2) a b f _ hr1 hk1 (by omega) hn hb (by omega) (by omega) (by omega)).mono ?_
    rintro e w2 ⟨y2, s2, rfl, hy2, hy22, hs2, hk2, hr2, hst2⟩
    have HST2 : Hid (Stir G w w2) := HST.out.other hst2 (Nat.le_refl _)
    clear HST hk1 hr1 hst2
    go_wp2_with fail
    refine (medianAdj G o n cap w.heap.size s2 (a + l / 4 * 3) a b f _ hr2 hk2 (by omega) hn hb (by omega) (by omega) (by omega)).mono ?_
    rintro e w3 ⟨y3, s3, rfl, hy3, hy32, hs3, hk3, hr3, hst3⟩
    have HST3 : Hid (Stir G w w3) := HST2.out.other hst3 (Nat.le_refl _)
    clear HST2 hk2 hr2 hst3
    go_wp2_with fail
    refine (median G o n cap w.heap.size s3 y1 y2 y3 a b f _ hr3 hk3 (by omega) hn hb hy1 hy12 hy2 hy22 hy3 hy32 (by omega)).mono ?_
    rintro e w4 ⟨y4, s4, rfl, hy4, hy42, hs4, hk4, hr4, hst4⟩
    have HST : Hid (Stir G w w4) := HST3.out.other hst4 (Nat.le_refl _)
    clear HST3 hk3 hr3 hst4
    have hcS := hk4.cell
    go_wp2
    all_goals go_ret2
    · exact ⟨y4, 1, rfl, by omega, by omega, hr4, HST.out⟩
    · exact ⟨y4, 2, rfl, by omega, by omega, hr4, HST.out⟩
    · exact ⟨y4, 0, rfl, by omega, by omega, hr4, HST.out⟩
  · rw [E1.out, E2.out, E3.out]
    refine (median G o n cap w.heap.size 0 (a + l / 4) (a + l / 4 * 2) (a + l / 4 * 3) a b f _ HR HK.out (by omega) hn hb (by omega) (by omega) (by omega) (by omega) (by omega) (by omega) (by omega)).mono ?_
    rintro e w1 ⟨y1, s1, rfl, hy1, hy12, hs1, hk1, hr1, hst1⟩
    have HST : Hid (Stir G w w1) := HS.out.other hst1 (Nat.le_refl _)
    clear HS HR HK hst1
    have hcS := hk1.cell
    go_wp2
    all_goals go_ret2
    · exact ⟨y1, 1, rfl, by omega, by omega, hr1, HST.out⟩
    · exact ⟨y1, 0, rfl, by omega, by omega, hr1, HST.out⟩
end Go.Proofs.Ybulkahlo
