/-
  LawS1665CMajority: majorityValue, hearsMajority.
-/
import Derived.Test.YbulkahloMajC
namespace Go.Proofs.Ybulkahlo
open Go.RowKit Go.Maps

/-- A slice of n numbers below base. -/
def Ids (base : Nat) (a : Option Addr) (n : Nat) (ids : Nat → Int) (w : World) : Prop := 0 < n → ∃ b o, a = some ⟨b, o, none⟩ ∧ b < base ∧ ∀ t, t < n → w.cell? ⟨b, o + t, none⟩ = some (.int .u64 (ids t))
theorem Ids.kept {base n : Nat} {a : Option Addr} {ids : Nat → Int} {w w' : World} (h : Ids base a n ids w) (hb : Below base w w') : Ids base a n ids w' := fun h0 => by
  obtain ⟨b, o, e, h1, h2⟩ := h h0
  exact ⟨b, o, e, h1, fun t ht => by rw [below_cell hb h1]; exact h2 t ht⟩
theorem Ids.mono {base base' n : Nat} {a : Option Addr} {ids : Nat → Int} {w : World} (h : Ids base a n ids w) (hb : base ≤ base') : Ids base' a n ids w := fun h0 => by
  obtain ⟨b, o, e, h1, h2⟩ := h h0
  exact ⟨b, o, e, by omega, h2⟩
/-- The lower of the two in a joint configuration. -/
def joinR (n2 : Nat) (r1 r2 : Int) : Int := if 0 < n2 then min r1 r2 else r1
def MajR (v : Nat → Int) (n : Nat) (r : Int) : Prop := (n = 0 → r = 0) ∧ (0 < n → IsMaj v n r)

theorem majOf0 (a : Option Addr) (cap : Nat) (fv : Value) (w : World) : Calls Yba.prog 12 #[.slice a 0 cap, fv] w fun e w' => e = .returned (.int .u64 0) ∧ w' = w := by
  go_enter Yba.func12, Yba.ntmps12
  go_wp2
  go_ret
  exact ⟨rfl, rfl⟩

theorem majOfAll {base C M k B n cap : Nat} {a : Option Addr} {me led : Int} {z ids : Nat → Int} {w : World} (hL : Hid (Lead base C M k me led z w)) (hbox : Hid (w.cell? ⟨B, 0, none⟩ = some (.pointer (some ⟨C, 0, none⟩)))) (hB : B < base) (hbase : base ≤ w.heap.size)
    (hk : k ≤ 512) (hn : n ≤ 512) (hv : Hid (Ids base a n ids w)) (hids : Hid (∀ t, t < n → ids t = me ∨ ∃ i : Nat, i < k ∧ ids t = (i : Int) + 1)) :
    Calls Yba.prog 12 #[.slice a n cap, .func (.func 10) #[] #[.pointer (some ⟨B, 0, none⟩)]] w fun e w' =>
      ∃ r, e = .returned (.int .u64 r) ∧ MajR (fun t => valOf me led z (ids t)) n r ∧ Below base w w' := by
  by_cases h0 : n = 0
  · subst h0
    exact (majOf0 a cap _ w).mono fun e w' ⟨h1, h2⟩ => ⟨0, h1, ⟨fun _ => rfl, fun h => absurd h (by omega)⟩, by rw [h2]; exact Below.refl _ _⟩
  · obtain ⟨b, o, rfl, h1, h2⟩ := hv.out (by omega)
    exact (majOf hL hbox hB h1 hbase hk hn (by omega) h2 hids).mono fun e w' ⟨r, e1, e2, e3⟩ => ⟨r, e1, ⟨fun h => absurd h h0, fun _ => e2⟩, e3⟩

theorem Lead.mono {base base' C M k : Nat} {me led : Int} {z : Nat → Int} {u : World} (h : Lead base C M k me led z u) (hb : base ≤ base') : Lead base' C M k me led z u := by
  obtain ⟨n, D, h1, hq⟩ := h.map
  refine ⟨Nat.lt_of_lt_of_le h.c hb, Nat.lt_of_lt_of_le h.m hb, h.id, h.led, h.prog, n, D, h1, fun i hi hs => ?_⟩
  obtain ⟨q, q1, q2, q3⟩ := hq i hi hs
  exact ⟨q, by omega, q2, q3⟩

/-- The leader's voters. -/
structure Conf (C : Nat) (a1 : Option Addr) (n1 c1 : Nat) (a2 : Option Addr) (n2 c2 : Nat) (w : World) : Prop where
  v1 : w.cell? ⟨C, 1, none⟩ = some (.slice a1 n1 c1)
  v2 : w.cell? ⟨C, 2, none⟩ = some (.slice none 0 0)
  v3 : w.cell? ⟨C, 3, none⟩ = some (.slice a2 n2 c2)
  v4 : w.cell? ⟨C, 4, none⟩ = some (.map none)
theorem Conf.kept {base C : Nat} {a1 : Option Addr} {n1 c1 : Nat} {a2 : Option Addr} {n2 c2 : Nat} {w w' : World} (h : Conf C a1 n1 c1 a2 n2 c2 w) (hb : Below base w w') (hC : C < base) : Conf C a1 n1 c1 a2 n2 c2 w' :=
  ⟨by rw [below_cell hb hC]; exact h.v1, by rw [below_cell hb hC]; exact h.v2, by rw [below_cell hb hC]; exact h.v3, by rw [below_cell hb hC]; exact h.v4⟩

theorem joint (a1 : Option Addr) (n1 c1 : Nat) (a2 : Option Addr) (n2 c2 : Nat) (w : World) : Calls Yba.prog 13 #[.agg #[.slice a1 n1 c1, .slice none 0 0, .slice a2 n2 c2, .map none]] w fun e w' =>
    e = .returned (.bool (decide (0 < n2))) ∧ Below w.heap.size w w' := by
  go_enter Yba.func13, Yba.ntmps13
  go_wp2
  go_ret
  exact ⟨rfl, (Below.refl _ _).alloc (Nat.le_refl _) _⟩

set_option maxRecDepth 100000 in
set_option maxHeartbeats 1600000 in
theorem majVal {base C M k B n1 c1 n2 c2 : Nat} {a1 a2 : Option Addr} {me led : Int} {z i1 i2 : Nat → Int} {w : World} (hL : Hid (Lead base C M k me led z w)) (hbox : Hid (w.cell? ⟨B, 0, none⟩ = some (.pointer (some ⟨C, 0, none⟩)))) (hB : B < base) (hbase : base ≤ w.heap.size)
    (hk : k ≤ 512) (hn1 : n1 ≤ 512) (hn2 : n2 ≤ 512) (hco : Hid (Conf C a1 n1 c1 a2 n2 c2 w)) (hv1 : Hid (Ids base a1 n1 i1 w)) (hi1 : Hid (∀ t, t < n1 → i1 t = me ∨ ∃ i : Nat, i < k ∧ i1 t = (i : Int) + 1))
    (hv2 : Hid (Ids base a2 n2 i2 w)) (hi2 : Hid (∀ t, t < n2 → i2 t = me ∨ ∃ i : Nat, i < k ∧ i2 t = (i : Int) + 1)) :
    Calls Yba.prog 9 #[.pointer (some ⟨C, 0, none⟩), .func (.func 10) #[] #[.pointer (some ⟨B, 0, none⟩)]] w fun e w' =>
      ∃ r1 r2, e = .returned (.int .u64 (joinR n2 r1 r2)) ∧ MajR (fun t => valOf me led z (i1 t)) n1 r1 ∧ MajR (fun t => valOf me led z (i2 t)) n2 r2 ∧ Below base w w' := by
  have hC := hL.out.c
  have h1 := hco.out.v1
  go_enter Yba.func9, Yba.ntmps9
  go_wp2_with fail
  refine (majOfAll hL hbox hB hbase hk hn1 hv1 hi1).mono ?_
  rintro e w1 ⟨r1, rfl, hr1, hb1⟩
  have hco1 := hco.out.kept hb1 hC
  have h11 := hco1.v1
  have h12 := hco1.v2
  have h13 := hco1.v3
  have h14 := hco1.v4
  have HB1 : Hid _ := hb1
  have HR1 : Hid _ := hr1
  clear hco1 hb1 hr1
  have hs1 : base ≤ w1.heap.size := Nat.le_trans hbase HB1.out.size
  by_cases h0 : 0 < n2
  · have t0 : decide (0 < n2) = true := decide_eq_true (by omega)
    go_wp2_with fail
    refine (joint _ _ _ _ _ _ _).mono ?_
    rintro e w2 ⟨rfl, hb2⟩
    rw [t0]
    have HB2 : Hid (Below base w w2) := HB1.out.trans (hb2.mono hs1)
    have h23 : w2.cell? ⟨C, 3, none⟩ = some (.slice a2 n2 c2) := by
      rw [below_cell hb2 (Nat.lt_of_lt_of_le hC hs1)]; exact h13
    clear hb2
    go_wp2_with fail
    refine (majOfAll (hL.out.kept HB2.out) (by rw [below_cell HB2.out hB]; exact hbox) hB (Nat.le_trans hbase HB2.out.size) hk hn2 (hv2.out.kept HB2.out) hi2).mono ?_
    rintro e w3 ⟨r2, rfl, hr2, hb3⟩
    have HR2 : Hid _ := hr2
    have HB3 : Hid _ := hb3
    clear hr2 hb3
    go_wp2
    go_ret
    exact ⟨r1, r2, by unfold joinR; rw [if_pos h0]; rfl, HR1.out, HR2.out, HB2.out.trans HB3.out⟩
  · have t0 : decide (0 < n2) = false := decide_eq_false (by omega)
    go_wp2_with (go_at_call 13; refine (joint _ _ _ _ _ _ _).mono ?_; rintro e w2 ⟨rfl, hb2⟩; rw [t0])
    go_ret
    refine ⟨r1, 0, by unfold joinR; rw [if_neg h0]; rfl, HR1.out, ⟨fun _ => rfl, fun h => absurd h h0⟩, HB1.out.trans (hb2.mono hs1)⟩

/-- The tick until which the leader is heard. -/
def untilOf (h tk : Int) : Int := IntKind.u64.wrap (h + IntKind.u64.wrap tk)

set_option maxRecDepth 100000 in
set_option maxHeartbeats 1600000 in
theorem hears {C M k n1 c1 n2 c2 : Nat} {a1 a2 : Option Addr} {me led tk : Int} {z i1 i2 : Nat → Int} {w : World} (hL : Hid (Lead w.heap.size C M k me led z w))
    (hk : k ≤ 512) (hn1 : n1 ≤ 512) (hn2 : n2 ≤ 512) (hco : Hid (Conf C a1 n1 c1 a2 n2 c2 w)) (hv1 : Hid (Ids w.heap.size a1 n1 i1 w)) (hi1 : Hid (∀ t, t < n1 → i1 t = me ∨ ∃ i : Nat, i < k ∧ i1 t = (i : Int) + 1))
    (hv2 : Hid (Ids w.heap.size a2 n2 i2 w)) (hi2 : Hid (∀ t, t < n2 → i2 t = me ∨ ∃ i : Nat, i < k ∧ i2 t = (i : Int) + 1))
    (htk : Hid (w.cell? ⟨C, 9, none⟩ = some (.int .i64 tk))) (hun : Hid (∃ x, w.cell? ⟨C, 31, none⟩ = some (.int .u64 x))) (hfz : Hid (w.frozen? ⟨C, 31, none⟩ = false)) :
    Calls Yba.prog 7 #[.pointer (some ⟨C, 0, none⟩)] w fun e w' =>
      ∃ r1 r2, e = .returned (.bool (decide (led ≤ untilOf (joinR n2 r1 r2) tk))) ∧ MajR (fun t => valOf me led z (i1 t)) n1 r1 ∧ MajR (fun t => valOf me led z (i2 t)) n2 r2 ∧ Stir C w w' ∧
        w'.cell? ⟨C, 31, none⟩ = some (.int .u64 (untilOf (joinR n2 r1 r2) tk)) ∧ w'.cell? ⟨C, 30, none⟩ = some (.int .u64 led) := by
  have hC := hL.out.c
  have hb0 : Hid (Below w.heap.size w (w.alloc (.cells #[.pointer (some ⟨C, 0, none⟩)] 44))) := (Below.refl _ _).alloc (Nat.le_refl _) _
  have hsz : (w.alloc (.cells #[.pointer (some ⟨C, 0, none⟩)] 44)).heap.size = w.heap.size + 1 := by show (w.heap.push _).size = _; simp
  have HSZ : Hid _ := hsz
  have hbox0 := (World.rowIs_alloc w #[.pointer (some ⟨C, 0, none⟩)] 44 (fun _ => .pointer (some ⟨C, 0, none⟩)) (fun i hi => by simp at hi; subst hi; rfl)).cell (i := 0) (by simp)
  have HBX : Hid _ := hbox0
  clear hsz hbox0
  go_enter Yba.func7, Yba.ntmps7
  go_wp2_with fail
  refine (majVal (base := w.heap.size + 1) ((hL.out.kept hb0.out).mono (by omega)) HBX (by omega) (by rw [HSZ.out]; exact Nat.le_refl _) hk hn1 hn2 (hco.out.kept hb0.out hC) ((hv1.out.kept hb0.out).mono (by omega)) hi1 ((hv2.out.kept hb0.out).mono (by omega)) hi2).mono ?_
  rintro e w1 ⟨r1, r2, rfl, hr1, hr2, hb1⟩
  have HR1 : Hid _ := hr1
  have HR2 : Hid _ := hr2
  have HB : Hid (Below w.heap.size w w1) := hb0.out.trans (hb1.mono (by omega))
  have x1 : w1.cell? ⟨w.heap.size, 0, none⟩ = some (.pointer (some ⟨C, 0, none⟩)) := by rw [below_cell hb1 (Nat.lt_succ_self _)]; exact HBX.out
  have x2 : w1.cell? ⟨C, 9, none⟩ = some (.int .i64 tk) := by rw [below_cell HB.out hC]; exact htk.out
  obtain ⟨x, hx⟩ := hun.out
  have x3 : w1.cell? ⟨C, 31, none⟩ = some (.int .u64 x) := by rw [below_cell HB.out hC]; exact hx
  have x4 : w1.frozen? ⟨C, 31, none⟩ = false := by rw [below_frozen HB.out hC]; exact hfz
  have x5 : w1.cell? ⟨C, 30, none⟩ = some (.int .u64 led) := by rw [below_cell HB.out hC]; exact hL.out.led
  clear hr1 hr2 hb1 hx
  go_wp2_with fail
  go_region
  obtain ⟨un, hun⟩ : ∃ un, Hid (un = untilOf (joinR n2 r1 r2) tk) := ⟨_, rfl⟩
  have eu : IntKind.u64.wrap (joinR n2 r1 r2 + IntKind.u64.wrap tk) = un := hun.out.symm
  rw [eu]
  have y1 : (w1.setCell ⟨C, 31, none⟩ (.int .u64 un)).drew.cell? ⟨w.heap.size, 0, none⟩ = some (.pointer (some ⟨C, 0, none⟩)) := (World.cell?_setCell_far _ _ _ _ (Nat.ne_of_lt hC)).trans x1
  have y2 : (w1.setCell ⟨C, 31, none⟩ (.int .u64 un)).drew.cell? ⟨C, 30, none⟩ = some (.int .u64 led) := (World.cell?_setCell_other _ _ _ _ (by simp)).trans x5
  have y3 : (w1.setCell ⟨C, 31, none⟩ (.int .u64 un)).drew.cell? ⟨C, 31, none⟩ = some (.int .u64 un) := World.cell?_setCell_same _ _ _ x3
  have y4 : Hid (Stir C w (w1.setCell ⟨C, 31, none⟩ (.int .u64 un)).drew) := ((Stir.setCell (G := C) (a := w) (w := w1) ⟨HB.out.os, HB.out.tape, HB.out.output, HB.out.size, fun k hk _ => HB.out.block k hk⟩ 31 (.int .u64 un)).drew 1)
  generalize (w1.setCell ⟨C, 31, none⟩ (.int .u64 un)).drew = w2 at y1 y2 y3 y4 ⊢
  clear x1 x2 x3 x4 x5 eu
  go_wp2_with fail
  go_quiet (fail)
  go_wp2
  go_ret
  refine ⟨r1, r2, by rw [← hun.out]; rfl, HR1.out, HR2.out, y4.out.drew _, by rw [← hun.out]; exact y3, y2⟩
end Go.Proofs.Ybulkahlo
