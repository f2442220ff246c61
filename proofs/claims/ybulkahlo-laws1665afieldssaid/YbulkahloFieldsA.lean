/-
  LawS1665AFields: the walk.
-/
import Derived.Test.YbulkahloSame
namespace Go.Proofs.Ybulkahlo
open Go.RowKit

/-- Nothing has turned but block G's cells. -/
structure Turn (G : Nat) (w w' : World) : Prop where
  os : w'.os = w.os
  tape : w'.tape = w.tape
  output : w'.output = w.output
  size : w'.heap.size = w.heap.size
  block : ∀ k, k ≠ G → w'.heap[k]? = w.heap[k]?

theorem Turn.refl (G : Nat) (w : World) : Turn G w w := ⟨rfl, rfl, rfl, rfl, fun _ _ => rfl⟩
theorem Turn.trans {G : Nat} {a b c : World} (h : Turn G a b) (k : Turn G b c) : Turn G a c :=
  ⟨k.os.trans h.os, k.tape.trans h.tape, k.output.trans h.output, k.size.trans h.size, fun i hi => (k.block i hi).trans (h.block i hi)⟩
theorem Turn.setCell {G : Nat} {a w : World} (h : Turn G a w) (o : Nat) (v : Value) : Turn G a (w.setCell ⟨G, o, none⟩ v) :=
  h.trans ⟨rfl, rfl, rfl, Deep.nblk_setCell _ _ _, fun k hk => Deep.blk_setCell_other _ _ _ _ (by simpa using hk)⟩
theorem Turn.below {G B : Nat} {w w' : World} (h : Turn G w w') (hB : B ≤ G) : Below B w w' :=
  ⟨h.os, h.tape, h.output, by rw [h.size]; exact Nat.le_refl _, fun k hk => h.block k (by omega)⟩

theorem info28 : (Yba.prog.info? 28).map (fun i => (i.zero, i.size, i.bytes)) = some (some (.agg #[.int .u64 0, .pointer none]), 2, 16) := by kernel_rfl

theorem make_recs (n : Nat) (hn : n ≤ 1024) (w : World) : (Instr.makeSlice 25 (.int .i64 (n : Int)) (.int .i64 (n : Int))).run Yba.prog w =
    .ok (.slice (some ⟨w.heap.size, 0, none⟩) n n) (w.alloc (.cells (madeCells #[.int .u64 0, .pointer none] (n * 2)) 28)) := by
  obtain ⟨i, hi, hzz⟩ := Option.map_eq_some_iff.1 info28
  simp only [Prod.mk.injEq] at hzz
  obtain ⟨hz, hs, hb⟩ := hzz
  have := run_make (P := Yba.prog) w 25 28 i _ Yba.underlying25 hi hz .i64 .i64 (n : Int) (n : Int) (by omega) (Int.le_refl _) (by rw [hb]; omega) (by omega)
  rw [hs] at this
  simpa [Value.cells] using this

/-- The records while they are filled: the first k bear their terms. -/
def recAt (z : Nat → Int) (k j : Nat) : Value := if j % 2 = 0 then .int .u64 (if j / 2 < k then z (j / 2) else 0) else .pointer none

theorem made_recs (w : World) (n : Nat) (z : Nat → Int) : (w.alloc (.cells (madeCells #[.int .u64 0, .pointer none] (n * 2)) 28)).rowIs w.heap.size 28 (2 * n) (recAt z 0) := by
  refine ⟨_, Deep.blk_alloc_new _ _, by rw [size_madeCells]; omega, fun j hj => ?_⟩
  have h : (madeCells #[Value.int .u64 0, .pointer none] (n * 2))[j]? = some ((#[Value.int .u64 0, .pointer none] : Array Value)[j % 2]!) := by
    simp [madeCells, show j < n * 2 by omega]
  rw [h]
  unfold recAt
  have hm : j % 2 = 0 ∨ j % 2 = 1 := by omega
  rcases hm with hm | hm <;> rw [hm] <;> simp

theorem rec_term (z : Nat → Int) (k i : Nat) : recAt z k (i * 2) = .int .u64 (if i < k then z i else 0) := by
  unfold recAt; rw [if_pos (by omega), show i * 2 / 2 = i by omega]
theorem rec_conf (z : Nat → Int) (k i : Nat) : recAt z k (i * 2 + 1) = .pointer none := by
  unfold recAt; rw [if_neg (by omega)]

theorem rec_step (z : Nat → Int) (k j : Nat) : (if j = k * 2 + 1 then Value.pointer none else if j = k * 2 then .int .u64 (z k) else recAt z k j) = recAt z (k + 1) j := by
  by_cases h1 : j = k * 2 + 1
  · subst h1; rw [if_pos rfl, rec_conf]
  · rw [if_neg h1]
    by_cases h2 : j = k * 2
    · subst h2; rw [if_pos rfl, rec_term, if_pos (by omega)]
    · rw [if_neg h2]
      unfold recAt
      by_cases h3 : j % 2 = 0
      · rw [if_pos h3, if_pos h3]
        by_cases h4 : j / 2 < k
        · rw [if_pos h4, if_pos (by omega)]
        · rw [if_neg h4, if_neg (by omega)]
      · rw [if_neg h3, if_neg h3]

theorem neq36 (a : Addr) (w : World) : (binOp .neq 36 (.pointer (some a)) (.pointer (some a))).run Yba.prog w = .ok (.bool false) w := by
  obtain ⟨i, hi⟩ := Option.isSome_iff_exists.1 (show (Yba.prog.info? 28).isSome = true from by kernel_rfl)
  exact Lib.run_neq_ptr_same w a Yba.underlying36 hi

set_option maxRecDepth 100000 in
set_option maxHeartbeats 1600000 in
theorem fields_true (term vote pi pt : Int) (a5 a6 a7 : Option Addr) (n5 c5 n6 c6 n7 c7 : Nat) (m : Option Nat) (b off n c9 : Nat) (z : Nat → Int) (w : World) (hn : 1 ≤ n) (hn2 : n ≤ 1024) (hb : b < w.heap.size)
    (hc : Hid (∀ j, j < n → w.cell? ⟨b, off + j, none⟩ = some (.int .u64 (z j)))) (h5 : Hid (SliceOk a5 n5)) (h6 : Hid (SliceOk a6 n6)) (h7 : Hid (SliceOk a7 n7))
    (hlen : Hid (∃ L : Int, ∀ w' ty, Below w.heap.size w w' → (Builtin.len_ #[24] ty #[.map m]).run Yba.prog w' = .ok (.int .i64 L) w')) :
    Calls Yba.prog 3 #[.int .u64 term, .int .u64 vote, .int .u64 pi, .int .u64 pt, .bool true, .slice a5 n5 c5, .slice a6 n6 c6, .slice a7 n7 c7, .map m, .slice (some ⟨b, off, none⟩) n c9] w
      fun e w' => e = .returned (.bool true) ∧ Below w.heap.size w w' := by
  have hmk := make_recs n hn2
  have hs := @Lib.run_eql_slice_nil Yba.prog
  have hsame := neq36
  have hng : ¬ (1024 : Int) < (n : Int) := by omega
  go_enter Yba.func3, Yba.ntmps3
  go_wp2
  go_loopw [22] (fun i wr => ∃ k : Nat, k ≤ n ∧ i = .int .i64 k ∧ Hid (wr.rowIs w.heap.size 28 (2 * n) (recAt z k)) ∧ Hid (Turn w.heap.size (w.alloc (.cells (madeCells #[.int .u64 0, .pointer none] (n * 2)) 28)) wr))
    (fun i _ => n - (intOf i).toNat)
  case atStart => exact ⟨0, Nat.zero_le _, rfl, made_recs w n z, Turn.refl _ _⟩
  case round =>
    obtain ⟨k, hk, rfl, hr, ht⟩ := hrel
    by_cases hlt : k < n
    · have hcz : wr.cell? ⟨b, off + k, none⟩ = some (.int .u64 (z k)) := by
        rw [(ht.out.below (Nat.le_refl _)).cell (p := ⟨b, off + k, none⟩) hb, World.cell?_alloc_lt _ _ _ hb]; exact hc.out k hlt
      have q0 := hr.out.cell (i := k * 2) (by omega)
      have q1 := hr.out.cell (i := k * 2 + 1) (by omega)
      rw [rec_term, if_neg (by omega)] at q0
      rw [rec_conf] at q1
      have f0 := hr.out.frozen (k * 2)
      have f1 := hr.out.frozen (k * 2 + 1)
      have HR : Hid (((wr.setCell ⟨w.heap.size, k * 2, none⟩ (.int .u64 (z k))).setCell ⟨w.heap.size, k * 2 + 1, none⟩ (.pointer none)).rowIs w.heap.size 28 (2 * n) (recAt z (k + 1))) :=
        ((hr.out.set (k * 2) _).set (k * 2 + 1) _).congr (fun j _ => rec_step z k j)
      have HT : Hid (Turn w.heap.size (w.alloc (.cells (madeCells #[.int .u64 0, .pointer none] (n * 2)) 28)) ((wr.setCell ⟨w.heap.size, k * 2, none⟩ (.int .u64 (z k))).setCell ⟨w.heap.size, k * 2 + 1, none⟩ (.pointer none))) := (ht.out.setCell _ _).setCell _ _
      go_wp2
      go_roundw
      case rel => exact ⟨k + 1, by omega, by go_num, HR, HT⟩
      case measure => simp [intOf]; omega
    · have e : k = n := by omega
      have hsz : wr.heap.size = w.heap.size + 1 := by rw [ht.out.size]; simp
      have HR : Hid (wr.rowIs w.heap.size 28 (2 * n) (recAt z n)) := hr.out.congr (fun j _ => by rw [e])
      have HB : Hid (Below w.heap.size w wr) := ((Below.refl _ w).alloc (Nat.le_refl _) _).trans (ht.out.below (Nat.le_refl _))
      have HE : Hid (k = n) := e
      clear e
      go_wp2_with fail
      refine (log_some term vote pi pt _ _ _ (w.heap.size + 1 + 1) a5 a6 a7 n5 c5 n6 c6 n7 c7 m _ (by simp [hsz]) (by go_simp) (by go_simp) (by go_simp) (by go_simp)).mono ?_
      rintro e w2 ⟨rfl, hb2⟩
      have hz2 : w.heap.size + 1 < w2.heap.size := by have := hb2.size; simp [hsz] at this; omega
      have HB2 : Hid (Below w.heap.size w w2) := ((HB.out.alloc (by omega) _).alloc (by simp; omega) _).trans (hb2.mono (by simp; omega))
      have HR2 : Hid (w2.rowIs w.heap.size 28 (2 * n) (recAt z n)) := ((HR.out.alloc _).alloc _).of_block (hb2.block _ (by simp; omega))
      clear hb2 hsz
      have hem := fun (w : World) (r : Option Nat) => run_eql_map_nil (P := Yba.prog) w 24 22 9 r Yba.underlying24
      go_wp2
      have h0n : (0 : Int) < (n : Int) := by omega
      have h0d : decide ((0 : Int) < (n : Int)) = true := by simp; omega
      have h0e : decide (0 < n) = true := by simp; omega
      go_quiet (fail)
      go_wp2
      go_loopw [25] (fun i wx => ∃ (j mq : Nat), j ≤ n ∧ i = .int .i64 j ∧ wx = (w2.alloc (.cells #[.int .u64 pi, .int .u64 pt, .slice a5 n5 c5, .slice a6 n6 c6, .slice a7 n7 c7, .map m, .bool false, .slice (some ⟨w.heap.size, 0, none⟩) n n] 34)).drewN mq)
        (fun i _ => n - (intOf i).toNat)
      case atStart => exact ⟨0, nq, Nat.zero_le _, rfl, rfl⟩
      case round =>
        obtain ⟨j, mq, hj, rfl, rfl⟩ := hrel
        by_cases hlt2 : j < n
        · have r0 := HR2.out.cell (i := j * 2) (by omega)
          have r1 := HR2.out.cell (i := j * 2 + 1) (by omega)
          rw [rec_term, if_pos hlt2] at r0
          rw [rec_conf] at r1
          have r2 : w2.cell? ⟨b, off + j, none⟩ = some (.int .u64 (z j)) := by rw [HB2.out.cell (p := ⟨b, off + j, none⟩) hb]; exact hc.out j hlt2
          have hG2 : w.heap.size < w2.heap.size := by omega
          have hb2' : b < w2.heap.size := by omega
          go_wp2
          have hjn : (j : Int) < (n : Int) := by omega
          go_quiet (fail)
          go_wp2
          go_roundw
          case rel => exact ⟨j + 1, mq + nq, by omega, by go_num, rfl⟩
          case measure => simp [intOf]; omega
        · obtain ⟨L, hL⟩ := hlen.out
          have hll : ∀ mx ty, (Builtin.len_ #[24] ty #[.map m]).run Yba.prog ((((w2.alloc (.cells #[.int .u64 pi, .int .u64 pt, .slice a5 n5 c5, .slice a6 n6 c6, .slice a7 n7 c7, .map m, .bool false, .slice (some ⟨w.heap.size, 0, none⟩) n n] 34)).drewN mq).alloc (.cells #[.slice a5 n5 c5, .slice a6 n6 c6, .slice a7 n7 c7, .map m] 32)).drewN mx) =
              .ok (.int .i64 L) ((((w2.alloc (.cells #[.int .u64 pi, .int .u64 pt, .slice a5 n5 c5, .slice a6 n6 c6, .slice a7 n7 c7, .map m, .bool false, .slice (some ⟨w.heap.size, 0, none⟩) n n] 34)).drewN mq).alloc (.cells #[.slice a5 n5 c5, .slice a6 n6 c6, .slice a7 n7 c7, .map m] 32)).drewN mx) := fun mx ty =>
            hL _ ty (below_drewN ((below_drewN (HB2.out.alloc (by omega) _) mq).alloc (by simp; omega) _) mx)
          clear hL
          go_wp2_with (go_at_call 6; refine (same_walk _ _ _ _ ?_).mono ?_; (first | exact h5 | exact h6 | exact h7); rintro e wy ⟨rfl, my, rfl⟩)
          go_ret
          exact ⟨rfl, below_drewN ((below_drewN (HB2.out.alloc (by omega) _) mq).alloc (by simp; omega) _) _⟩
end Go.Proofs.Ybulkahlo
