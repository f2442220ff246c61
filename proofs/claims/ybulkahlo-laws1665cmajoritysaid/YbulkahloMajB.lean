/-
  LawS1665CMajority: majorityOf.
-/
import Derived.Test.YbulkahloMajA
namespace Go.Proofs.Ybulkahlo
open Go.RowKit Go.Maps

theorem info22 : (Yba.prog.info? 22).map (fun i => (i.zero, i.size, i.bytes)) = some (some (.int .u64 0), 1, 8) := by kernel_rfl

theorem Stir.below {G B : Nat} {w w' : World} (h : Stir G w w') (hG : B ≤ G) (hB : B ≤ w.heap.size) : Below B w w' :=
  ⟨h.os, h.tape, h.output, h.size, fun k hk => h.block k (by omega) (by omega)⟩

/-- The values while they are filled. -/
def fillTo (v : Nat → Int) (k t : Nat) : Int := if t < k then v t else 0

theorem IsMaj.congr {f g : Nat → Int} {n : Nat} {r : Int} (h : IsMaj f n r) (e : ∀ t, t < n → f t = g t) : IsMaj g n r := by
  refine ⟨?_, ?_, fun v hv => h.2.2 v ?_⟩
  · rw [← cnt_congr _ f g n e]; exact h.1
  · obtain ⟨s, hs, es⟩ := h.2.1
    exact ⟨s, hs, by rw [← e s hs]; exact es⟩
  · rw [cnt_congr _ f g n e]; exact hv

set_option maxRecDepth 100000 in
set_option maxHeartbeats 1600000 in
theorem majOf {base C M k B V vo n cap : Nat} {me led : Int} {z ids : Nat → Int} {w : World} (hL : Hid (Lead base C M k me led z w)) (hbox : Hid (w.cell? ⟨B, 0, none⟩ = some (.pointer (some ⟨C, 0, none⟩)))) (hB : B < base) (hV : V < base) (hbase : base ≤ w.heap.size)
    (hk : k ≤ 512) (hn : n ≤ 512) (hn0 : 0 < n) (hv : Hid (∀ t, t < n → w.cell? ⟨V, vo + t, none⟩ = some (.int .u64 (ids t)))) (hids : Hid (∀ t, t < n → ids t = me ∨ ∃ i : Nat, i < k ∧ ids t = (i : Int) + 1)) :
    Calls Yba.prog 12 #[.slice (some ⟨V, vo, none⟩) n cap, .func (.func 10) #[] #[.pointer (some ⟨B, 0, none⟩)]] w fun e w' =>
      ∃ r, e = .returned (.int .u64 r) ∧ IsMaj (fun t => valOf me led z (ids t)) n r ∧ Below base w w' := by
  have hmk := fun w => run_make_row' (P := Yba.prog) 23 22 (.int .u64 0) 8 Yba.underlying23 info22 rfl .i64 .i64 n (by omega) (by omega) w
  have tn : ((n : Int) == 0) = false := by simp; omega
  go_enter Yba.func12, Yba.ntmps12
  go_wp2
  clear hmk
  have hr0 : Hid (Row w.heap.size 0 n (fillTo (fun t => valOf me led z (ids t)) 0) (w.alloc (.cells (madeCells #[.int .u64 0] n) 22))) :=
    ⟨rfl, (World.rowIs_made w (.int .u64 0) n 22).congr fun t _ => by unfold fillTo; rw [if_neg (by omega)]⟩
  have hb0 : Hid (Below base w (w.alloc (.cells (madeCells #[.int .u64 0] n) 22))) := (Below.refl base w).alloc hbase _
  go_loopw [16] (fun vi wr => ∃ i : Nat, vi = .int .i64 i ∧ i ≤ n ∧ Hid (Row w.heap.size 0 n (fillTo (fun t => valOf me led z (ids t)) i) wr) ∧ Hid (Below base w wr)) (fun vi _ => n - (intOf vi).toNat)
  case atStart => exact ⟨0, rfl, Nat.zero_le _, hr0, hb0⟩
  case round =>
    clear hr0 hb0
    obtain ⟨i, rfl, hi, hr, hbl⟩ := hrel
    by_cases hlt : i < n
    · have hc : wr.cell? ⟨V, vo + i, none⟩ = some (.int .u64 (ids i)) := by rw [below_cell hbl.out hV]; exact hv.out i hlt
      have hc2 : wr.cell? ⟨w.heap.size, i, none⟩ = some _ := World.rowIs.cell hr.out.is hlt
      have hf2 : wr.frozen? ⟨w.heap.size, i, none⟩ = false := World.rowIs.frozen hr.out.is i
      go_wp2_with (go_at_call 10; refine (clo (hL.out.kept hbl.out) (by rw [below_cell hbl.out hB]; exact hbox) hk _ (hids.out i hlt)).mono ?_; rintro e w1 ⟨rfl, rfl⟩)
      go_roundw
      case rel =>
        refine ⟨i + 1, by congr 1, by omega, ⟨rfl, (World.rowIs.set hr.out.is i _).congr fun t _ => ?_⟩, hbl.out.setCell hbase _⟩
        unfold fillTo
        by_cases e : t = i
        · rw [if_pos e, if_pos (by omega), e]
        · rw [if_neg e]
          by_cases e2 : t < i
          · rw [if_pos e2, if_pos (by omega)]
          · rw [if_neg e2, if_neg (by omega)]
      case measure => simp [intOf]; omega
    · go_wp2_with (go_at_call 14; refine (sorts w.heap.size 0 n n _ wr hr hn).mono ?_; rintro e w1 ⟨rfl, g, hat, hs⟩; have hcm := World.rowIs.cell hat.row.is (show n - (n / 2 + 1) < n by omega); have HAT : Hid _ := hat; have HS : Hid _ := hs; clear hat hs)
      go_ret
      refine ⟨_, rfl, (majority_law HAT.out.sh HS.out hn0).congr fun t ht => ?_, hbl.out.trans (HAT.out.stir.below hbase (Nat.le_trans hbase hbl.out.size))⟩
      unfold fillTo
      rw [if_pos (by omega)]
end Go.Proofs.Ybulkahlo
