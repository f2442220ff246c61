/-
  LawS1662BRootsKept: the walk.
-/
import Derived.Test.YbulkahjyBuild
import Derived.Lib.Builder
namespace Go.Proofs.Ybulkahjy
open Go.RowKit Forest

theorem neq_same (a : Addr) (w : World) : (binOp .neq 28 (.pointer (some a)) (.pointer (some a))).run Yba.prog w = .ok (.bool false) w := by
  obtain ⟨i, hi⟩ := Option.isSome_iff_exists.1 (show (Yba.prog.info? 31).isSome = true from by kernel_rfl)
  exact Lib.run_neq_ptr_same w a Yba.underlying28 hi

set_option maxRecDepth 100000 in
set_option maxHeartbeats 1600000 in
theorem kept_walk (b off n cap : Nat) (z : Nat → Int) (w : World) (hn : 1 ≤ n) (hn2 : n ≤ 512) (hb : b < w.heap.size)
    (hc : Hid (∀ j, j < n → w.cell? ⟨b, off + j, none⟩ = some (.int .u8 (z j)))) (hz : Hid (∀ j, j < n → 0 ≤ z j ∧ z j ≤ 255)) :
    Calls Yba.prog 4 #[.slice (some ⟨b, off, none⟩) n cap] w fun e w' => e = .returned (.bool true) ∧ Below w.heap.size w w' := by
  have hsame := neq_same
  have hne0 : ((n : Int) == 0) = false := by simp; omega
  have hng : ¬ (512 : Int) < (n : Int) := by omega
  obtain ⟨P, hP⟩ : ∃ P, P = par n z := ⟨_, rfl⟩
  have hok : Hid (Ok n P) := by rw [hP]; exact par_ok n z
  have HP : Hid (P = par n z) := hP
  clear hP
  go_enter Yba.func4, Yba.ntmps4
  go_wp2_with fail
  refine (parents_walk b off n cap z _ hn hn2 hb hc hz).mono ?_
  rintro e w1 ⟨rfl, hr1, hs1, hb1⟩
  rw [← HP.out] at hr1
  go_wp2_with fail
  refine (build_walk w.heap.size n P _ hn hn2 hok hr1).mono ?_
  rintro e w2 ⟨rfl, hr2, hs2, hb2⟩
  rw [hs1] at hr2 hs2 hb2 ⊢
  have HR1 : Hid (w2.rowIs w.heap.size 3 n (fun j => .int .i64 (P j))) := hr1.of_block (hb2.block _ (by omega))
  have HR2 : Hid (w2.rowIs (w.heap.size + 1) 31 (3 * n) (gapAt (w.heap.size + 1) P)) := hr2
  have HB : Hid (Below w.heap.size w w2) := hb1.trans (hb2.mono (by omega))
  clear hr1 hr2 hb1 hb2 hs1 hs2
  go_wp2
  go_loopw [6] (fun i wr => ∃ (k : Nat) (q : Nat → Int), k ≤ n ∧ i = .int .i64 k ∧ Hid (Ok n q) ∧ Hid (∀ j, j < n → rootOf n q j = rootOf n P j) ∧ Hid (wr.rowIs (w.heap.size + 1) 31 (3 * n) (gapAt (w.heap.size + 1) q)) ∧ Hid (wr.rowIs w.heap.size 3 n (fun j => .int .i64 (P j))) ∧ Hid (Below w.heap.size w wr))
    (fun i _ => n - (intOf i).toNat)
  case atStart => exact ⟨0, P, Nat.zero_le _, rfl, hok, fun _ _ => rfl, HR2, HR1, HB⟩
  case round =>
    obtain ⟨k, q, hk, rfl, hq, hrt, hr2, hr1, hbw⟩ := hrel
    by_cases hlt : k < n
    · go_wp2
      go_loop [7] (fun r => ∃ c : Nat, c < n ∧ r = .int .i64 c ∧ Hid (rootOf n P c = rootOf n P k)) (fun r => n - (intOf r).toNat)
      case atStart => exact ⟨k, hlt, rfl, rfl⟩
      case round =>
        obtain ⟨c, hcn, rfl, hroot⟩ := hrel
        have hpc := hr1.out.cell hcn
        by_cases h0 : P c < 0
        · have hrc : rootOf n P c = c := rootOf_done h0
          have HRC : Hid (rootOf n P c = c) := hrc
          have h0' : ¬ 0 ≤ P c := by omega
          clear hrc
          obtain ⟨hk1, hk2, hk3⟩ := halve_kept n q k hq.out hlt (by omega)
          obtain ⟨ho1, ho2⟩ := halve_ok n q k hq.out hlt
          have e2 : (halve n q k).2 = c := by rw [hk2, hrt.out k hlt, ← hroot.out]; exact HRC.out
          rw [e2] at hk3
          have HK1 : Hid (∀ j, j < n → rootOf n (halve n q k).1 j = rootOf n P j) := fun j hj => (hk1 j hj).trans (hrt.out j hj)
          have HO1 : Hid (Ok n (halve n q k).1) := ho1
          have HK3 : Hid ((halve n q k).1 c < 0) := hk3
          have HE2 : Hid ((halve n q k).2 = c) := e2
          clear hk1 hk2 hk3 ho1 ho2 e2
          go_wp2_with fail
          refine (root_walk (w.heap.size + 1) n k q wr hlt hq hr2).mono ?_
          rintro e w3 ⟨rfl, h3, t3⟩
          rw [HE2.out]
          have hcc := h3.cell (i := c * 3 + 1) (by omega)
          rw [gap_into, ptr, if_pos HK3.out] at hcc
          have H3 : Hid (w3.rowIs (w.heap.size + 1) 31 (3 * n) (gapAt (w.heap.size + 1) (halve n q k).1)) := h3
          have H1 : Hid (w3.rowIs w.heap.size 3 n (fun j => .int .i64 (P j))) := t3.row (by omega) hr1.out
          have HW : Hid (Below w.heap.size w w3) := hbw.out.trans (t3.below (by omega))
          clear h3 t3
          go_wp2
          go_roundw
          case rel => exact ⟨k + 1, (halve n q k).1, by omega, by go_num, HO1, HK1, H3, H1, HW⟩
          case measure => simp [intOf]; omega
        · obtain ⟨s1, s2⟩ := hok.out.step hcn h0
          have h0' : 0 ≤ P c := by omega
          have HS := rootOf_step hok.out hcn h0
          have HS' : Hid (rootOf n P (P c).toNat = rootOf n P k) := HS.symm.trans hroot.out
          clear HS h0
          go_wp2
          go_round
          case rel => exact ⟨(P c).toNat, s2, by go_num, HS'⟩
          case measure => simp [intOf]; omega
    · go_wp2
      go_ret
      exact ⟨rfl, hbw.out⟩
end Go.Proofs.Ybulkahjy
