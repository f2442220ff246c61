/-
  zzs1662bparents: the forest that the law draws.
-/
import Derived.Test.YbulkahjyRoot
namespace Go.Proofs.Ybulkahjy
open Go.RowKit Forest

theorem info3 : (Yba.prog.info? 3).map (fun i => (i.zero, i.size, i.bytes)) = some (some (.int .i64 0), 1, 8) := by kernel_rfl

/-- The row while it is filled: the first k are drawn. -/
def parAt (n : Nat) (z : Nat → Int) (k j : Nat) : Value := .int .i64 (if j < k then par n z j else 0)

theorem parAt_step (n : Nat) (z : Nat → Int) (k j : Nat) : (if j = k then Value.int .i64 (par n z k) else parAt n z k j) = parAt n z (k + 1) j := by
  unfold parAt
  by_cases h : j = k
  · subst h; rw [if_pos rfl, if_pos (by omega)]
  · rw [if_neg h]
    by_cases h2 : j < k
    · rw [if_pos h2, if_pos (by omega)]
    · rw [if_neg h2, if_neg (by omega)]

set_option maxHeartbeats 800000 in
theorem parents_walk (b off n cap : Nat) (z : Nat → Int) (w : World) (hn : 1 ≤ n) (hn2 : n ≤ 512) (hb : b < w.heap.size)
    (hc : Hid (∀ j, j < n → w.cell? ⟨b, off + j, none⟩ = some (.int .u8 (z j)))) (hz : Hid (∀ j, j < n → 0 ≤ z j ∧ z j ≤ 255)) :
    Calls Yba.prog 5 #[.slice (some ⟨b, off, none⟩) n cap] w fun e w' => e = .returned (.slice (some ⟨w.heap.size, 0, none⟩) n n) ∧
      w'.rowIs w.heap.size 3 n (fun j => .int .i64 (par n z j)) ∧ w'.heap.size = w.heap.size + 1 ∧ Below w.heap.size w w' := by
  have hmk := fun w => run_make_row' (P := Yba.prog) 24 3 (.int .i64 0) 8 Yba.underlying24 info3 rfl .i64 .i64 n (by omega) (by omega) w
  go_enter Yba.func5, Yba.ntmps5
  go_wp2
  go_loopw [5] (fun i wr => ∃ k : Nat, k ≤ n ∧ i = .int .i64 k ∧ Hid (wr.rowIs w.heap.size 3 n (parAt n z k)) ∧ Hid (Turn w.heap.size (w.alloc (.cells (madeCells #[.int .i64 0] n) 3)) wr))
    (fun i _ => n - (intOf i).toNat)
  case atStart => exact ⟨0, Nat.zero_le _, rfl, (World.rowIs_made w _ n 3).congr (fun j _ => by simp [parAt]), Turn.refl _ _⟩
  case round =>
    obtain ⟨k, hk, rfl, hr, ht⟩ := hrel
    by_cases hlt : k < n
    · have hcz : wr.cell? ⟨b, off + k, none⟩ = some (.int .u8 (z k)) := by
        rw [(ht.out.below (Nat.le_refl _)).cell (p := ⟨b, off + k, none⟩) hb, World.cell?_alloc_lt _ _ _ hb]; exact hc.out k hlt
      obtain ⟨z0, z1⟩ := hz.out k hlt
      have hck := hr.out.cell hlt
      have hfk := hr.out.frozen k
      have hnext : ∀ v, v = par n z k → Hid ((wr.setCell ⟨w.heap.size, k, none⟩ (.int .i64 v)).rowIs w.heap.size 3 n (parAt n z (k + 1))) := fun v hv => by
        subst hv; exact (hr.out.set k _).congr (fun j _ => parAt_step n z k j)
      have hturn := fun v => ht.out.setCell k (.int .i64 v)
      have HN : Hid (∀ v, v = par n z k → Hid ((wr.setCell ⟨w.heap.size, k, none⟩ (.int .i64 v)).rowIs w.heap.size 3 n (parAt n z (k + 1)))) := hnext
      have HT : Hid (∀ v : Int, Turn w.heap.size (w.alloc (.cells (madeCells #[.int .i64 0] n) 3)) (wr.setCell ⟨w.heap.size, k, none⟩ (.int .i64 v))) := hturn
      clear hnext hturn
      rw [show parAt n z k k = .int .i64 0 by simp [parAt]] at hck
      by_cases hlast : n ≤ k + 1
      · have hpar : par n z k = -1 := by unfold par; rw [if_pos (by omega)]
        have HP : Hid (par n z k = -1) := hpar
        have hbl : ((k : Int) == (n : Int) - 1) = true := by simp; omega
        clear hpar
        go_wp2
        go_roundw
        case rel => exact ⟨k + 1, by omega, by go_num, HN.out (-1) HP.out.symm, HT.out _⟩
        case measure => simp [intOf]; omega
      · have hbl : ((k : Int) == (n : Int) - 1) = false := by simp; omega
        by_cases h4 : z k % 4 = 0
        · have hpar : par n z k = -1 := by unfold par; rw [if_pos (.inr h4)]
          have HP : Hid (par n z k = -1) := hpar
          have hb4 : (z k % 4 == 0) = true := by simpa using h4
          clear hpar h4
          go_wp2
          go_roundw
          case rel => exact ⟨k + 1, by omega, by go_num, HN.out (-1) HP.out.symm, HT.out _⟩
          case measure => simp [intOf]; omega
        · have hpar : par n z k = (k : Int) + 1 + z k % ((n : Int) - 1 - k) := by unfold par; rw [if_neg (by omega)]
          have HP : Hid (par n z k = (k : Int) + 1 + z k % ((n : Int) - 1 - k)) := hpar
          have hb4 : (z k % 4 == 0) = false := by simpa using h4
          have m0 := Int.emod_nonneg (z k) (show (n : Int) - 1 - k ≠ 0 by omega)
          have m1 := Int.emod_lt_of_pos (z k) (show (0 : Int) < (n : Int) - 1 - k by omega)
          clear hpar h4
          go_wp2
          go_roundw
          case rel => exact ⟨k + 1, by omega, by go_num, HN.out _ HP.out.symm, HT.out _⟩
          case measure => simp [intOf]; omega
    · go_wp2
      go_ret
      have e : k = n := by omega
      subst e
      refine ⟨rfl, hr.out.congr (fun j hj => by simp [parAt, hj]), by rw [ht.out.size]; simp, ((Below.refl _ w).alloc (Nat.le_refl _) _).trans (ht.out.below (Nat.le_refl _))⟩
end Go.Proofs.Ybulkahjy
