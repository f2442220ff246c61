/-
  The library's sort at uint64: cmp.Less and the insertion sort.
-/
import Derived.Test.YbulkahloSort0
namespace Go.Proofs.Ybulkahlo
open Go.RowKit

def lss (x y : Int) : Bool := decide (x < y)
theorem lss_t {x y : Int} (h : lss x y = true) : x < y := of_decide_eq_true h
theorem lss_f {x y : Int} (h : lss x y = false) : y ≤ x := by have := of_decide_eq_false h; omega

theorem less (x y : Int) (w : World) : Calls Yba.prog 23 #[.int .u64 x, .int .u64 y] w fun e w' => e = .returned (.bool (lss x y)) ∧ w' = w := by
  unfold lss
  go_enter Yba.func23, Yba.ntmps23
  go_wp2
  all_goals (go_ret; simp)

/-- Ascending on [a, i] but for what stands at j, which is below all behind it. -/
def Ins (g : Nat → Int) (a i j : Nat) : Prop := ∀ s t, a ≤ s → s ≤ t → t ≤ i → t ≠ j → g s ≤ g t

theorem ins_start {g : Nat → Int} {a i : Nat} (h : Srt g a i) : Ins g a i i := fun s t h1 h2 h3 h4 => h s t h1 h2 (by omega)
theorem ins_step {g : Nat → Int} {a i j : Nat} (h : Ins g a i j) (ha : a < j) (hj : j ≤ i) (hl : g j < g (j - 1)) : Ins (sw g j (j - 1)) a i (j - 1) := by
  intro s t h1 h2 h3 h4
  unfold sw
  rw [if_neg h4]
  by_cases e : t = j
  · subst e
    rw [if_pos rfl]
    by_cases e1 : s = t - 1
    · rw [if_pos e1]; omega
    · rw [if_neg e1]
      by_cases e2 : s = t
      · rw [if_pos e2]; omega
      · rw [if_neg e2]; exact h s (t - 1) h1 (by omega) (by omega) (by omega)
  · rw [if_neg e]
    by_cases e1 : s = j - 1
    · rw [if_pos e1]; exact h j t (by omega) (by omega) h3 e
    · rw [if_neg e1]
      by_cases e2 : s = j
      · rw [if_pos e2]; exact h (j - 1) t (by omega) (by omega) h3 e
      · rw [if_neg e2]; exact h s t h1 h2 h3 e
theorem ins_end {g : Nat → Int} {a i j : Nat} (h : Ins g a i j) (hj : j ≤ i) (hs : j ≤ a ∨ g (j - 1) ≤ g j) : Srt g a (i + 1) := by
  intro s t h1 h2 h3
  by_cases e : t = j
  · subst e
    by_cases e2 : s = t
    · rw [e2]; exact Int.le_refl _
    · have h4 : g (t - 1) ≤ g t := by omega
      have h5 := h s (t - 1) h1 (by omega) (by omega) (by omega)
      omega
  · exact h s t h1 h2 (by omega) e

set_option maxRecDepth 100000 in
set_option maxHeartbeats 1600000 in
theorem insertion (G o n cap a b : Nat) (f : Nat → Int) (w : World) (h : Hid (Row G o n f w)) (hab : a ≤ b) (hb : b ≤ n) (hn : n ≤ 512) :
    Calls Yba.prog 17 #[.slice (some ⟨G, o, none⟩) n cap, .int .i64 a, .int .i64 b] w fun e w' =>
      e = .returned (.tuple #[]) ∧ ∃ g, At G o n a b f w g w' ∧ Srt g a b := by
  go_enter Yba.func17, Yba.ntmps17
  go_wp2
  go_loopw [6] (fun vi wr => ∃ (i : Nat) (g : Nat → Int), vi = .int .i64 i ∧ a < i ∧ i ≤ b + 1 ∧ Hid (At G o n a b f w g wr) ∧ Hid (Srt g a i)) (fun vi _ => b + 1 - (intOf vi).toNat)
  case atStart => exact ⟨a + 1, f, by go_num, by omega, by omega, At.refl _ _ h, fun s t h1 h2 h3 => by rw [show s = t by omega]; exact Int.le_refl _⟩
  case round =>
    obtain ⟨i, g, rfl, hai, hib, hat, hsr⟩ := hrel
    go_wp2
    · have hlt : i < b := by assumption
      go_loopw [7] (fun vj wr2 => ∃ (j : Nat) (g : Nat → Int), vj = .int .i64 j ∧ a ≤ j ∧ j ≤ i ∧ Hid (At G o n a b f w g wr2) ∧ Hid (Ins g a i j)) (fun vj _ => (intOf vj).toNat)
      case atStart => exact ⟨i, g, rfl, by omega, Nat.le_refl _, hat, ins_start hsr⟩
      case round =>
        clear hat hsr
        obtain ⟨j, g, rfl, haj, hji, hat, hin⟩ := hrel
        have hc := hat.out.cell
        have hf := hat.out.frozen
        go_wp2
        by_cases hja : a < j
        · go_quiet (first | (go_at_call 23; refine Calls.quiet_of_same (less _ _ _)))
          go_wp2
          · have hl : lss (g j) (g (j - 1)) = true := by assumption
            go_region
            all_goals go_wp2
            go_roundw
            case rel => exact ⟨j - 1, _, by congr 1; omega, by omega, by omega, hat.out.swap hb (by omega) (by omega) (by omega) (by omega) _, ins_step hin.out hja hji (lss_t hl)⟩
            case measure => simp [intOf]; omega
          · have hl : lss (g j) (g (j - 1)) = false := by assumption
            go_roundw
            case rel => exact ⟨i + 1, g, by go_num, by omega, by omega, hat.out.drew _, ins_end hin.out hji (.inr (lss_f hl))⟩
            case measure => simp [intOf]; omega
        · go_quiet (first | (go_at_call 23; refine Calls.quiet_of_same (less _ _ _)))
          go_wp2
          go_roundw
          case rel => exact ⟨i + 1, g, by go_num, by omega, by omega, hat.out.drew _, ins_end hin.out hji (.inl (by omega))⟩
          case measure => simp [intOf]; omega
    · have hge : ¬ i < b := by assumption
      go_end0
      exact ⟨rfl, g, hat.out, fun s t h1 h2 h3 => hsr.out s t h1 h2 (by omega)⟩

end Go.Proofs.Ybulkahlo
