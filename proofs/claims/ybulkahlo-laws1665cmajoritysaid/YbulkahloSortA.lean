/-
  slices.Sort at []uint64.
-/
import Derived.Test.YbulkahloSort9
namespace Go.Proofs.Ybulkahlo
open Go.RowKit

set_option maxRecDepth 100000 in
theorem sorts (G o n cap : Nat) (f : Nat → Int) (w : World) (h : Hid (Row G o n f w)) (hn : n ≤ 512) :
    Calls Yba.prog 14 #[.slice (some ⟨G, o, none⟩) n cap] w fun e w' =>
      e = .returned (.tuple #[]) ∧ ∃ g, At G o n 0 n f w g w' ∧ Srt g 0 n := by
  have hlen : Lib.bitLen n ≤ 64 := Lib.bitLen_le n 64 (by omega) (by omega)
  go_enter Yba.func14, Yba.ntmps14
  go_wp2_with (first
    | (go_at_call 16; refine (Yba.bits_Len _ _ (by omega) (by omega)).mono ?_; rintro e w1 ⟨rfl, rfl⟩)
    | (go_at_call 15; refine (pdq G o n cap hn (n + 1) 0 n (Lib.bitLen n) f _ (by omega) h (fun h => absurd h (by omega)) (by omega) (by omega) hlen).mono ?_; rintro e w2 ⟨rfl, g, hat, hs⟩))
  go_end0
  exact ⟨rfl, g, hat, hs⟩

theorem cnt_ge (p : Int → Bool) (g : Nat → Int) (m n : Nat) (h : ∀ t, m ≤ t → t < n → p (g t) = true) : n - m ≤ cnt p g n := by
  induction n with
  | zero => omega
  | succ n ih =>
    rw [cnt]
    have := ih fun t h1 h2 => h t h1 (by omega)
    by_cases hm : m ≤ n
    · rw [h n hm (by omega), if_pos rfl]; omega
    · omega
theorem cnt_le (p : Int → Bool) (g : Nat → Int) (m n : Nat) (h : ∀ t, t < m → t < n → p (g t) = false) : cnt p g n ≤ n - m := by
  induction n with
  | zero => rw [cnt]; omega
  | succ n ih =>
    rw [cnt]
    have := ih fun t h1 h2 => h t h1 (by omega)
    by_cases hm : n < m
    · rw [h n hm (by omega), if_neg (by simp)]; omega
    · split <;> omega

/-- The greatest value that half and one more have reached. -/
def IsMaj (f : Nat → Int) (n : Nat) (r : Int) : Prop := n / 2 + 1 ≤ cnt (fun v => decide (r ≤ v)) f n ∧ (∃ s, s < n ∧ f s = r) ∧ ∀ v, n / 2 + 1 ≤ cnt (fun x => decide (v ≤ x)) f n → v ≤ r

theorem majority_law {n : Nat} {f g : Nat → Int} (hs : Sh n 0 n f g) (hr : Srt g 0 n) (h0 : 0 < n) : IsMaj f n (g (n - (n / 2 + 1))) := by
  refine ⟨?_, ?_, fun v hv => ?_⟩
  · rw [← hs.cnt]
    have := cnt_ge (fun v => decide (g (n - (n / 2 + 1)) ≤ v)) g (n - (n / 2 + 1)) n (fun t h1 h2 => decide_eq_true (hr _ t (by omega) h1 h2))
    omega
  · obtain ⟨s, _, h2, e⟩ := hs.mem (n - (n / 2 + 1)) (by omega) (by omega)
    exact ⟨s, h2, e.symm⟩
  · rw [← hs.cnt] at hv
    rcases Int.lt_or_le (g (n - (n / 2 + 1))) v with h | h
    · have := cnt_le (fun x => decide (v ≤ x)) g (n - (n / 2 + 1) + 1) n (fun t h1 h2 => decide_eq_false (by
        have := hr t (n - (n / 2 + 1)) (by omega) (by omega) (by omega)
        omega))
      omega
    · exact h
theorem IsMaj.unique {f : Nat → Int} {n : Nat} {r s : Int} (h : IsMaj f n r) (k : IsMaj f n s) : r = s := by
  have h1 := h.2.2 s k.1
  have h2 := k.2.2 r h.1
  omega
end Go.Proofs.Ybulkahlo
