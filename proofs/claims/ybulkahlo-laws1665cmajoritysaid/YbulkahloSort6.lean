/-
  The library's sort at uint64: the insertion sort that gives up.
-/
import Derived.Test.YbulkahloSort5
import Derived.Deep.DeepCutAuto
namespace Go.Proofs.Ybulkahlo
open Go.RowKit

/-- What stands ahead of [a, b) is not above it. -/
def Low (f : Nat → Int) (a b : Nat) : Prop := 0 < a → ∀ t, a ≤ t → t < b → f (a - 1) ≤ f t
theorem Low.sh {n a b : Nat} {f g : Nat → Int} (h : Low f a b) (x : Sh n a b f g) : Low g a b := by
  intro ha t h1 h2
  rw [x.out (a - 1) (by omega)]
  exact x.all (p := fun v => f (a - 1) ≤ v) (h ha) t h1 h2
theorem srt_grow {g : Nat → Int} {a i : Nat} (h : Srt g a i) (hi : a < i) (hl : g (i - 1) ≤ g i) : Srt g a (i + 1) := by
  intro s t h1 h2 h3
  by_cases e : t = i
  · subst e
    by_cases e2 : s = t
    · rw [e2]; exact Int.le_refl _
    · exact Int.le_trans (h s (t - 1) h1 (by omega) (by omega)) hl
  · exact h s t h1 h2 (by omega)
theorem srt_congr {g g' : Nat → Int} {a i : Nat} (h : Srt g a i) (e : ∀ t, a ≤ t → t < i → g' t = g t) : Srt g' a i := fun s t h1 h2 h3 => by
  rw [e s h1 (by omega), e t (by omega) h3]; exact h s t h1 h2 h3
/-- Behind the exchange of i - 1 and i: what is new at i - 1 is still to be put into its place. -/
theorem ins_swap {g : Nat → Int} {a i : Nat} (h : Srt g a i) (hi : a < i) : Ins (sw g i (i - 1)) a (i - 1) (i - 1) := by
  intro s t h1 h2 h3 h4
  unfold sw
  rw [if_neg h4, if_neg (by omega), if_neg (by omega), if_neg (by omega)]
  exact h s t h1 h2 (by omega)

set_option maxRecDepth 100000 in
set_option maxHeartbeats 3200000 in
theorem someIns (G o n cap a b : Nat) (f : Nat → Int) (w : World) (h : Hid (Row G o n f w)) (hlo : Hid (Low f a b)) (hab : a < b) (hb : b ≤ n) (hn : n ≤ 512) :
    Calls Yba.prog 22 #[.slice (some ⟨G, o, none⟩) n cap, .int .i64 a, .int .i64 b] w fun e w' =>
      ∃ (r : Bool) (g : Nat → Int), e = .returned (.bool r) ∧ At G o n a b f w g w' ∧ (r = true → Srt g a b) := by
  go_enter Yba.func22, Yba.ntmps22
  go_wp2
  go_loopw [7, 8] (fun vi vj wr => ∃ (i j : Nat) (g : Nat → Int), vi = .int .i64 i ∧ vj = .int .i64 j ∧ a < i ∧ i ≤ b ∧ j ≤ 5 ∧ Hid (At G o n a b f w g wr) ∧ Hid (Srt g a i)) (fun _ vj _ => 5 - (intOf vj).toNat)
  case atStart => exact ⟨a + 1, 0, f, by go_num, rfl, by omega, by omega, by omega, At.refl _ _ h, fun s t h1 h2 h3 => by rw [show s = t by omega]; exact Int.le_refl _⟩
  case round =>
    obtain ⟨i, j, g, rfl, rfl, hai, hib, hj5, hat, hsr⟩ := hrel
    by_cases hj : j < 5
    · go_wp2
      go_loopw [7] (fun vi wr => ∃ (i : Nat) (g : Nat → Int), vi = .int .i64 i ∧ a < i ∧ i ≤ b ∧ Hid (At G o n a b f w g wr) ∧ Hid (Srt g a i)) (fun vi _ => b - (intOf vi).toNat)
      case atStart => exact ⟨i, g, rfl, hai, hib, hat, hsr⟩
      case round =>
        clear hat hsr hai hib
        obtain ⟨i, g, rfl, hai, hib, hat, hsr⟩ := hrel
        have hc := hat.out.cell
        have hf := hat.out.frozen
        go_wp2
        by_cases hi : i < b
        · cases hl : lss (g i) (g (i - 1))
          · go_big_quiet (first | (go_at_call 23; refine Calls.quiet_of_same (less _ _ _)))
            go_wp2
            go_roundw
            case rel => exact ⟨i + 1, g, by congr 1, by omega, by omega, hat.out.drew _, srt_grow hsr.out hai (lss_f hl)⟩
            case measure => simp [intOf]; omega
          · go_big_quiet (first | (go_at_call 23; refine Calls.quiet_of_same (less _ _ _)))
            have hat2 : Hid (At G o n a b f w g (wr.drewN nq)) := hat.out.drew nq
            generalize wr.drewN nq = wq at hat2 ⊢
            clear hc hf hat
            have hc := hat2.out.cell
            have hf := hat2.out.frozen
            go_wp2
            · go_ret
              exact ⟨false, g, rfl, hat2.out, fun h => by cases h⟩
            · go_region
              have hat3 : Hid (At G o n a b f w (sw g i (i - 1)) ((wq.setCell ⟨G, o + i, none⟩ (.int .u64 (g (i - 1)))).setCell ⟨G, o + (i - 1), none⟩ (.int .u64 (g i))).drew) :=
                hat2.out.swap hb (by omega) (by omega) (by omega) (by omega) 1
              generalize ((wq.setCell ⟨G, o + i, none⟩ (.int .u64 (g (i - 1)))).setCell ⟨G, o + (i - 1), none⟩ (.int .u64 (g i))).drew = wp at hat3 ⊢
              have hin : Hid (Ins (sw g i (i - 1)) a (i - 1) (i - 1)) := ins_swap hsr.out hai
              generalize sw g i (i - 1) = g2 at hat3 hin
              clear hc hf hat2 hsr hl
              go_upto_if 61 with fail
              go_cut [] (fun wx => ∃ g : Nat → Int, Hid (At G o n a b f w g wx) ∧ Hid (Srt g a i))
              case first =>
                by_cases hi2 : a + 2 ≤ i
                · go_wp2
                  go_loopw [9] (fun vk wr => ∃ (k : Nat) (g : Nat → Int), vk = .int .i64 k ∧ a ≤ k ∧ k ≤ i - 1 ∧ Hid (At G o n a b f w g wr) ∧ Hid (Ins g a (i - 1) k)) (fun vk _ => (intOf vk).toNat)
                  case atStart => exact ⟨i - 1, g2, by go_num, by omega, by omega, hat3, hin⟩
                  case round =>
                    clear hat3 hin
                    obtain ⟨k, g, rfl, hak, hki, hat, hin⟩ := hrel
                    have hc := hat.out.cell
                    have hf := hat.out.frozen
                    by_cases hk1 : 1 ≤ k
                    · go_wp2
                      cases hl : lss (g k) (g (k - 1))
                      · go_big_quiet (first | (go_at_call 23; refine Calls.quiet_of_same (less _ _ _)))
                        go_wp2
                        go_meet
                        exact ⟨g, hat.out.drew _, by rw [show i = i - 1 + 1 by omega]; exact ins_end hin.out hki (.inr (lss_f hl))⟩
                      · have hak2 : a < k := by
                          rcases Nat.lt_or_ge a k with h | h
                          · exact h
                          · have e : k = a := by omega
                            subst e
                            have h1 := (hlo.out.sh hat.out.sh) (by omega) k (by omega) (by omega)
                            have h2 := lss_t hl
                            omega
                        go_big_quiet (first | (go_at_call 23; refine Calls.quiet_of_same (less _ _ _)))
                        have hat2 : Hid (At G o n a b f w g (wr.drewN nq)) := hat.out.drew nq
                        generalize wr.drewN nq = wq at hat2 ⊢
                        clear hc hf hat
                        have hc := hat2.out.cell
                        have hf := hat2.out.frozen
                        go_wp2
                        go_region
                        go_wp2
                        go_roundw
                        case rel => exact ⟨k - 1, _, by congr 1; omega, by omega, by omega, hat2.out.swap hb (by omega) (by omega) (by omega) (by omega) 1, ins_step hin.out hak2 hki (lss_t hl)⟩
                        case measure => simp [intOf]; omega
                    · go_wp2
                      go_meet
                      exact ⟨g, hat, by rw [show i = i - 1 + 1 by omega]; exact ins_end hin.out hki (.inl (by omega))⟩
                · go_wp2
                  go_meet
                  exact ⟨g2, hat3, by rw [show i = i - 1 + 1 by omega]; exact ins_end hin.out (Nat.le_refl _) (.inl (by omega))⟩
              case rest =>
                clear hat3 hin
                obtain ⟨g, hat, hsr⟩ := hcut
                by_cases hi2 : i + 2 ≤ b
                · go_wp2
                  go_loopw [10] (fun vk wr => ∃ (k : Nat) (g : Nat → Int), vk = .int .i64 k ∧ i < k ∧ k ≤ b ∧ Hid (At G o n a b f w g wr) ∧ Hid (Srt g a i)) (fun vk _ => b - (intOf vk).toNat)
                  case atStart => exact ⟨i + 1, g, by go_num, by omega, by omega, hat, hsr⟩
                  case round =>
                    clear hat hsr
                    obtain ⟨k, g, rfl, hik, hkb, hat, hsr⟩ := hrel
                    have hc := hat.out.cell
                    have hf := hat.out.frozen
                    by_cases hk1 : k < b
                    · go_wp2
                      cases hl : lss (g k) (g (k - 1))
                      · go_big_quiet (first | (go_at_call 23; refine Calls.quiet_of_same (less _ _ _)))
                        go_wp2
                        go_roundw
                        case rel => exact ⟨i, j + 1, g, rfl, by congr 1, hai, hib, by omega, hat.out.drew _, hsr⟩
                        case measure => simp [intOf]; omega
                      · go_big_quiet (first | (go_at_call 23; refine Calls.quiet_of_same (less _ _ _)))
                        have hat2 : Hid (At G o n a b f w g (wr.drewN nq)) := hat.out.drew nq
                        generalize wr.drewN nq = wq at hat2 ⊢
                        clear hc hf hat
                        have hc := hat2.out.cell
                        have hf := hat2.out.frozen
                        go_wp2
                        go_region
                        go_wp2
                        go_roundw
                        case rel =>
                          refine ⟨k + 1, _, by congr 1, by omega, by omega, hat2.out.swap hb (by omega) (by omega) (by omega) (by omega) 1, srt_congr hsr.out fun t h1 h2 => ?_⟩
                          unfold sw
                          rw [if_neg (by omega), if_neg (by omega)]
                        case measure => simp [intOf]; omega
                    · go_wp2
                      go_roundw
                      case rel => exact ⟨i, j + 1, g, rfl, by congr 1, hai, hib, by omega, hat, hsr⟩
                      case measure => simp [intOf]; omega
                · go_wp2
                  go_roundw
                  case rel => exact ⟨i, j + 1, g, rfl, by congr 1, hai, hib, by omega, hat, hsr⟩
                  case measure => simp [intOf]; omega
        · go_big_quiet (first | (go_at_call 23; refine Calls.quiet_of_same (less _ _ _)))
          go_wp2
          go_ret
          exact ⟨true, g, rfl, hat.out.drew _, fun _ => by rw [show b = i by omega]; exact hsr.out⟩
    · go_wp2
      go_ret
      exact ⟨false, g, rfl, hat.out, fun h => by cases h⟩
end Go.Proofs.Ybulkahlo
