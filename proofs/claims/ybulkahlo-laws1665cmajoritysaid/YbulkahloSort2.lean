/-
  The library's sort at uint64: the heap sort.
-/
import Derived.Test.YbulkahloSort1
namespace Go.Proofs.Ybulkahlo
open Go.RowKit

def rel (a : Nat) (g : Nat → Int) (k : Nat) : Int := g (a + k)
theorem rel_sw (a : Nat) (g : Nat → Int) (i j : Nat) : rel a (sw g (a + i) (a + j)) = sw (rel a g) i j := by
  funext k
  unfold rel sw
  by_cases h1 : k = j
  · subst h1; rw [if_pos rfl, if_pos rfl]
  · rw [if_neg h1, if_neg (by omega)]
    by_cases h2 : k = i
    · subst h2; rw [if_pos rfl, if_pos rfl]
    · rw [if_neg h2, if_neg (by omega)]

def Hp (h : Nat → Int) (lo hi : Nat) : Prop := ∀ k, lo ≤ k → ∀ c, c = 2 * k + 1 ∨ c = 2 * k + 2 → c < hi → h c ≤ h k
/-- A heap but at r. -/
def Hq (h : Nat → Int) (lo hi r : Nat) : Prop :=
  (∀ k, lo ≤ k → k ≠ r → ∀ c, c = 2 * k + 1 ∨ c = 2 * k + 2 → c < hi → h c ≤ h k) ∧
  ∀ k, lo ≤ k → r = 2 * k + 1 ∨ r = 2 * k + 2 → ∀ c, c = 2 * r + 1 ∨ c = 2 * r + 2 → c < hi → h c ≤ h k

theorem hq_start {h : Nat → Int} {lo hi : Nat} (x : Hp h (lo + 1) hi) : Hq h lo hi lo :=
  ⟨fun k h1 h2 c hc hh => x k (by omega) c hc hh, fun k h1 h2 c hc hh => by omega⟩
theorem hq_end {h : Nat → Int} {lo hi r : Nat} (x : Hq h lo hi r) (y : ∀ c, c = 2 * r + 1 ∨ c = 2 * r + 2 → c < hi → h c ≤ h r) : Hp h lo hi := by
  intro k hk c hc hh
  by_cases e : k = r
  · subst e; exact y c hc hh
  · exact x.1 k hk e c hc hh
theorem hq_step {h : Nat → Int} {lo hi r c : Nat} (x : Hq h lo hi r) (hr : lo ≤ r) (hc : c = 2 * r + 1 ∨ c = 2 * r + 2) (hh : c < hi) (hl : h r < h c)
    (ho : ∀ d, d = 2 * r + 1 ∨ d = 2 * r + 2 → d < hi → h d ≤ h c) : Hq (sw h r c) lo hi c := by
  have cr : c ≠ r := by omega
  constructor
  · intro k hk kc d hd dh
    unfold sw
    rw [if_neg kc]
    by_cases e : k = r
    · subst e
      rw [if_pos rfl]
      by_cases e1 : d = c
      · rw [if_pos e1]; omega
      · rw [if_neg e1, if_neg (by omega)]; exact ho d hd dh
    · rw [if_neg e, if_neg (by omega)]
      by_cases e1 : d = r
      · rw [if_pos e1]; exact x.2 k hk (by omega) c hc hh
      · rw [if_neg e1]; exact x.1 k hk e d hd dh
  · intro k hk hck d hd dh
    have e : k = r := by omega
    subst e
    unfold sw
    rw [if_neg (by omega), if_neg (by omega), if_neg (by omega), if_pos rfl]
    exact x.1 c (by omega) cr d hd dh
theorem hp_root {h : Nat → Int} {hi : Nat} (x : Hp h 0 hi) : ∀ k, k < hi → h k ≤ h 0 := by
  intro k
  induction k using Nat.strongRecOn with
  | ind k ih =>
    intro hk
    by_cases e : k = 0
    · rw [e]; exact Int.le_refl _
    · have h1 := x ((k - 1) / 2) (by omega) k (by omega) hk
      have h2 := ih ((k - 1) / 2) (by omega) (by omega)
      omega

set_option maxRecDepth 100000 in
set_option maxHeartbeats 1600000 in
theorem sift (G o n cap lo hi a : Nat) (f : Nat → Int) (w : World) (h : Hid (Row G o n f w)) (hb : a + hi ≤ n) (hlo : lo ≤ hi) (hn : n ≤ 512) (hp : Hid (Hp (rel a f) (lo + 1) hi)) :
    Calls Yba.prog 28 #[.slice (some ⟨G, o, none⟩) n cap, .int .i64 lo, .int .i64 hi, .int .i64 a] w fun e w' =>
      e = .returned (.tuple #[]) ∧ ∃ g, At G o n (a + lo) (a + hi) f w g w' ∧ Hp (rel a g) lo hi := by
  go_enter Yba.func28, Yba.ntmps28
  go_wp2
  go_loopw [8] (fun vi wr => ∃ (r : Nat) (g : Nat → Int), vi = .int .i64 r ∧ lo ≤ r ∧ r ≤ hi ∧ Hid (At G o n (a + lo) (a + hi) f w g wr) ∧ Hid (Hq (rel a g) lo hi r)) (fun vi _ => hi - (intOf vi).toNat)
  case atStart => exact ⟨lo, f, rfl, Nat.le_refl _, hlo, At.refl _ _ h, hq_start hp.out⟩
  case round =>
    obtain ⟨r, g, rfl, hlr, hrh, hat, hq⟩ := hrel
    have hc := hat.out.cell
    have hf := hat.out.frozen
    by_cases hch : 2 * r + 1 < hi
    · go_wp2
      obtain ⟨c, hcr, e1⟩ : ∃ c : Nat, Hid (c = 2 * r + 1) ∧ 2 * (r : Int) + 1 = (c : Int) := ⟨2 * r + 1, rfl, by omega⟩
      rw [e1]
      clear e1
      have hch2 : c < hi := by rw [hcr.out]; exact hch
      clear hch
      by_cases hc2 : c + 1 < hi
      · have t2 : decide ((c : Int) + 1 < (hi : Int)) = true := decide_eq_true (by omega)
        go_big_quiet (first | (go_at_call 23; refine Calls.quiet_of_same (less _ _ _)))
        go_wp2
        · have hl0 : lss (g (a + c)) (g (a + c + 1)) = true := by assumption
          have hat2 : Hid (At G o n (a + lo) (a + hi) f w g (wr.drewN nq)) := hat.out.drew nq
          obtain ⟨d, e1, hd, hdh, ho⟩ : ∃ d : Nat, (c : Int) + 1 = (d : Int) ∧ Hid (d = 2 * r + 1 ∨ d = 2 * r + 2) ∧ d < hi ∧ Hid (∀ e, e = 2 * r + 1 ∨ e = 2 * r + 2 → e < hi → rel a g e ≤ rel a g d) := by
            refine ⟨c + 1, by omega, .inr (by have := hcr.out; omega), hc2, fun e he hh => ?_⟩
            have h0 := hcr.out
            have h1 := lss_t hl0
            rcases he with he | he
            · rw [show e = c by omega]; unfold rel; rw [show a + (c + 1) = a + c + 1 by omega]; omega
            · rw [show e = c + 1 by omega]; exact Int.le_refl _
          rw [e1]
          clear e1 t2 hl0
          have hrd : r < d := by rcases hd.out with h | h <;> omega
          generalize wr.drewN nq = wq at hat2 ⊢
          clear hc hf
          have hc := hat2.out.cell
          have hf := hat2.out.frozen
          cases hl : lss (g (a + r)) (g (a + d))
          · go_big_quiet (first | (go_at_call 23; refine Calls.quiet_of_same (less _ _ _)))
            go_wp2
            refine bodyPost_ret (results_none rfl _ _ _) rfl ?_
            exact ⟨rfl, g, hat2.out.drew _, hq_end hq.out (fun e he hh => Int.le_trans (ho.out e he hh) (lss_f hl))⟩
          · go_big_quiet (first | (go_at_call 23; refine Calls.quiet_of_same (less _ _ _)))
            go_wp2
            go_region
            all_goals go_wp2
            go_roundw
            case rel => exact ⟨d, _, rfl, by omega, by omega, hat2.out.swap hb (by omega) (by omega) (by omega) (by omega) _, by rw [rel_sw]; exact hq_step hq.out hlr hd.out hdh (lss_t hl) ho.out⟩
            case measure => simp [intOf]; omega
        · have hl0 : lss (g (a + c)) (g (a + c + 1)) = false := by assumption
          have hat2 : Hid (At G o n (a + lo) (a + hi) f w g (wr.drewN nq)) := hat.out.drew nq
          obtain ⟨d, e1, hd, hdh, ho⟩ : ∃ d : Nat, (c : Int) = (d : Int) ∧ Hid (d = 2 * r + 1 ∨ d = 2 * r + 2) ∧ d < hi ∧ Hid (∀ e, e = 2 * r + 1 ∨ e = 2 * r + 2 → e < hi → rel a g e ≤ rel a g d) := by
            refine ⟨c, rfl, .inl hcr.out, hch2, fun e he hh => ?_⟩
            have h0 := hcr.out
            have h1 := lss_f hl0
            rcases he with he | he
            · rw [show e = c by omega]; exact Int.le_refl _
            · rw [show e = c + 1 by omega]; unfold rel; rw [show a + (c + 1) = a + c + 1 by omega]; omega
          rw [e1]
          clear e1 t2 hl0
          have hrd : r < d := by rcases hd.out with h | h <;> omega
          generalize wr.drewN nq = wq at hat2 ⊢
          clear hc hf
          have hc := hat2.out.cell
          have hf := hat2.out.frozen
          cases hl : lss (g (a + r)) (g (a + d))
          · go_big_quiet (first | (go_at_call 23; refine Calls.quiet_of_same (less _ _ _)))
            go_wp2
            refine bodyPost_ret (results_none rfl _ _ _) rfl ?_
            exact ⟨rfl, g, hat2.out.drew _, hq_end hq.out (fun e he hh => Int.le_trans (ho.out e he hh) (lss_f hl))⟩
          · go_big_quiet (first | (go_at_call 23; refine Calls.quiet_of_same (less _ _ _)))
            go_wp2
            go_region
            all_goals go_wp2
            go_roundw
            case rel => exact ⟨d, _, rfl, by omega, by omega, hat2.out.swap hb (by omega) (by omega) (by omega) (by omega) _, by rw [rel_sw]; exact hq_step hq.out hlr hd.out hdh (lss_t hl) ho.out⟩
            case measure => simp [intOf]; omega
      · have t2 : decide ((c : Int) + 1 < (hi : Int)) = false := decide_eq_false (by omega)
        go_big_quiet (first | (go_at_call 23; refine Calls.quiet_of_same (less _ _ _)))
        go_wp2
        have hat2 : Hid (At G o n (a + lo) (a + hi) f w g (wr.drewN nq)) := hat.out.drew nq
        obtain ⟨d, e1, hd, hdh, ho⟩ : ∃ d : Nat, (c : Int) = (d : Int) ∧ Hid (d = 2 * r + 1 ∨ d = 2 * r + 2) ∧ d < hi ∧ Hid (∀ e, e = 2 * r + 1 ∨ e = 2 * r + 2 → e < hi → rel a g e ≤ rel a g d) := by
          refine ⟨c, rfl, .inl hcr.out, hch2, fun e he hh => ?_⟩
          have h0 := hcr.out
          rw [show e = c by omega]; exact Int.le_refl _
        rw [e1]
        clear e1 t2
        have hrd : r < d := by rcases hd.out with h | h <;> omega
        generalize wr.drewN nq = wq at hat2 ⊢
        clear hc hf
        have hc := hat2.out.cell
        have hf := hat2.out.frozen
        cases hl : lss (g (a + r)) (g (a + d))
        · go_big_quiet (first | (go_at_call 23; refine Calls.quiet_of_same (less _ _ _)))
          go_wp2
          refine bodyPost_ret (results_none rfl _ _ _) rfl ?_
          exact ⟨rfl, g, hat2.out.drew _, hq_end hq.out (fun e he hh => Int.le_trans (ho.out e he hh) (lss_f hl))⟩
        · go_big_quiet (first | (go_at_call 23; refine Calls.quiet_of_same (less _ _ _)))
          go_wp2
          go_region
          all_goals go_wp2
          go_roundw
          case rel => exact ⟨d, _, rfl, by omega, by omega, hat2.out.swap hb (by omega) (by omega) (by omega) (by omega) _, by rw [rel_sw]; exact hq_step hq.out hlr hd.out hdh (lss_t hl) ho.out⟩
          case measure => simp [intOf]; omega
    · go_wp2
      go_end0
      exact ⟨rfl, g, hat.out, hq_end hq.out (fun e he hh => by omega)⟩

end Go.Proofs.Ybulkahlo
