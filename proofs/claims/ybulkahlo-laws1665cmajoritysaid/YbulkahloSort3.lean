/-
  The library's sort at uint64: the heap sort, whole; the range reversed.
-/
import Derived.Test.YbulkahloSort2
namespace Go.Proofs.Ybulkahlo
open Go.RowKit

/-- The heap is [0, m); what stands behind it is in order, and above it. -/
def Hs (h : Nat → Int) (m hi : Nat) : Prop := ∀ s t, s ≤ t → m ≤ t → t < hi → h s ≤ h t

theorem hp_swap {h : Nat → Int} {m : Nat} (x : Hp h 0 (m + 1)) : Hp (sw h 0 m) (0 + 1) m := by
  intro k hk c hc hm
  unfold sw
  rw [if_neg (by omega), if_neg (by omega), if_neg (by omega), if_neg (by omega)]
  exact x k (by omega) c hc (by omega)
theorem hs_step {n a m hi : Nat} {g g' : Nat → Int} (x : Hp (rel a g) 0 (m + 1)) (y : Hs (rel a g) (m + 1) hi) (z : Sh n (a + 0) (a + m) (sw g (a + 0) (a + m)) g') : Hs (rel a g') m hi := by
  have top := hp_root x
  have low : ∀ s, s < m → ∃ s', s' ≤ m ∧ rel a g' s = rel a g s' := by
    intro s hs
    obtain ⟨r, r1, r2, e⟩ := z.mem (a + s) (by omega) (by omega)
    obtain ⟨r', rfl⟩ : ∃ r', r = a + r' := ⟨r - a, by omega⟩
    have e2 : rel a g' s = rel a (sw g (a + 0) (a + m)) r' := e
    rw [rel_sw] at e2
    unfold sw at e2
    rw [if_neg (by omega)] at e2
    by_cases h0 : r' = 0
    · rw [if_pos h0] at e2; exact ⟨m, Nat.le_refl _, e2⟩
    · rw [if_neg h0] at e2; exact ⟨r', by omega, e2⟩
  have high : ∀ t, m ≤ t → rel a g' t = if t = m then rel a g 0 else rel a g t := by
    intro t ht
    have e : rel a g' t = rel a (sw g (a + 0) (a + m)) t := z.out (a + t) (by omega)
    rw [e, rel_sw]
    unfold sw
    by_cases h1 : t = m
    · rw [if_pos h1, if_pos h1]
    · rw [if_neg h1, if_neg h1]
      by_cases h2 : t = 0
      · omega
      · rw [if_neg h2]
  intro s t hst hmt hth
  rw [high t hmt]
  by_cases hs : s < m
  · obtain ⟨s', hs', e⟩ := low s hs
    rw [e]
    by_cases h1 : t = m
    · rw [if_pos h1]; exact top s' (by omega)
    · rw [if_neg h1]; exact y s' t (by omega) (by omega) hth
  · rw [high s (by omega)]
    by_cases h2 : s = m
    · rw [if_pos h2]
      by_cases h1 : t = m
      · rw [if_pos h1]; exact Int.le_refl _
      · rw [if_neg h1]; exact y 0 t (by omega) (by omega) hth
    · rw [if_neg h2, if_neg (by omega)]; exact y s t hst (by omega) hth

set_option maxRecDepth 100000 in
set_option maxHeartbeats 1600000 in
theorem heap (G o n cap a b hi : Nat) (f : Nat → Int) (w : World) (h : Hid (Row G o n f w)) (hab : Hid (b = a + hi)) (h1 : a < b) (hb : b ≤ n) (hn : n ≤ 512) :
    Calls Yba.prog 18 #[.slice (some ⟨G, o, none⟩) n cap, .int .i64 a, .int .i64 b] w fun e w' =>
      e = .returned (.tuple #[]) ∧ ∃ g, At G o n a b f w g w' ∧ Srt g a b := by
  go_enter Yba.func18, Yba.ntmps18
  go_wp2
  have e0 : (b : Int) - (a : Int) = (hi : Int) := by have := hab.out; omega
  rw [e0]
  clear e0
  have hb1 : b ≤ a + hi := Nat.le_of_eq hab.out
  have hb2 : a + hi ≤ b := Nat.le_of_eq hab.out.symm
  have h2 : 1 ≤ hi := by omega
  go_loopw [9] (fun vi wr => ∃ (q : Int) (g : Nat → Int), vi = .int .i64 q ∧ Hid (At G o n a b f w g wr) ∧ ((q = -1 ∧ Hid (Hp (rel a g) 0 hi)) ∨ ∃ j : Nat, q = j ∧ j ≤ hi ∧ Hid (Hp (rel a g) (j + 1) hi))) (fun vi _ => (intOf vi + 1).toNat)
  case atStart =>
    refine ⟨_, f, rfl, At.refl _ _ h, .inr ⟨(hi - 1) / 2, by omega, by omega, fun k hk c hc hh => by omega⟩⟩
  case round =>
    obtain ⟨q, g, rfl, hat, hq⟩ := hrel
    rcases hq with ⟨rfl, hp⟩ | ⟨j, rfl, hj, hp⟩
    · go_wp2
      go_loopw [10] (fun vi wr => ∃ (q : Int) (g : Nat → Int), vi = .int .i64 q ∧ Hid (At G o n a b f w g wr) ∧ ((q = -1 ∧ Hid (Hs (rel a g) 0 hi)) ∨ ∃ m : Nat, q = m ∧ m < hi ∧ Hid (Hp (rel a g) 0 (m + 1)) ∧ Hid (Hs (rel a g) (m + 1) hi))) (fun vi _ => (intOf vi + 1).toNat)
      case atStart =>
        exact ⟨_, g, rfl, hat, .inr ⟨hi - 1, by omega, by omega, by rw [show hi - 1 + 1 = hi by omega]; exact hp, fun s t h1 h2 h3 => by omega⟩⟩
      case round =>
        clear hat hp
        obtain ⟨q, g, rfl, hat, hq⟩ := hrel
        rcases hq with ⟨rfl, hs⟩ | ⟨m, rfl, hm, hp, hs⟩
        · go_wp2
          go_end0
          refine ⟨rfl, g, hat.out, fun s t h1 h2 h3 => ?_⟩
          have := hs.out (s - a) (t - a) (by omega) (by omega) (by omega)
          unfold rel at this
          rw [show a + (s - a) = s by omega, show a + (t - a) = t by omega] at this
          exact this
        · have hc := hat.out.cell
          have hf := hat.out.frozen
          have hx := hat.out.row.second a (a + m) (by omega)
          go_wp2
          go_region
          have hat2 : Hid (At G o n a b f w (sw g a (a + m)) ((wr.setCell ⟨G, o + a, none⟩ (.int .u64 (g (a + m)))).setCell ⟨G, o + (a + m), none⟩ (.int .u64 (g a))).drew) :=
            hat.out.swap hb (by omega) (by omega) (by omega) (by omega) 1
          generalize ((wr.setCell ⟨G, o + a, none⟩ (.int .u64 (g (a + m)))).setCell ⟨G, o + (a + m), none⟩ (.int .u64 (g a))).drew = wq at hat2 ⊢
          clear hc hf hx
          have hp2 : Hid (Hp (rel a (sw g a (a + m))) (0 + 1) m) := by
            have e := rel_sw a g 0 m
            rw [Nat.add_zero] at e
            rw [e]; exact hp_swap hp.out
          go_wp2_with (go_at_call 28; refine (sift G o n cap 0 m a _ wq hat2.out.row (by omega) (by omega) hn hp2).mono ?_; rintro e w1 ⟨rfl, g', hat3, hp3⟩)
          have hs2 : Hs (rel a g') m hi := hs_step hp.out hs.out hat3.sh
          have hat4 : Hid (At G o n a b f w g' w1) := hat2.out.trans (hat3.widen (by omega) (by omega))
          go_roundw
          case rel =>
            by_cases hm0 : m = 0
            · exact ⟨-1, g', by congr 1; omega, hat4, .inl ⟨rfl, by rw [hm0] at hs2; exact hs2⟩⟩
            · exact ⟨((m - 1 : Nat) : Int), g', by congr 1; omega, hat4, .inr ⟨m - 1, rfl, by omega, by rw [show m - 1 + 1 = m by omega]; exact hp3, by rw [show m - 1 + 1 = m by omega]; exact hs2⟩⟩
          case measure => simp [intOf]
    · go_wp2_with (go_at_call 28; refine (sift G o n cap j hi a _ wr hat.out.row (by omega) (by omega) hn hp).mono ?_; rintro e w1 ⟨rfl, g', hat3, hp3⟩)
      have hat4 : Hid (At G o n a b f w g' w1) := hat.out.trans (hat3.widen (by omega) (by omega))
      go_roundw
      case rel =>
        by_cases hm0 : j = 0
        · exact ⟨-1, g', by congr 1; omega, hat4, .inl ⟨rfl, by rw [hm0] at hp3; exact hp3⟩⟩
        · exact ⟨((j - 1 : Nat) : Int), g', by congr 1; omega, hat4, .inr ⟨j - 1, rfl, by omega, by rw [show j - 1 + 1 = j by omega]; exact hp3⟩⟩
      case measure => simp [intOf]

/-- The range turned round: no more is asked of it than that it moves things about. -/
theorem reverse (G o n cap a b : Nat) (f : Nat → Int) (w : World) (h : Hid (Row G o n f w)) (hab : a < b) (hb : b ≤ n) (hn : n ≤ 512) :
    Calls Yba.prog 21 #[.slice (some ⟨G, o, none⟩) n cap, .int .i64 a, .int .i64 b] w fun e w' =>
      e = .returned (.tuple #[]) ∧ ∃ g, At G o n a b f w g w' := by
  go_enter Yba.func21, Yba.ntmps21
  go_wp2
  go_loopw [6, 7] (fun vi vj wr => ∃ (i j : Nat) (g : Nat → Int), vi = .int .i64 i ∧ vj = .int .i64 j ∧ a ≤ i ∧ i ≤ j + 1 ∧ j < b ∧ Hid (At G o n a b f w g wr)) (fun vi vj _ => (intOf vj - intOf vi + 1).toNat)
  case atStart => exact ⟨a, b - 1, f, by go_num, by go_num, by omega, by omega, by omega, At.refl _ _ h⟩
  case round =>
    obtain ⟨i, j, g, rfl, rfl, hi, hij, hj, hat⟩ := hrel
    have hc := hat.out.cell
    have hf := hat.out.frozen
    by_cases hlt : i < j
    · go_wp2
      go_region
      all_goals go_wp2
      go_roundw
      case rel => exact ⟨i + 1, j - 1, _, by congr 1, by congr 1; omega, by omega, by omega, by omega, hat.out.swap hb (by omega) (by omega) (by omega) (by omega) 1⟩
      case measure => simp [intOf]; omega
    · go_wp2
      go_end0
      exact ⟨rfl, g, hat.out⟩
end Go.Proofs.Ybulkahlo
