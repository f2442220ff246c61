/-
  LawS1665CMajority: the count by hand.
-/
import Derived.Test.YbulkahloMajB
namespace Go.Proofs.Ybulkahlo
open Go.RowKit Go.Maps

/-- What is known of the peers' ticks: k of them, at ah. -/
def Heard (ah : Option Addr) (k : Nat) (z : Nat → Int) (w : World) : Prop := 0 < k → ∃ b o, ah = some ⟨b, o, none⟩ ∧ ∀ t, t < k → w.cell? ⟨b, o + t, none⟩ = some (.int .u64 (z t))

theorem val11 {ah : Option Addr} {k ch : Nat} {me led : Int} {z : Nat → Int} {w : World} (hh : Hid (Heard ah k z w)) (hk : k ≤ 512) (id : Int) (hid : id = me ∨ ∃ i : Nat, i < k ∧ id = (i : Int) + 1) :
    Calls Yba.prog 11 #[.slice ah k ch, .int .u64 me, .int .u64 led, .int .u64 id] w fun e w' => e = .returned (.int .u64 (valOf me led z id)) ∧ w' = w := by
  by_cases hs : id = me
  · have t : (id == me) = true := by simp [hs]
    go_enter Yba.func11, Yba.ntmps11
    go_wp2
    go_ret
    exact ⟨by unfold valOf; rw [if_pos hs]; rfl, rfl⟩
  · have t : (id == me) = false := by simp [hs]
    obtain ⟨i, hi, e⟩ : ∃ i : Nat, i < k ∧ id = (i : Int) + 1 := by
      rcases hid with h | h
      · exact absurd h hs
      · exact h
    subst e
    obtain ⟨b, o, rfl, hc⟩ := hh.out (by omega)
    have hci := hc i hi
    clear hh hc hid
    go_enter Yba.func11, Yba.ntmps11
    go_wp2
    go_ret
    refine ⟨?_, rfl⟩
    unfold valOf
    rw [if_neg hs, show ((i : Int) + 1 - 1).toNat = i by omega]
    rfl

/-- The greatest of the values seen so far that half and one more have reached; 0 at first. -/
def Best (v : Nat → Int) (n i : Nat) (b : Int) : Prop := (b = 0 ∨ n / 2 + 1 ≤ cnt (fun x => decide (b ≤ x)) v n) ∧ ∀ s, s < i → n / 2 + 1 ≤ cnt (fun x => decide (v s ≤ x)) v n → v s ≤ b

theorem Best.keep {v : Nat → Int} {n i : Nat} {b : Int} (h : Best v n i b) (hn : ¬ n / 2 + 1 ≤ cnt (fun x => decide (v i ≤ x)) v n ∨ v i ≤ b) : Best v n (i + 1) b :=
  ⟨h.1, fun s hs hc => by
    by_cases e : s = i
    · subst e
      rcases hn with hn | hn
      · exact absurd hc hn
      · exact hn
    · exact h.2 s (by omega) hc⟩
theorem Best.take {v : Nat → Int} {n i : Nat} {b : Int} (h : Best v n i b) (hn : n / 2 + 1 ≤ cnt (fun x => decide (v i ≤ x)) v n) (hb : b < v i) : Best v n (i + 1) (v i) :=
  ⟨.inr hn, fun s hs hc => by
    by_cases e : s = i
    · subst e; exact Int.le_refl _
    · have := h.2 s (by omega) hc; omega⟩
theorem Best.eq {v : Nat → Int} {n : Nat} {b r : Int} (h : Best v n n b) (k : IsMaj v n r) (h0 : ∀ s, s < n → 0 ≤ v s) : b = r := by
  obtain ⟨s, hs, e⟩ := k.2.1
  have h1 := h.2 s hs (by rw [e]; exact k.1)
  have h2 := h0 s hs
  rcases h.1 with h3 | h3
  · omega
  · have := k.2.2 b h3
    omega
theorem cnt_bound (p : Int → Bool) (f : Nat → Int) (n : Nat) : cnt p f n ≤ n := by
  have := cnt_le p f 0 n (fun t h1 _ => by omega)
  omega

set_option maxRecDepth 100000 in
set_option maxHeartbeats 1600000 in
theorem maj8 {ah : Option Addr} {k ch V vo n cap : Nat} {me led : Int} {z ids : Nat → Int} {w : World} (hh : Hid (Heard ah k z w)) (hk : k ≤ 512) (hn : n ≤ 512) (hn0 : 0 < n)
    (hv : Hid (∀ t, t < n → w.cell? ⟨V, vo + t, none⟩ = some (.int .u64 (ids t)))) (hids : Hid (∀ t, t < n → ids t = me ∨ ∃ i : Nat, i < k ∧ ids t = (i : Int) + 1)) :
    Calls Yba.prog 8 #[.slice ah k ch, .int .u64 me, .int .u64 led, .slice (some ⟨V, vo, none⟩) n cap] w fun e w' =>
      ∃ r, e = .returned (.int .u64 r) ∧ Best (fun t => valOf me led z (ids t)) n n r ∧ w' = w := by
  have tn : ((n : Int) == 0) = false := by simp; omega
  go_enter Yba.func8, Yba.ntmps8
  go_wp2
  go_loopw [11, 12] (fun vb vi wr => ∃ (b : Int) (i : Nat), vb = .int .u64 b ∧ vi = .int .i64 i ∧ i ≤ n ∧ Hid (Best (fun t => valOf me led z (ids t)) n i b) ∧ w = wr) (fun _ vi _ => n - (intOf vi).toNat)
  case atStart => exact ⟨0, 0, rfl, rfl, Nat.zero_le _, ⟨.inl rfl, fun s hs => by omega⟩, rfl⟩
  case round =>
    obtain ⟨b, i, rfl, rfl, hi, hbe, rfl⟩ := hrel
    by_cases hlt : i < n
    · have hci := hv.out i hlt
      go_wp2_with (go_at_call 11; refine (val11 hh hk _ (hids.out i hlt)).mono ?_; rintro e w1 ⟨rfl, rfl⟩)
      obtain ⟨x, hx⟩ : ∃ x, Hid (x = valOf me led z (ids i)) := ⟨_, rfl⟩
      rw [← hx.out]
      go_loopw [14, 15] (fun vc vj wr => ∃ (c j : Nat), vc = .int .i64 c ∧ vj = .int .i64 j ∧ j ≤ n ∧ c ≤ j ∧ Hid (c = cnt (fun y => decide (x ≤ y)) (fun t => valOf me led z (ids t)) j) ∧ w1 = wr) (fun _ vj _ => n - (intOf vj).toNat)
      case atStart => exact ⟨0, 0, rfl, rfl, Nat.zero_le _, Nat.le_refl _, rfl, rfl⟩
      case round =>
        obtain ⟨c, j, rfl, rfl, hj, hcj, hcn, rfl⟩ := hrel
        by_cases hjn : j < n
        · have hcj := hv.out j hjn
          obtain ⟨y, hy⟩ : ∃ y, Hid (y = valOf me led z (ids j)) := ⟨_, rfl⟩
          go_wp2_with (go_at_call 11; refine (val11 hh hk _ (hids.out j hjn)).mono ?_; rintro e w1 ⟨rfl, rfl⟩; rw [← hy.out])
          · go_roundw
            case rel =>
              have hxy : x ≤ y := by assumption
              refine ⟨c + 1, j + 1, by congr 1, by congr 1, by omega, by omega, ?_, trivial⟩
              show c + 1 = _
              rw [cnt, ← hy.out, if_pos (decide_eq_true hxy), ← hcn.out]
            case measure => simp [intOf]; omega
          · go_roundw
            case rel =>
              have hxy : y < x := by assumption
              refine ⟨c, j + 1, rfl, by congr 1, by omega, by omega, ?_, trivial⟩
              show c = _
              rw [cnt, ← hy.out, if_neg (by simp; omega), ← hcn.out]; rfl
            case measure => simp [intOf]; omega
        · have hjn2 : j = n := by omega
          subst hjn2
          by_cases hc : (j : Int) / 2 + 1 ≤ (c : Int)
          · have tc : decide ((j : Int) / 2 + 1 ≤ (c : Int)) = true := decide_eq_true hc
            have hcc : j / 2 + 1 ≤ cnt (fun y => decide (valOf me led z (ids i) ≤ y)) (fun t => valOf me led z (ids t)) j := by rw [← hx.out, ← hcn.out]; omega
            have HCC : Hid _ := hcc
            clear hcc
            go_wp2
            · go_roundw
              case rel => exact ⟨x, i + 1, rfl, by congr 1, by omega, by rw [hx.out]; exact hbe.out.take HCC.out (by rw [← hx.out]; assumption), trivial⟩
              case measure => simp [intOf]; omega
            · go_roundw
              case rel => exact ⟨b, i + 1, rfl, by congr 1, by omega, hbe.out.keep (.inr (by rw [← hx.out]; assumption)), trivial⟩
              case measure => simp [intOf]; omega
          · have tc : decide ((j : Int) / 2 + 1 ≤ (c : Int)) = false := decide_eq_false hc
            have hcc : ¬ j / 2 + 1 ≤ cnt (fun y => decide (valOf me led z (ids i) ≤ y)) (fun t => valOf me led z (ids t)) j := by rw [← hx.out, ← hcn.out]; omega
            have HCC : Hid _ := hcc
            clear hcc
            go_wp2
            go_roundw
            case rel => exact ⟨b, i + 1, rfl, by congr 1, by omega, hbe.out.keep (.inl HCC.out), trivial⟩
            case measure => simp [intOf]; omega
    · go_wp2
      go_ret
      exact ⟨b, rfl, by rw [show n = i by omega] at hbe ⊢; exact hbe.out, rfl⟩
end Go.Proofs.Ybulkahlo
