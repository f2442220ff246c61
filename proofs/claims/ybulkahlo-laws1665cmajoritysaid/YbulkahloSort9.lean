/-
  The library's sort at uint64: the whole.
-/
import Derived.Test.YbulkahloSort8
namespace Go.Proofs.Ybulkahlo
open Go.RowKit

/-- Once [x, y) is in order, all of [a, b) is. -/
def Onward (n a b x y : Nat) (g : Nat → Int) : Prop := ∀ g', Sh n x y g g' → Srt g' x y → Srt g' a b
theorem Onward.sh {n a b x y : Nat} {g g1 : Nat → Int} (k : Onward n a b x y g) (h : Sh n x y g g1) : Onward n a b x y g1 := fun g' h1 h2 => k g' (h.trans h1) h2

theorem onward_eq {n a b x y m p : Nat} {g g1 : Nat → Int} (k : Onward n a b x y g) (lo : Low g x y) (h0 : 0 < x) (hp : g p ≤ g (x - 1)) (h : Sh n x y g g1) (hm : x ≤ m) (hm2 : m ≤ y)
    (h1 : ∀ t, x ≤ t → t < m → g1 t ≤ g p) (h2 : ∀ t, m ≤ t → t < y → g p < g1 t) : Onward n a b m y g1 := by
  intro g' hs hr
  refine k g' (h.trans (hs.widen hm (Nat.le_refl _))) fun s t s1 s2 s3 => ?_
  have lo1 := lo.sh h h0
  have e : ∀ t, x ≤ t → t < m → g1 t = g p := fun t t1 t2 => by
    have a1 := lo1 t t1 (by omega)
    have a2 := h1 t t1 t2
    rw [h.out (x - 1) (by omega)] at a1
    omega
  have hi : ∀ t, m ≤ t → t < y → g p < g' t := fun t t1 t2 => hs.all (p := fun v => g p < v) h2 t t1 t2
  by_cases hsm : s < m
  · rw [hs.out s (by omega), e s s1 hsm]
    by_cases htm : t < m
    · rw [hs.out t (by omega), e t (by omega) htm]; exact Int.le_refl _
    · exact Int.le_of_lt (hi t (by omega) s3)
  · exact hr s t (by omega) s2 s3
theorem low_eq {y m : Nat} {q : Int} {g1 : Nat → Int} {x : Nat} (hm : x < m) (h1 : ∀ t, x ≤ t → t < m → g1 t ≤ q) (h2 : ∀ t, m ≤ t → t < y → q < g1 t) : Low g1 m y := fun _ t t1 t2 => by
  have a1 := h1 (m - 1) (by omega) (by omega)
  have a2 := h2 t t1 t2
  omega

theorem onward_right {n a b x y m : Nat} {q : Int} {g g1 : Nat → Int} (k : Onward n a b x y g) (h : Parted g x y m q) (hm : x ≤ m) (hm2 : m < y) (hs1 : Sh n x m g g1) (hr1 : Srt g1 x m) : Onward n a b (m + 1) y g1 := by
  intro g' hs hr
  refine k g' ((hs1.widen (Nat.le_refl _) (by omega)).trans (hs.widen (by omega) (Nat.le_refl _))) fun s t s1 s2 s3 => ?_
  have lo : ∀ t, x ≤ t → t < m → g' t < q := fun t t1 t2 => by rw [hs.out t (by omega)]; exact hs1.all (p := fun v => v < q) h.1 t t1 t2
  have mi : g' m = q := by rw [hs.out m (by omega), hs1.out m (by omega)]; exact h.2.1
  have hi : ∀ t, m < t → t < y → q ≤ g' t := fun t t1 t2 => hs.all (p := fun v => q ≤ v) (fun t t1 t2 => by rw [hs1.out t (by omega)]; exact h.2.2 t (by omega) t2) t (by omega) t2
  by_cases e1 : s < m
  · by_cases e2 : t < m
    · rw [hs.out s (by omega), hs.out t (by omega)]; exact hr1 s t s1 s2 e2
    · have a1 := lo s s1 e1
      by_cases e3 : t = m
      · rw [e3, mi]; omega
      · have a2 := hi t (by omega) s3; omega
  · by_cases e4 : s = m
    · subst e4
      rw [mi]
      by_cases e3 : t = s
      · rw [e3, mi]; exact Int.le_refl _
      · exact hi t (by omega) s3
    · exact hr s t (by omega) s2 s3
theorem low_right {x y m n : Nat} {q : Int} {g g1 : Nat → Int} (h : Parted g x y m q) (hs1 : Sh n x m g g1) : Low g1 (m + 1) y := fun _ t t1 t2 => by
  rw [show m + 1 - 1 = m by omega, hs1.out m (by omega), hs1.out t (by omega), h.2.1]; exact h.2.2 t (by omega) t2

theorem onward_left {n a b x y m : Nat} {q : Int} {g g1 : Nat → Int} (k : Onward n a b x y g) (h : Parted g x y m q) (hm : x ≤ m) (hm2 : m < y) (hs1 : Sh n (m + 1) y g g1) (hr1 : Srt g1 (m + 1) y) : Onward n a b x m g1 := by
  intro g' hs hr
  refine k g' ((hs1.widen (by omega) (Nat.le_refl _)).trans (hs.widen (Nat.le_refl _) (by omega))) fun s t s1 s2 s3 => ?_
  have lo : ∀ t, x ≤ t → t < m → g' t < q := fun t t1 t2 => hs.all (p := fun v => v < q) (fun t t1 t2 => by rw [hs1.out t (by omega)]; exact h.1 t t1 t2) t t1 t2
  have mi : g' m = q := by rw [hs.out m (by omega), hs1.out m (by omega)]; exact h.2.1
  have hi : ∀ t, m < t → t < y → q ≤ g' t := fun t t1 t2 => by
    rw [hs.out t (by omega)]; exact hs1.all (p := fun v => q ≤ v) (fun t t1 t2 => h.2.2 t (by omega) t2) t (by omega) t2
  by_cases e1 : s < m
  · by_cases e2 : t < m
    · exact hr s t s1 s2 e2
    · have a1 := lo s s1 e1
      by_cases e3 : t = m
      · rw [e3, mi]; omega
      · have a2 := hi t (by omega) s3; omega
  · by_cases e4 : s = m
    · subst e4
      rw [mi]
      by_cases e3 : t = s
      · rw [e3, mi]; exact Int.le_refl _
      · exact hi t (by omega) s3
    · rw [hs.out s (by omega), hs.out t (by omega)]; exact hr1 s t (by omega) s2 s3
theorem low_left {n x y m : Nat} {g g1 : Nat → Int} (h : Low g x y) (hm2 : m < y) (hs1 : Sh n (m + 1) y g g1) : Low g1 x m := fun h0 t t1 t2 => by
  by_cases hx : x ≤ m
  · rw [hs1.out t (by omega), hs1.out (x - 1) (by omega)]; exact h h0 t t1 (by omega)
  · omega
theorem low_sub {x y m : Nat} {g : Nat → Int} (h : Low g x y) (hm : m ≤ y) : Low g x m := fun h0 t t1 t2 => h h0 t t1 (by omega)
theorem low_mid {x y m : Nat} {q : Int} {g : Nat → Int} (h : Parted g x y m q) : Low g (m + 1) y := fun _ t t1 t2 => by
  rw [show m + 1 - 1 = m by omega, h.2.1]; exact h.2.2 t (by omega) t2

set_option maxRecDepth 100000 in
set_option maxHeartbeats 3200000 in
theorem pdq (G o n cap : Nat) (hn : n ≤ 512) : ∀ (k a b L : Nat) (f : Nat → Int) (w : World), b - a < k → Hid (Row G o n f w) → Hid (Low f a b) → a ≤ b → b ≤ n → L ≤ 64 →
    Calls Yba.prog 15 #[.slice (some ⟨G, o, none⟩) n cap, .int .i64 a, .int .i64 b, .int .i64 L] w fun e w' =>
      e = .returned (.tuple #[]) ∧ ∃ g, At G o n a b f w g w' ∧ Srt g a b := by
  intro k
  induction k with
  | zero => intro a b L f w hk; omega
  | succ k ih =>
    intro a b L f w hk h hlo hab hb hL
    have IH : Hid _ := ih
    clear ih
    go_enter Yba.func15, Yba.ntmps15
    go_wp2_with fail
    go_loopw [1, 2, 3, 8, 9] (fun va vb vl v8 v9 wr => ∃ (x y L : Nat) (p q : Bool) (g : Nat → Int), va = .int .i64 x ∧ vb = .int .i64 y ∧ vl = .int .i64 L ∧ v8 = .bool p ∧ v9 = .bool q ∧ a ≤ x ∧ x ≤ y ∧ y ≤ b ∧ L ≤ 64 ∧ Hid (At G o n a b f w g wr) ∧ Hid (Low g x y) ∧ Hid (Onward n a b x y g))
      (fun va vb _ _ _ _ => (intOf vb - intOf va).toNat)
    case atStart => exact ⟨a, b, L, true, true, f, rfl, rfl, rfl, rfl, rfl, Nat.le_refl _, hab, Nat.le_refl _, hL, At.refl _ _ h, hlo, fun g' _ h2 => h2⟩
    case round =>
      obtain ⟨x, y, L, p, q, g, rfl, rfl, rfl, rfl, rfl, hax, hxy, hyb, hL, hat, hlo, hon⟩ := hrel
      by_cases h12 : y ≤ x + 12
      · go_wp2_with (go_at_call 17; refine (insertion G o n cap x y g wr hat.out.row hxy (by omega) hn).mono ?_; rintro e w1 ⟨rfl, g1, hat1, hs1⟩)
        refine bodyPost_ret (results_none rfl _ _ _) rfl ?_
        exact ⟨rfl, g1, hat.out.trans (hat1.widen hax hyb), hon.out g1 hat1.sh hs1⟩
      · obtain ⟨l, hl, hl1, hl2, hl3⟩ : ∃ l : Nat, Hid (y = x + l) ∧ y ≤ x + l ∧ x + l ≤ y ∧ 12 < l := ⟨y - x, by show y = x + (y - x); omega, by omega, by omega, by omega⟩
        by_cases hL0 : L = 0
        · subst hL0
          go_wp2_with (go_at_call 18; refine (heap G o n cap x y l g wr hat.out.row hl (by omega) (by omega) hn).mono ?_; rintro e w1 ⟨rfl, g1, hat1, hs1⟩)
          refine bodyPost_ret (results_none rfl _ _ _) rfl ?_
          exact ⟨rfl, g1, hat.out.trans (hat1.widen hax hyb), hon.out g1 hat1.sh hs1⟩
        · have tL : ((L : Int) == 0) = false := by simp; omega
          go_upto_if 35 with fail
          go_cut [3] (fun v wx => ∃ (L : Nat) (g : Nat → Int), v = .int .i64 L ∧ L ≤ 64 ∧ Hid (At G o n a b f w g wx) ∧ Hid (Low g x y) ∧ Hid (Onward n a b x y g))
          case first =>
            cases p
            · go_wp2_with (go_at_call 19; refine (breakp G o n cap x y l g wr hat.out.row hl hl3 hl1 hl2 (by omega) hn).mono ?_; rintro e w1 ⟨rfl, g1, hat1⟩)
              go_meet
              exact ⟨L - 1, g1, by congr 1; omega, by omega, hat.out.trans (hat1.widen hax hyb), hlo.out.sh hat1.sh, hon.out.sh hat1.sh⟩
            · go_wp2_with fail
              go_meet
              exact ⟨L, g, rfl, hL, hat, hlo, hon⟩
          case rest =>
            clear hat hlo hon hL hL0 tL
            obtain ⟨L, g, rfl, hL, hat, hlo, hon⟩ := hcut
            go_upto_region 10 with fail
            go_cut [11, 12] (fun v v2 wx => ∃ (z t : Nat), v = .int .i64 z ∧ v2 = .int .i64 t ∧ x ≤ z ∧ z < y ∧ Hid (At G o n a b f w g wx) ∧ Hid (Low g x y) ∧ Hid (Onward n a b x y g))
            case first =>
              go_wp2_with (go_at_call 20; refine (pivot G o n cap x y l g wc hat.out.row hl hl3 hl1 hl2 (by omega) hn).mono ?_; rintro e w1 ⟨z, t, rfl, hz1, hz2, hr1, hst1⟩)
              go_meet
              exact ⟨z, t, rfl, rfl, hz1, hz2, ⟨hr1, hat.out.stir.trans hst1, hat.out.sh⟩, hlo, hon⟩
            case rest =>
              clear hat hlo hon
              obtain ⟨z, t, rfl, rfl, hz1, hz2, hat, hlo, hon⟩ := hcut
              go_upto_if 50 with fail
              go_cut [11, 12] (fun v v2 wx => ∃ (z t : Nat) (g : Nat → Int), v = .int .i64 z ∧ v2 = .int .i64 t ∧ x ≤ z ∧ z < y ∧ Hid (At G o n a b f w g wx) ∧ Hid (Low g x y) ∧ Hid (Onward n a b x y g))
              case first =>
                by_cases ht : (t : Int) = 2
                · have tt : ((t : Int) == 2) = true := by simp [ht]
                  go_wp2_with (go_at_call 21; refine (reverse G o n cap x y g wc hat.out.row (by omega) (by omega) hn).mono ?_; rintro e w1 ⟨rfl, g1, hat1⟩)
                  go_meet
                  exact ⟨y - 1 - (z - x), 1, g1, by congr 1; omega, rfl, by omega, by omega, hat.out.trans (hat1.widen hax hyb), hlo.out.sh hat1.sh, hon.out.sh hat1.sh⟩
                · have tt : ((t : Int) == 2) = false := by simpa using ht
                  go_wp2_with fail
                  go_meet
                  exact ⟨z, t, g, rfl, rfl, hz1, hz2, hat, hlo, hon⟩
              case rest =>
                clear hat hlo hon hz1 hz2
                obtain ⟨z, t, g, rfl, rfl, hz1, hz2, hat, hlo, hon⟩ := hcut
                go_upto_region 15 with fail
                go_cut [68] (fun v wx => ∃ c : Bool, v = .bool c ∧ Hid (At G o n a b f w g wx) ∧ Hid (Low g x y) ∧ Hid (Onward n a b x y g))
                case first =>
                  cases p <;> cases q
                  all_goals
                    go_wp2_with fail
                    go_meet
                    exact ⟨_, rfl, hat, hlo, hon⟩
                case rest =>
                  clear hat hlo hon
                  obtain ⟨c, rfl, hat, hlo, hon⟩ := hcut
                  go_upto_if 68 with fail
                  go_cut [] (fun wx => ∃ g : Nat → Int, Hid (At G o n a b f w g wx) ∧ Hid (Low g x y) ∧ Hid (Onward n a b x y g))
                  case first =>
                    cases c
                    · go_wp2_with fail
                      go_meet
                      exact ⟨g, hat, hlo, hon⟩
                    · go_wp2_with (go_at_call 22; refine (someIns G o n cap x y g wc hat.out.row hlo (by omega) (by omega) hn).mono ?_; rintro e w1 ⟨r, g1, rfl, hat1, hs1⟩; cases r)
                      · go_wp2_with fail
                        go_meet
                        exact ⟨g1, hat.out.trans (hat1.widen hax hyb), hlo.out.sh hat1.sh, hon.out.sh hat1.sh⟩
                      · go_wp2_with fail
                        refine bodyPost_ret (results_none rfl _ _ _) rfl ?_
                        exact ⟨rfl, g1, hat.out.trans (hat1.widen hax hyb), hon.out g1 hat1.sh (by first | exact hs1 rfl | exact hs1 trivial)⟩
                  case rest =>
                    clear hat hlo hon
                    obtain ⟨g, hat, hlo, hon⟩ := hcut
                    go_upto_region 17 with fail
                    go_cut [87] (fun v wx => ∃ c : Bool, v = .bool c ∧ Hid (At G o n a b f w g wx) ∧ Hid (Low g x y) ∧ Hid (Onward n a b x y g) ∧ Hid (c = true → 0 < x ∧ g z ≤ g (x - 1)))
                    case first =>
                      have hc := hat.out.cell
                      have hf := hat.out.frozen
                      by_cases hx0 : 0 < x
                      · cases hl : lss (g (x - 1)) (g z)
                        · go_big_quiet (first | (go_at_call 23; refine Calls.quiet_of_same (less _ _ _)))
                          go_wp2_with fail
                          go_meet
                          exact ⟨_, rfl, hat.out.drew _, hlo, hon, fun _ => ⟨hx0, lss_f hl⟩⟩
                        · go_big_quiet (first | (go_at_call 23; refine Calls.quiet_of_same (less _ _ _)))
                          go_wp2_with fail
                          go_meet
                          exact ⟨_, rfl, hat.out.drew _, hlo, hon, fun h => by cases h⟩
                      · have tx : decide ((0 : Int) < (x : Int)) = false := decide_eq_false (by omega)
                        go_big_quiet (first | (go_at_call 23; refine Calls.quiet_of_same (less _ _ _)))
                        go_wp2_with fail
                        go_meet
                        exact ⟨_, rfl, hat.out.drew _, hlo, hon, fun h => by cases h⟩
                    case rest =>
                      clear hat hlo hon
                      obtain ⟨c, rfl, hat, hlo, hon, hcx⟩ := hcut
                      cases c
                      · clear hcx
                        go_wp2_with fail
                        refine (parted G o n cap x y z g wc hat.out.row (by omega) hz1 hz2 (by omega) hn).mono ?_
                        rintro e w1 ⟨m, r, g1, rfl, hat1, hm1, hm2, hpa⟩
                        have hlo1 : Hid (Low g1 x y) := hlo.out.sh hat1.sh
                        have hon1 : Hid (Onward n a b x y g1) := hon.out.sh hat1.sh
                        have hat2 : Hid (At G o n a b f w g1 w1) := hat.out.trans (hat1.widen hax hyb)
                        have HPA : Hid _ := hpa
                        clear hat1 hpa hat hlo hon
                        by_cases hlr : (m : Int) - (x : Int) < (y : Int) - (m : Int)
                        · go_wp2_with (go_at_call 15; refine (IH.out x m L g1 w1 (by omega) hat2.out.row (low_sub hlo1.out (by omega)) (by omega) (by omega) hL).mono ?_; rintro e w2 ⟨rfl, g2, hat3, hs3⟩)
                          go_roundw
                          case rel => exact ⟨m + 1, y, L, _, r, g2, by congr 1, rfl, rfl, rfl, rfl, by omega, by omega, by omega, hL, hat2.out.trans (hat3.widen hax (by omega)), low_right HPA.out hat3.sh, onward_right hon1.out HPA.out hm1 hm2 hat3.sh hs3⟩
                          case measure => simp [intOf]; omega
                        · go_wp2_with (go_at_call 15; refine (IH.out (m + 1) y L g1 w1 (by omega) hat2.out.row (low_mid HPA.out) (by omega) (by omega) hL).mono ?_; rintro e w2 ⟨rfl, g2, hat3, hs3⟩)
                          go_roundw
                          case rel => exact ⟨x, m, L, _, r, g2, rfl, rfl, rfl, rfl, rfl, by omega, by omega, by omega, hL, hat2.out.trans (hat3.widen (by omega) hyb), low_left hlo1.out hm2 hat3.sh, onward_left hon1.out HPA.out hm1 hm2 hat3.sh hs3⟩
                          case measure => simp [intOf]; omega
                      · obtain ⟨hx0, hgz⟩ := hcx.out rfl
                        have HGZ : Hid _ := hgz
                        clear hgz hcx
                        go_wp2_with (go_at_call 24; refine (partEq G o n cap x y z g wc hat.out.row (by omega) hz1 hz2 (by omega) hn).mono ?_; rintro e w1 ⟨m, g1, rfl, hat1, hm1, hm2, h1, h2⟩)
                        go_roundw
                        case rel => exact ⟨m, y, L, p, q, g1, rfl, rfl, rfl, rfl, rfl, by omega, by omega, by omega, hL, hat.out.trans (hat1.widen hax hyb), low_eq hm1 h1 h2, onward_eq hon.out hlo.out hx0 HGZ.out hat1.sh (by omega) hm2 h1 h2⟩
                        case measure => simp [intOf]; omega
end Go.Proofs.Ybulkahlo
