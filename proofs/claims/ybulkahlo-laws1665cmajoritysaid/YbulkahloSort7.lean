/-
  The library's sort at uint64: the partition by what equals the pivot.
-/
import Derived.Test.YbulkahloSort6
import Derived.Deep.CutBlock
namespace Go.Proofs.Ybulkahlo
open Go.RowKit

/-- [a + 1, i) is not above what stands at a, (j, b) is above it. -/
def Pe (g : Nat → Int) (a b i j : Nat) (p : Int) : Prop := g a = p ∧ (∀ t, a < t → t < i → g t ≤ p) ∧ ∀ t, j < t → t < b → p < g t

theorem Pe.up {g : Nat → Int} {a b i j : Nat} {p : Int} (h : Pe g a b i j p) (hl : g i ≤ g a) : Pe g a b (i + 1) j p :=
  ⟨h.1, fun t h1 h2 => by
    by_cases e : t = i
    · rw [e]; have := h.1; omega
    · exact h.2.1 t h1 (by omega), h.2.2⟩
theorem Pe.down {g : Nat → Int} {a b i j : Nat} {p : Int} (h : Pe g a b i j p) (hl : g a < g j) : Pe g a b i (j - 1) p :=
  ⟨h.1, h.2.1, fun t h1 h2 => by
    by_cases e : t = j
    · rw [e]; have := h.1; omega
    · exact h.2.2 t (by omega) h2⟩
theorem Pe.swap {g : Nat → Int} {a b i j : Nat} {p : Int} (h : Pe g a b i j p) (hi : a < i) (hij : i < j) (h1 : g a < g i) (h2 : g j ≤ g a) : Pe (sw g i j) a b (i + 1) (j - 1) p := by
  have e0 := h.1
  refine ⟨?_, fun t t1 t2 => ?_, fun t t1 t2 => ?_⟩
  · unfold sw; rw [if_neg (by omega), if_neg (by omega)]; exact e0
  · unfold sw
    rw [if_neg (by omega)]
    by_cases e : t = i
    · rw [if_pos e]; omega
    · rw [if_neg e]; exact h.2.1 t t1 (by omega)
  · unfold sw
    by_cases e : t = j
    · rw [if_pos e]; omega
    · rw [if_neg e, if_neg (by omega)]; exact h.2.2 t (by omega) t2

set_option maxRecDepth 100000 in
set_option maxHeartbeats 3200000 in
theorem partEq (G o n cap a b p : Nat) (f : Nat → Int) (w : World) (h : Hid (Row G o n f w)) (hab : a + 1 < b) (hp : a ≤ p) (hp2 : p < b) (hb : b ≤ n) (hn : n ≤ 512) :
    Calls Yba.prog 24 #[.slice (some ⟨G, o, none⟩) n cap, .int .i64 a, .int .i64 b, .int .i64 p] w fun e w' =>
      ∃ (m : Nat) (g : Nat → Int), e = .returned (.int .i64 m) ∧ At G o n a b f w g w' ∧ a < m ∧ m ≤ b ∧ (∀ t, a ≤ t → t < m → g t ≤ f p) ∧ ∀ t, m ≤ t → t < b → f p < g t := by
  have hc := h.out.cell
  have hf := h.out.frozen
  have hx := h.out.second a p (by omega)
  go_enter Yba.func24, Yba.ntmps24
  go_wp2
  go_region
  have hat0 : Hid (At G o n a b f w (sw f a p) ((w.setCell ⟨G, o + a, none⟩ (.int .u64 (f p))).setCell ⟨G, o + p, none⟩ (.int .u64 (f a))).drew) :=
    (At.refl a b h.out).swap hb (by omega) (by omega) (by omega) (by omega) 1
  generalize ((w.setCell ⟨G, o + a, none⟩ (.int .u64 (f p))).setCell ⟨G, o + p, none⟩ (.int .u64 (f a))).drew = w0 at hat0 ⊢
  have hpe0 : Hid (Pe (sw f a p) a b (a + 1) (b - 1) (f p)) := by
    refine ⟨?_, fun t h1 h2 => by omega, fun t h1 h2 => by omega⟩
    unfold sw
    by_cases e : a = p
    · rw [if_pos e, e]
    · rw [if_neg e, if_pos rfl]
  generalize sw f a p = g0 at hat0 hpe0
  clear hc hf hx
  go_wp2
  go_loopw [9, 10] (fun vi vj wr => ∃ (i j : Nat) (g : Nat → Int), vi = .int .i64 i ∧ vj = .int .i64 j ∧ a < i ∧ i ≤ j + 1 ∧ j < b ∧ a ≤ j ∧ Hid (At G o n a b f w g wr) ∧ Hid (Pe g a b i j (f p))) (fun vi vj _ => (intOf vj + 1 - intOf vi).toNat)
  case atStart => exact ⟨a + 1, b - 1, g0, by go_num, by go_num, by omega, by omega, by omega, by omega, hat0, hpe0⟩
  case round =>
    clear hat0 hpe0
    obtain ⟨i0, j0, g, rfl, rfl, hai, hij, hjb, haj, hat, hpe⟩ := hrel
    go_upto_block 2 with fail
    go_cut [9] (fun v wx => ∃ i : Nat, v = .int .i64 i ∧ a < i ∧ i ≤ j0 + 1 ∧ i0 ≤ i ∧ Hid (At G o n a b f w g wx) ∧ Hid (Pe g a b i j0 (f p)) ∧ Hid (i ≤ j0 → g a < g i))
    case first =>
      go_wp2
      go_loopw [9] (fun vi wr => ∃ i : Nat, vi = .int .i64 i ∧ a < i ∧ i ≤ j0 + 1 ∧ i0 ≤ i ∧ Hid (At G o n a b f w g wr) ∧ Hid (Pe g a b i j0 (f p))) (fun vi _ => j0 + 1 - (intOf vi).toNat)
      case atStart => exact ⟨i0, rfl, hai, hij, Nat.le_refl _, hat, hpe⟩
      case round =>
        clear hat hpe hai hij
        obtain ⟨i, rfl, hai, hij, hii, hat, hpe⟩ := hrel
        have hc := hat.out.cell
        have hf := hat.out.frozen
        go_wp2
        by_cases hi : i ≤ j0
        · cases hl : lss (g a) (g i)
          · go_big_quiet (first | (go_at_call 23; refine Calls.quiet_of_same (less _ _ _)))
            go_wp2
            go_roundw
            case rel => exact ⟨i + 1, by congr 1, by omega, by omega, by omega, hat.out.drew _, hpe.out.up (lss_f hl)⟩
            case measure => simp [intOf]; omega
          · go_big_quiet (first | (go_at_call 23; refine Calls.quiet_of_same (less _ _ _)))
            go_wp2
            go_meet
            exact ⟨i, rfl, hai, hij, hii, hat.out.drew _, hpe, fun _ => lss_t hl⟩
        · go_big_quiet (first | (go_at_call 23; refine Calls.quiet_of_same (less _ _ _)))
          go_wp2
          go_meet
          exact ⟨i, rfl, hai, hij, hii, hat.out.drew _, hpe, fun h => absurd h hi⟩
    case rest =>
      clear hat hpe hai hij
      obtain ⟨i, rfl, hai, hij, hii, hat, hpe, hgi⟩ := hcut
      go_upto_block 4 with fail
      go_cut [10] (fun v wx => ∃ j : Nat, v = .int .i64 j ∧ i ≤ j + 1 ∧ a ≤ j ∧ j ≤ j0 ∧ Hid (At G o n a b f w g wx) ∧ Hid (Pe g a b i j (f p)) ∧ Hid (i ≤ j → g a < g i ∧ g j ≤ g a))
      case first =>
        go_wp2
        go_loopw [10] (fun vj wr => ∃ j : Nat, vj = .int .i64 j ∧ i ≤ j + 1 ∧ a ≤ j ∧ j ≤ j0 ∧ Hid (At G o n a b f w g wr) ∧ Hid (Pe g a b i j (f p)) ∧ Hid (i ≤ j → g a < g i)) (fun vj _ => (intOf vj).toNat)
        case atStart => exact ⟨j0, rfl, hij, haj, Nat.le_refl _, hat, hpe, hgi⟩
        case round =>
          clear hat hpe hgi hij haj
          obtain ⟨j, rfl, hij, haj, hjj, hat, hpe, hgi⟩ := hrel
          have hc := hat.out.cell
          have hf := hat.out.frozen
          go_wp2
          by_cases hi : i ≤ j
          · cases hl : lss (g a) (g j)
            · go_big_quiet (first | (go_at_call 23; refine Calls.quiet_of_same (less _ _ _)))
              go_wp2
              go_meet
              exact ⟨j, rfl, hij, haj, hjj, hat.out.drew _, hpe, fun h => ⟨hgi.out h, lss_f hl⟩⟩
            · go_big_quiet (first | (go_at_call 23; refine Calls.quiet_of_same (less _ _ _)))
              go_wp2
              go_roundw
              case rel => exact ⟨j - 1, by congr 1; omega, by omega, by omega, by omega, hat.out.drew _, hpe.out.down (lss_t hl), fun h => hgi.out (by omega)⟩
              case measure => simp [intOf]; omega
          · go_big_quiet (first | (go_at_call 23; refine Calls.quiet_of_same (less _ _ _)))
            go_wp2
            go_meet
            exact ⟨j, rfl, hij, haj, hjj, hat.out.drew _, hpe, fun h => absurd h hi⟩
      case rest =>
        clear hat hpe hgi hij haj
        obtain ⟨j, rfl, hij, haj, hjj, hat, hpe, hgi⟩ := hcut
        by_cases hi : i ≤ j
        · obtain ⟨g1, g2⟩ := hgi.out hi
          have hij2 : i < j := by
            rcases Nat.lt_or_ge i j with h | h
            · exact h
            · have e : i = j := by omega
              subst e
              omega
          have hc := hat.out.cell
          have hf := hat.out.frozen
          have G1 : Hid _ := g1
          have G2 : Hid _ := g2
          clear g1 g2
          go_wp2
          go_region
          go_wp2
          go_roundw
          case rel => exact ⟨i + 1, j - 1, _, by congr 1, by congr 1; omega, by omega, by omega, by omega, by omega, hat.out.swap hb (by omega) (by omega) (by omega) (by omega) 1, hpe.out.swap hai hij2 G1.out G2.out⟩
          case measure => simp [intOf]; omega
        · go_wp2
          go_ret
          have h0 := hpe.out
          refine ⟨i, g, rfl, hat.out, hai, by omega, fun t t1 t2 => ?_, fun t t1 t2 => h0.2.2 t (by omega) t2⟩
          by_cases e : t = a
          · rw [e, h0.1]; exact Int.le_refl _
          · exact h0.2.1 t (by omega) t2
end Go.Proofs.Ybulkahlo
