/-
  The library's sort at uint64: the partition.
-/
import Derived.Test.YbulkahloSort7
namespace Go.Proofs.Ybulkahlo
open Go.RowKit

/-- [a + 1, i) is below what stands at a, (j, b) is not below it. -/
def Pa (g : Nat → Int) (a b i j : Nat) (p : Int) : Prop := g a = p ∧ (∀ t, a < t → t < i → g t < p) ∧ ∀ t, j < t → t < b → p ≤ g t

theorem Pa.up {g : Nat → Int} {a b i j : Nat} {p : Int} (h : Pa g a b i j p) (hl : g i < g a) : Pa g a b (i + 1) j p :=
  ⟨h.1, fun t h1 h2 => by
    by_cases e : t = i
    · rw [e]; have := h.1; omega
    · exact h.2.1 t h1 (by omega), h.2.2⟩
theorem Pa.down {g : Nat → Int} {a b i j : Nat} {p : Int} (h : Pa g a b i j p) (hl : g a ≤ g j) : Pa g a b i (j - 1) p :=
  ⟨h.1, h.2.1, fun t h1 h2 => by
    by_cases e : t = j
    · rw [e]; have := h.1; omega
    · exact h.2.2 t (by omega) h2⟩
theorem Pa.swap {g : Nat → Int} {a b i j : Nat} {p : Int} (h : Pa g a b i j p) (hi : a < i) (hij : i < j) (h1 : g a ≤ g i) (h2 : g j < g a) : Pa (sw g i j) a b (i + 1) (j - 1) p := by
  have e0 := h.1
  refine ⟨?_, fun t t1 t2 => ?_, fun t t1 t2 => ?_⟩
  · unfold sw; rw [if_neg (by omega), if_neg (by omega)]; exact e0
  · unfold sw
    rw [if_neg (by omega)]
    by_cases e : t = i
    · rw [if_pos e]; omega
    · rw [if_neg e]; exact h.2.1 t t1 (by omega)
  · unfold sw
    by_cases e : t = j
    · rw [if_pos e]; omega
    · rw [if_neg e, if_neg (by omega)]; exact h.2.2 t (by omega) t2
/-- Parted at m. -/
def Parted (g : Nat → Int) (a b m : Nat) (p : Int) : Prop := (∀ t, a ≤ t → t < m → g t < p) ∧ g m = p ∧ ∀ t, m < t → t < b → p ≤ g t
theorem Pa.last {g : Nat → Int} {a b i j : Nat} {p : Int} (h : Pa g a b i j p) (haj : a ≤ j) (hij : j < i) : Parted (sw g j a) a b j p := by
  have e0 := h.1
  refine ⟨fun t t1 t2 => ?_, ?_, fun t t1 t2 => ?_⟩
  · unfold sw
    by_cases e : t = a
    · rw [if_pos e]; exact h.2.1 j (by omega) hij
    · rw [if_neg e, if_neg (by omega)]; exact h.2.1 t (by omega) (by omega)
  · unfold sw
    by_cases e : j = a
    · rw [if_pos e, e]; exact e0
    · rw [if_neg e, if_pos rfl]; exact e0
  · unfold sw
    rw [if_neg (by omega), if_neg (by omega)]; exact h.2.2 t t1 t2

set_option maxRecDepth 100000 in
set_option maxHeartbeats 3200000 in
theorem parted (G o n cap a b p : Nat) (f : Nat → Int) (w : World) (h : Hid (Row G o n f w)) (hab : a + 1 < b) (hp : a ≤ p) (hp2 : p < b) (hb : b ≤ n) (hn : n ≤ 512) :
    Calls Yba.prog 25 #[.slice (some ⟨G, o, none⟩) n cap, .int .i64 a, .int .i64 b, .int .i64 p] w fun e w' =>
      ∃ (m : Nat) (r : Bool) (g : Nat → Int), e = .returned (.tuple #[.int .i64 m, .bool r]) ∧ At G o n a b f w g w' ∧ a ≤ m ∧ m < b ∧ Parted g a b m (f p) := by
  have hc := h.out.cell
  have hf := h.out.frozen
  have hx := h.out.second a p (by omega)
  go_enter Yba.func25, Yba.ntmps25
  go_wp2
  go_region
  have hat : Hid (At G o n a b f w (sw f a p) ((w.setCell ⟨G, o + a, none⟩ (.int .u64 (f p))).setCell ⟨G, o + p, none⟩ (.int .u64 (f a))).drew) :=
    (At.refl a b h.out).swap hb (by omega) (by omega) (by omega) (by omega) 1
  generalize ((w.setCell ⟨G, o + a, none⟩ (.int .u64 (f p))).setCell ⟨G, o + p, none⟩ (.int .u64 (f a))).drew = w0 at hat ⊢
  have hpe : Hid (Pa (sw f a p) a b (a + 1) (b - 1) (f p)) := by
    refine ⟨?_, fun t h1 h2 => by omega, fun t h1 h2 => by omega⟩
    unfold sw
    by_cases e : a = p
    · rw [if_pos e, e]
    · rw [if_neg e, if_pos rfl]
  generalize sw f a p = g at hat hpe
  clear hc hf hx
  go_upto_block 0 with fail
  obtain ⟨i0, ei, hai, hi0⟩ : ∃ i0 : Nat, (a : Int) + 1 = (i0 : Int) ∧ a < i0 ∧ Hid (i0 = a + 1) := ⟨a + 1, by omega, by omega, rfl⟩
  obtain ⟨j0, ej, haj, hjb, hij, hj0⟩ : ∃ j0 : Nat, (b : Int) - 1 = (j0 : Int) ∧ a ≤ j0 ∧ j0 < b ∧ i0 ≤ j0 + 1 ∧ Hid (j0 = b - 1) := ⟨b - 1, by omega, by omega, by omega, by have := hi0.out; omega, rfl⟩
  rw [ei, ej]
  clear ei ej
  rw [← hi0.out, ← hj0.out] at hpe
  clear hi0 hj0
  go_upto_block 0 with fail
  go_cut [10] (fun v wx => ∃ i : Nat, v = .int .i64 i ∧ a < i ∧ i ≤ j0 + 1 ∧ i0 ≤ i ∧ Hid (At G o n a b f w g wx) ∧ Hid (Pa g a b i j0 (f p)) ∧ Hid (i ≤ j0 → g a ≤ g i))
  case first =>
    go_wp2
    go_loopw [10] (fun vi wr => ∃ i : Nat, vi = .int .i64 i ∧ a < i ∧ i ≤ j0 + 1 ∧ i0 ≤ i ∧ Hid (At G o n a b f w g wr) ∧ Hid (Pa g a b i j0 (f p))) (fun vi _ => j0 + 1 - (intOf vi).toNat)
    case atStart => exact ⟨i0, rfl, hai, hij, Nat.le_refl _, hat, hpe⟩
    case round =>
      clear hat hpe hai hij
      obtain ⟨i, rfl, hai, hij, hii, hat, hpe⟩ := hrel
      have hc := hat.out.cell
      have hf := hat.out.frozen
      go_wp2
      by_cases hi : i ≤ j0
      · cases hl : lss (g i) (g a)
        · go_big_quiet (first | (go_at_call 23; refine Calls.quiet_of_same (less _ _ _)))
          go_wp2
          go_meet
          exact ⟨i, rfl, hai, hij, hii, hat.out.drew _, hpe, fun _ => lss_f hl⟩
        · go_big_quiet (first | (go_at_call 23; refine Calls.quiet_of_same (less _ _ _)))
          go_wp2
          go_roundw
          case rel => exact ⟨i + 1, by congr 1, by omega, by omega, by omega, hat.out.drew _, hpe.out.up (lss_t hl)⟩
          case measure => simp [intOf]; omega
      · go_big_quiet (first | (go_at_call 23; refine Calls.quiet_of_same (less _ _ _)))
        go_wp2
        go_meet
        exact ⟨i, rfl, hai, hij, hii, hat.out.drew _, hpe, fun h => absurd h hi⟩
  case rest =>
    clear hat hpe hai hij
    obtain ⟨i, rfl, hai, hij, hii, hat, hpe, hgi⟩ := hcut
    go_upto_block 2 with fail
    go_cut [11] (fun v wx => ∃ j : Nat, v = .int .i64 j ∧ i ≤ j + 1 ∧ a ≤ j ∧ j ≤ j0 ∧ Hid (At G o n a b f w g wx) ∧ Hid (Pa g a b i j (f p)) ∧ Hid (i ≤ j → g a ≤ g i ∧ g j < g a))
    case first =>
      go_wp2
      go_loopw [11] (fun vj wr => ∃ j : Nat, vj = .int .i64 j ∧ i ≤ j + 1 ∧ a ≤ j ∧ j ≤ j0 ∧ Hid (At G o n a b f w g wr) ∧ Hid (Pa g a b i j (f p)) ∧ Hid (i ≤ j → g a ≤ g i)) (fun vj _ => (intOf vj).toNat)
      case atStart => exact ⟨j0, rfl, hij, haj, Nat.le_refl _, hat, hpe, hgi⟩
      case round =>
        clear hat hpe hgi hij haj
        obtain ⟨j, rfl, hij, haj, hjj, hat, hpe, hgi⟩ := hrel
        have hc := hat.out.cell
        have hf := hat.out.frozen
        go_wp2
        by_cases hi : i ≤ j
        · cases hl : lss (g j) (g a)
          · go_big_quiet (first | (go_at_call 23; refine Calls.quiet_of_same (less _ _ _)))
            go_wp2
            go_roundw
            case rel => exact ⟨j - 1, by congr 1; omega, by omega, by omega, by omega, hat.out.drew _, hpe.out.down (lss_f hl), fun h => hgi.out (by omega)⟩
            case measure => simp [intOf]; omega
          · go_big_quiet (first | (go_at_call 23; refine Calls.quiet_of_same (less _ _ _)))
            go_wp2
            go_meet
            exact ⟨j, rfl, hij, haj, hjj, hat.out.drew _, hpe, fun h => ⟨hgi.out h, lss_t hl⟩⟩
        · go_big_quiet (first | (go_at_call 23; refine Calls.quiet_of_same (less _ _ _)))
          go_wp2
          go_meet
          exact ⟨j, rfl, hij, haj, hjj, hat.out.drew _, hpe, fun h => absurd h hi⟩
    case rest =>
      clear hat hpe hgi hij haj
      obtain ⟨j, rfl, hij, haj, hjj, hat, hpe, hgi⟩ := hcut
      have hc := hat.out.cell
      have hf := hat.out.frozen
      by_cases hi : i ≤ j
      · obtain ⟨g1, g2⟩ := hgi.out hi
        have hij2 : i < j := by
          rcases Nat.lt_or_ge i j with h | h
          · exact h
          · have e : i = j := by omega
            subst e
            omega
        have G1 : Hid _ := g1
        have G2 : Hid _ := g2
        clear g1 g2 hgi
        go_wp2
        go_region
        have hat1 := hat.out.swap (i := i) (j := j) hb (by omega) (by omega) (by omega) (by omega) 1
        have hpe1 := hpe.out.swap hai hij2 G1.out G2.out
        have HAT : Hid (At G o n a b f w (sw g i j) ((wc.setCell ⟨G, o + i, none⟩ (.int .u64 (g j))).setCell ⟨G, o + j, none⟩ (.int .u64 (g i))).drew) := hat1
        have HPE : Hid (Pa (sw g i j) a b (i + 1) (j - 1) (f p)) := hpe1
        clear hat1 hpe1 hat hpe hc hf G1 G2
        generalize sw g i j = g3 at HAT HPE
        generalize ((wc.setCell ⟨G, o + i, none⟩ (.int .u64 (g j))).setCell ⟨G, o + j, none⟩ (.int .u64 (g i))).drew = w3 at HAT ⊢
        go_wp2
        go_loopw [10, 11] (fun vi vj wr => ∃ (i j : Nat) (g : Nat → Int), vi = .int .i64 i ∧ vj = .int .i64 j ∧ a < i ∧ i ≤ j + 1 ∧ j < b ∧ a ≤ j ∧ Hid (At G o n a b f w g wr) ∧ Hid (Pa g a b i j (f p))) (fun vi vj _ => (intOf vj + 1 - intOf vi).toNat)
        case atStart => exact ⟨i + 1, j - 1, g3, by go_num, by go_num, by omega, by omega, by omega, by omega, HAT, HPE⟩
        case round =>
          clear HAT HPE hij2 hi hij haj hjj hai hii hjb
          obtain ⟨i0, j0, g, rfl, rfl, hai, hij, hjb, haj, hat, hpe⟩ := hrel
          go_upto_block 6 with fail
          go_cut [10] (fun v wx => ∃ i : Nat, v = .int .i64 i ∧ a < i ∧ i ≤ j0 + 1 ∧ i0 ≤ i ∧ Hid (At G o n a b f w g wx) ∧ Hid (Pa g a b i j0 (f p)) ∧ Hid (i ≤ j0 → g a ≤ g i))
          case first =>
            go_wp2
            go_loopw [10] (fun vi wr => ∃ i : Nat, vi = .int .i64 i ∧ a < i ∧ i ≤ j0 + 1 ∧ i0 ≤ i ∧ Hid (At G o n a b f w g wr) ∧ Hid (Pa g a b i j0 (f p))) (fun vi _ => j0 + 1 - (intOf vi).toNat)
            case atStart => exact ⟨i0, rfl, hai, hij, Nat.le_refl _, hat, hpe⟩
            case round =>
              clear hat hpe hai hij
              obtain ⟨i, rfl, hai, hij, hii, hat, hpe⟩ := hrel
              have hc := hat.out.cell
              have hf := hat.out.frozen
              go_wp2
              by_cases hi : i ≤ j0
              · cases hl : lss (g i) (g a)
                · go_big_quiet (first | (go_at_call 23; refine Calls.quiet_of_same (less _ _ _)))
                  go_wp2
                  go_meet
                  exact ⟨i, rfl, hai, hij, hii, hat.out.drew _, hpe, fun _ => lss_f hl⟩
                · go_big_quiet (first | (go_at_call 23; refine Calls.quiet_of_same (less _ _ _)))
                  go_wp2
                  go_roundw
                  case rel => exact ⟨i + 1, by congr 1, by omega, by omega, by omega, hat.out.drew _, hpe.out.up (lss_t hl)⟩
                  case measure => simp [intOf]; omega
              · go_big_quiet (first | (go_at_call 23; refine Calls.quiet_of_same (less _ _ _)))
                go_wp2
                go_meet
                exact ⟨i, rfl, hai, hij, hii, hat.out.drew _, hpe, fun h => absurd h hi⟩
          case rest =>
            clear hat hpe hai hij
            obtain ⟨i, rfl, hai, hij, hii, hat, hpe, hgi⟩ := hcut
            go_upto_block 8 with fail
            go_cut [11] (fun v wx => ∃ j : Nat, v = .int .i64 j ∧ i ≤ j + 1 ∧ a ≤ j ∧ j ≤ j0 ∧ Hid (At G o n a b f w g wx) ∧ Hid (Pa g a b i j (f p)) ∧ Hid (i ≤ j → g a ≤ g i ∧ g j < g a))
            case first =>
              go_wp2
              go_loopw [11] (fun vj wr => ∃ j : Nat, vj = .int .i64 j ∧ i ≤ j + 1 ∧ a ≤ j ∧ j ≤ j0 ∧ Hid (At G o n a b f w g wr) ∧ Hid (Pa g a b i j (f p)) ∧ Hid (i ≤ j → g a ≤ g i)) (fun vj _ => (intOf vj).toNat)
              case atStart => exact ⟨j0, rfl, hij, haj, Nat.le_refl _, hat, hpe, hgi⟩
              case round =>
                clear hat hpe hgi hij haj
                obtain ⟨j, rfl, hij, haj, hjj, hat, hpe, hgi⟩ := hrel
                have hc := hat.out.cell
                have hf := hat.out.frozen
                go_wp2
                by_cases hi : i ≤ j
                · cases hl : lss (g j) (g a)
                  · go_big_quiet (first | (go_at_call 23; refine Calls.quiet_of_same (less _ _ _)))
                    go_wp2
                    go_roundw
                    case rel => exact ⟨j - 1, by congr 1; omega, by omega, by omega, by omega, hat.out.drew _, hpe.out.down (lss_f hl), fun h => hgi.out (by omega)⟩
                    case measure => simp [intOf]; omega
                  · go_big_quiet (first | (go_at_call 23; refine Calls.quiet_of_same (less _ _ _)))
                    go_wp2
                    go_meet
                    exact ⟨j, rfl, hij, haj, hjj, hat.out.drew _, hpe, fun h => ⟨hgi.out h, lss_t hl⟩⟩
                · go_big_quiet (first | (go_at_call 23; refine Calls.quiet_of_same (less _ _ _)))
                  go_wp2
                  go_meet
                  exact ⟨j, rfl, hij, haj, hjj, hat.out.drew _, hpe, fun h => absurd h hi⟩
            case rest =>
              clear hat hpe hgi hij haj
              obtain ⟨j, rfl, hij, haj, hjj, hat, hpe, hgi⟩ := hcut
              have hc := hat.out.cell
              have hf := hat.out.frozen
              by_cases hi : i ≤ j
              · obtain ⟨g1, g2⟩ := hgi.out hi
                have hij2 : i < j := by
                  rcases Nat.lt_or_ge i j with h | h
                  · exact h
                  · have e : i = j := by omega
                    subst e
                    omega
                have G1 : Hid _ := g1
                have G2 : Hid _ := g2
                clear g1 g2 hgi
                go_wp2
                go_region
                go_wp2
                go_roundw
                case rel => exact ⟨i + 1, j - 1, _, by congr 1, by congr 1; omega, by omega, by omega, by omega, by omega, hat.out.swap hb (by omega) (by omega) (by omega) (by omega) 1, hpe.out.swap hai hij2 G1.out G2.out⟩
                case measure => simp [intOf]; omega
              · have hx := hat.out.row.second j a (by omega)
                go_wp2
                go_region
                go_wp2
                go_ret2
                exact ⟨j, false, _, rfl, hat.out.swap hb (by omega) (by omega) (by omega) (by omega) 1, by omega, by omega, hpe.out.last haj (by omega)⟩
      · have hx := hat.out.row.second j a (by omega)
        go_wp2
        go_region
        go_wp2
        go_ret2
        exact ⟨j, true, _, rfl, hat.out.swap hb (by omega) (by omega) (by omega) (by omega) 1, by omega, by omega, hpe.out.last haj (by omega)⟩
end Go.Proofs.Ybulkahlo
