/-
  LawS1659BSend: slices of ranges; IndexFunc.
-/
import Derived.Test.YbulkahiiClo
namespace Go.Proofs.Ybulkahii
open Go.RowKit Go.Conc

/-- A row of n ranges. -/
def RngRow (G n : Nat) (f : Nat → Int × Int) (W : World) : Prop := ∀ i, i < n → W.rangeAt G (i * 40) (rngA (f i).1 (f i).2).toList
theorem RngRow.kept {G n B : Nat} {f : Nat → Int × Int} {W W' : World} (h : RngRow G n f W) (hb : Below B W W') (hg : G < B) : RngRow G n f W' := fun i hi j v hv => by
  rw [hb.cell (p := ⟨G, i * 40 + j, none⟩) hg]; exact h i hi j v hv
/-- What IndexFunc answers. -/
def IsIdx (n : Nat) (f : Nat → Int × Int) (re : Int) (r : Int) : Prop := (∃ k : Nat, k < n ∧ r = k ∧ (f k).2 = re ∧ ∀ j, j < k → (f j).2 ≠ re) ∨ (r = -1 ∧ ∀ j, j < n → (f j).2 ≠ re)

theorem list29 (s e : Int) : (Yba.prog.info? 29).map (·.size) = some (rngA s e).toList.length := by
  simpa [rngA_size] using size29

set_option maxRecDepth 100000 in
set_option maxHeartbeats 1600000 in
theorem idx14 (G n cap g : Nat) (f : Nat → Int × Int) (rs re : Int) (W : World) (hr : Hid (RngRow G n f W)) (hG : G < W.heap.size) (hg : Hid (RngAt g rs re W)) (hlt : g < W.heap.size) (hn : n ≤ 2000) :
    Calls Yba.prog 14 #[.slice (some ⟨G, 0, none⟩) n cap, .func (.func 15) #[] #[.pointer (some ⟨g, 0, none⟩)]] W fun x W' => ∃ r, x = .returned (.int .i64 r) ∧ IsIdx n f re r ∧ Below W.heap.size W W' := by
  go_enter Yba.func14, Yba.ntmps14
  go_wp2
  go_loopw [8] (fun vi wr => ∃ i : Nat, vi = .int .i64 i ∧ i ≤ n ∧ Hid (∀ j, j < i → (f j).2 ≠ re) ∧ Hid (Below W.heap.size W wr)) (fun vi _ => n - (intOf vi).toNat)
  case atStart => exact ⟨0, rfl, Nat.zero_le _, fun j hj => by omega, Below.refl _ _⟩
  case round =>
    obtain ⟨i, rfl, hi, hno, hb⟩ := hrel
    by_cases hlt2 : i < n
    · obtain ⟨C, hC⟩ : ∃ C, Hid (C = rngA (f i).1 (f i).2) := ⟨_, rfl⟩
      have r1 : wr.rangeAt G (i * 40) C.toList := by rw [hC.out]; exact (hr.out.kept hb.out hG) i hlt2
      have sC : (Yba.prog.info? 29).map (·.size) = some C.toList.length := by rw [hC.out]; exact list29 _ _
      have hcl : ∀ (V : World), RngAt g rs re V → g < V.heap.size → Calls Yba.prog 15 #[.agg C, .pointer (some ⟨g, 0, none⟩)] V fun x W' => x = .returned (.bool (decide ((f i).2 = re))) ∧ Below V.heap.size V W' := by
        rw [hC.out]; exact fun V h1 h2 => clo15 _ _ rs re g V h1 h2
      have HCL : Hid _ := hcl
      clear hcl
      go_wp2_with (first
        | (refine wpList_load_mid rfl 29 (.tmp 14) rfl G (i * 40) rfl C.toList _ r1 Yba.underlying29 rfl sC ?_)
        | (go_at_call 15; refine (HCL.out _ (hg.out.kept hb.out hlt) (Nat.lt_of_lt_of_le hlt hb.out.size)).mono ?_; rintro x w1 ⟨rfl, hb1⟩))
      · go_ret
        exact ⟨i, rfl, .inl ⟨i, hlt2, rfl, by assumption, hno.out⟩, hb.out.trans (hb1.mono hb.out.size)⟩
      · go_roundw
        case rel =>
          refine ⟨i + 1, by congr 1, by omega, fun j hj => ?_, hb.out.trans (hb1.mono hb.out.size)⟩
          by_cases e : j = i
          · subst e; assumption
          · exact hno.out j (by omega)
        case measure => simp [intOf]; omega
    · go_wp2
      go_ret
      exact ⟨-1, rfl, .inr ⟨rfl, fun j hj => hno.out j (by omega)⟩, hb.out⟩
end Go.Proofs.Ybulkahii
