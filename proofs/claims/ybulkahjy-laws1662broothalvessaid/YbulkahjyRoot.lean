/-
  (*gap[int]).root over a row of gaps.
-/
import Derived.Test.YbulkahjyRows
import Derived.Test.YbulkahjyPlain
import Derived.WalkKit
import Derived.WalkSpells
import Derived.Deep.OwnRows
import Derived.Below
namespace Go.Proofs.Ybulkahjy
open Go.RowKit Forest

/-- Nothing has turned but block G's cells. -/
structure Turn (G : Nat) (w w' : World) : Prop where
  os : w'.os = w.os
  tape : w'.tape = w.tape
  output : w'.output = w.output
  size : w'.heap.size = w.heap.size
  block : ∀ k, k ≠ G → w'.heap[k]? = w.heap[k]?

theorem Turn.refl (G : Nat) (w : World) : Turn G w w := ⟨rfl, rfl, rfl, rfl, fun _ _ => rfl⟩
theorem Turn.trans {G : Nat} {a b c : World} (h : Turn G a b) (k : Turn G b c) : Turn G a c :=
  ⟨k.os.trans h.os, k.tape.trans h.tape, k.output.trans h.output, k.size.trans h.size, fun i hi => (k.block i hi).trans (h.block i hi)⟩
theorem Turn.setCell {G : Nat} {a w : World} (h : Turn G a w) (o : Nat) (v : Value) : Turn G a (w.setCell ⟨G, o, none⟩ v) :=
  h.trans ⟨rfl, rfl, rfl, Deep.nblk_setCell _ _ _, fun k hk => Deep.blk_setCell_other _ _ _ _ (by simpa using hk)⟩
theorem Turn.below {G B : Nat} {w w' : World} (h : Turn G w w') (hB : B ≤ G) : Below B w w' :=
  ⟨h.os, h.tape, h.output, by rw [h.size]; exact Nat.le_refl _, fun k hk => h.block k (by omega)⟩
theorem Turn.row {G b t n : Nat} {f : Nat → Value} {w w' : World} (h : Turn G w w') (hb : b ≠ G) (hr : w.rowIs b t n f) : w'.rowIs b t n f := hr.of_block (h.block b hb)

/-- The pointer to the gap numbered v: nil below nought. -/
def ptr (G : Nat) (v : Int) : Value := if v < 0 then .pointer none else .pointer (some ⟨G, v.toNat * 3, none⟩)

/-- A row of gaps that name each other by q: cell by cell. -/
def gapAt (G : Nat) (q : Nat → Int) (j : Nat) : Value :=
  if j % 3 = 1 then ptr G (q (j / 3)) else if j % 3 = 0 then .pointer none else .int .u8 (((j / 3 : Nat) : Int) % 256)

def offOf : Value → Nat
  | .pointer (some a) => a.off
  | _ => 0

theorem gap_into (G : Nat) (q : Nat → Int) (c : Nat) : gapAt G q (c * 3 + 1) = ptr G (q c) := by
  unfold gapAt
  rw [if_pos (by omega), show (c * 3 + 1) / 3 = c by omega]

theorem gap_upd (G : Nat) (q : Nat → Int) (c : Nat) (v : Int) (j : Nat) : (if j = c * 3 + 1 then ptr G v else gapAt G q j) = gapAt G (upd q c v) j := by
  by_cases h : j = c * 3 + 1
  · subst h
    rw [if_pos rfl, gap_into]
    simp [upd]
  · rw [if_neg h]
    unfold gapAt
    by_cases h1 : j % 3 = 1
    · rw [if_pos h1, if_pos h1]
      have : j / 3 ≠ c := by omega
      simp [upd, this]
    · rw [if_neg h1, if_neg h1]

set_option maxHeartbeats 800000 in
theorem root_walk (G n i : Nat) (q0 : Nat → Int) (w : World) (hi : i < n) (hok : Hid (Ok n q0)) (hrow : Hid (w.rowIs G 31 (3 * n) (gapAt G q0))) :
    Calls Yba.prog 7 #[.pointer (some ⟨G, i * 3, none⟩)] w fun e w' => e = .returned (.pointer (some ⟨G, (halve n q0 i).2 * 3, none⟩)) ∧ w'.rowIs G 31 (3 * n) (gapAt G (halve n q0 i).1) ∧ Turn G w w' := by
  go_enter Yba.func7, Yba.ntmps7
  go_wp2
  go_loopw [0] (fun g wr => ∃ (c f : Nat) (q : Nat → Int), c < n ∧ g = .pointer (some ⟨G, c * 3, none⟩) ∧ n ≤ f + c ∧ Hid (Ok n q) ∧ Hid (halve f q c = halve n q0 i) ∧ Hid (wr.rowIs G 31 (3 * n) (gapAt G q)) ∧ Hid (Turn G w wr))
    (fun g _ => 3 * n - offOf g)
  case atStart => exact ⟨i, n, q0, hi, rfl, by omega, hok, rfl, hrow, Turn.refl _ _⟩
  case round =>
    obtain ⟨c, f, q, hc, rfl, hf, hq, hh, hr, ht⟩ := hrel
    have c1 := hr.out.cell (i := c * 3 + 1) (by omega)
    rw [gap_into] at c1
    by_cases h1 : q c < 0
    · rw [ptr, if_pos h1] at c1
      have H1 : Hid (q c < 0) := h1
      clear h1
      go_wp2
      go_ret
      have e := halve_done (f := f) H1.out
      rw [hh.out] at e
      have e1 : (halve n q0 i).1 = q := by rw [e]
      have e2 : (halve n q0 i).2 = c := by rw [e]
      rw [e1, e2]
      exact ⟨rfl, hr.out, ht.out⟩
    · rw [ptr, if_neg h1] at c1
      obtain ⟨s1, s2⟩ := hq.out.step hc h1
      have c2 := hr.out.cell (i := (q c).toNat * 3 + 1) (by omega)
      rw [gap_into] at c2
      obtain ⟨d, hd⟩ : ∃ d, d = (q c).toNat := ⟨_, rfl⟩
      obtain ⟨f, rfl⟩ : ∃ g, f = g + 1 := ⟨f - 1, by omega⟩
      rw [← hd] at c1 c2 s1 s2
      by_cases h2 : q d < 0
      · rw [ptr, if_pos h2] at c2
        have hs : halve (f + 1) q c = halve f q d := by rw [hd] at h2 ⊢; exact halve_one h1 h2
        have HS : Hid (halve (f + 1) q c = halve f q d) := hs
        have HD : Hid (d = (q c).toNat) := hd
        clear hs hd h1 h2
        go_wp2
        go_roundw
        case rel => exact ⟨d, f, q, s2, rfl, by omega, hq, HS.out.symm.trans hh.out, hr, ht⟩
        case measure => simp [offOf]; omega
      · rw [ptr, if_neg h2] at c2
        have h1' : ¬ q (q c).toNat < 0 := by rw [← hd]; exact h2
        obtain ⟨t1, t2⟩ := hq.out.step s2 h2
        have hv : (if q d < 0 then Value.pointer none else .pointer (some ⟨G, (q d).toNat * 3, none⟩)) = .pointer (some ⟨G, (q d).toNat * 3, none⟩) := if_neg h2
        have hs : halve (f + 1) q c = halve f (upd q c (q d)) (q d).toNat := by rw [hd]; exact halve_two h1 h1'
        have hok' := hq.out.upd (c := c) (v := q d) (by omega) (by omega)
        have hrw := (hr.out.set (c * 3 + 1) (ptr G (q d))).congr (fun j _ => gap_upd G q c (q d) j)
        have htn := ht.out.setCell (c * 3 + 1) (ptr G (q d))
        rw [ptr, hv] at hrw htn
        obtain ⟨x, hx⟩ : ∃ x, x = (q d).toNat := ⟨_, rfl⟩
        rw [← hx] at hrw htn c2 hs t1 t2
        have fz := hr.out.frozen (c * 3 + 1)
        have HR : Hid ((wr.setCell ⟨G, c * 3 + 1, none⟩ (.pointer (some ⟨G, x * 3, none⟩))).rowIs G 31 (3 * n) (gapAt G (upd q c (q d)))) := hrw
        have HT : Hid (Turn G w (wr.setCell ⟨G, c * 3 + 1, none⟩ (.pointer (some ⟨G, x * 3, none⟩)))) := htn
        have HS : Hid (halve (f + 1) q c = halve f (upd q c (q d)) x) := hs
        have HO : Hid (Ok n (upd q c (q d))) := hok'
        clear hrw htn hs hok' hd h1 h2 h1' hv hx
        go_wp2
        go_roundw
        case rel => exact ⟨x, f, upd q c (q d), t2, rfl, by omega, HO, HS.out.symm.trans hh.out, HR, HT⟩
        case measure => simp [offOf]; omega
end Go.Proofs.Ybulkahjy
