/-
  The library's sort at uint64: the plain part: rows of numbers, exchanges, counts.
-/
import Derived.Test.YbulkahloChecked
import Derived.WalkKit
import Derived.Below
import Derived.Deep.OwnRows
import Derived.Deep.Draws
import Derived.Deep.QuietTactic
import Derived.BigGuard
import Derived.BigCall
import Derived.CellFam
import Derived.BigQuiet
namespace Go.Proofs.Ybulkahlo
open Go.RowKit

/-- The row with places i and j exchanged. -/
def sw (f : Nat → Int) (i j t : Nat) : Int := if t = j then f i else if t = i then f j else f t
/-- How many of the first n meet p. -/
def cnt (p : Int → Bool) (f : Nat → Int) : Nat → Nat
  | 0 => 0
  | n + 1 => cnt p f n + (if p (f n) then 1 else 0)

theorem cnt_congr (p : Int → Bool) (f g : Nat → Int) (n : Nat) (h : ∀ t, t < n → f t = g t) : cnt p f n = cnt p g n := by
  induction n with
  | zero => rfl
  | succ n ih => rw [cnt, cnt, ih (fun t ht => h t (by omega)), h n (by omega)]

theorem cnt_up (p : Int → Bool) (f : Nat → Int) (i : Nat) (v : Int) (n : Nat) (hi : i < n) :
    cnt p (fun t => if t = i then v else f t) n + (if p (f i) then 1 else 0) = cnt p f n + (if p v then 1 else 0) := by
  induction n with
  | zero => omega
  | succ n ih =>
    rw [cnt, cnt]
    by_cases h : i = n
    · subst h
      rw [cnt_congr p (fun t => if t = i then v else f t) f i (fun t ht => if_neg (by omega)), if_pos rfl]
      omega
    · have := ih (by omega)
      rw [if_neg (show ¬ n = i by omega)]
      omega

theorem cnt_sw (p : Int → Bool) (f : Nat → Int) (i j n : Nat) (hi : i < n) (hj : j < n) : cnt p (sw f i j) n = cnt p f n := by
  have h1 := cnt_up p f i (f j) n hi
  have h2 := cnt_up p (fun t => if t = i then f j else f t) j (f i) n hj
  have h3 : (if j = i then f j else f j) = f j := by split <;> rfl
  have h4 : (fun t => if t = j then f i else if t = i then f j else f t) = sw f i j := rfl
  simp only [h4] at h2
  rw [h3] at h2
  omega

/-- g is f with the places [a, b) moved about, within n. -/
structure Sh (n a b : Nat) (f g : Nat → Int) : Prop where
  out : ∀ t, t < a ∨ b ≤ t → g t = f t
  mem : ∀ t, a ≤ t → t < b → ∃ s, a ≤ s ∧ s < b ∧ g t = f s
  cnt : ∀ p, cnt p g n = cnt p f n

theorem Sh.refl (n a b : Nat) (f : Nat → Int) : Sh n a b f f := ⟨fun _ _ => rfl, fun t h1 h2 => ⟨t, h1, h2, rfl⟩, fun _ => rfl⟩
theorem Sh.trans {n a b : Nat} {f g h : Nat → Int} (x : Sh n a b f g) (y : Sh n a b g h) : Sh n a b f h := by
  refine ⟨fun t ht => (y.out t ht).trans (x.out t ht), fun t h1 h2 => ?_, fun p => (y.cnt p).trans (x.cnt p)⟩
  obtain ⟨s, s1, s2, e⟩ := y.mem t h1 h2
  obtain ⟨r, r1, r2, e2⟩ := x.mem s s1 s2
  exact ⟨r, r1, r2, e.trans e2⟩
theorem Sh.swap {n a b : Nat} (f : Nat → Int) {i j : Nat} (hb : b ≤ n) (i1 : a ≤ i) (i2 : i < b) (j1 : a ≤ j) (j2 : j < b) : Sh n a b f (sw f i j) := by
  refine ⟨fun t ht => ?_, fun t h1 h2 => ?_, fun p => cnt_sw p f i j n (by omega) (by omega)⟩
  · unfold sw; rw [if_neg (by omega), if_neg (by omega)]
  · unfold sw
    by_cases h : t = j
    · exact ⟨i, i1, i2, by rw [if_pos h]⟩
    · by_cases h' : t = i
      · exact ⟨j, j1, j2, by rw [if_neg h, if_pos h']⟩
      · exact ⟨t, h1, h2, by rw [if_neg h, if_neg h']⟩
theorem Sh.widen {n a b a' b' : Nat} {f g : Nat → Int} (x : Sh n a b f g) (ha : a' ≤ a) (hb : b ≤ b') : Sh n a' b' f g := by
  refine ⟨fun t ht => x.out t (by omega), fun t h1 h2 => ?_, x.cnt⟩
  by_cases h : a ≤ t ∧ t < b
  · obtain ⟨s, s1, s2, e⟩ := x.mem t h.1 h.2
    exact ⟨s, by omega, by omega, e⟩
  · exact ⟨t, h1, h2, x.out t (by omega)⟩
/-- What holds of every place of [a, b) holds there afterwards. -/
theorem Sh.all {n a b : Nat} {f g : Nat → Int} (x : Sh n a b f g) {p : Int → Prop} (h : ∀ t, a ≤ t → t < b → p (f t)) : ∀ t, a ≤ t → t < b → p (g t) := by
  intro t h1 h2
  obtain ⟨s, s1, s2, e⟩ := x.mem t h1 h2
  rw [e]; exact h s s1 s2

/-- Ascending on [a, b). -/
def Srt (g : Nat → Int) (a b : Nat) : Prop := ∀ s t, a ≤ s → s ≤ t → t < b → g s ≤ g t

/-- Nothing has turned but block G's cells, and new blocks. -/
structure Stir (G : Nat) (w w' : World) : Prop where
  os : w'.os = w.os
  tape : w'.tape = w.tape
  output : w'.output = w.output
  size : w.heap.size ≤ w'.heap.size
  block : ∀ k, k < w.heap.size → k ≠ G → w'.heap[k]? = w.heap[k]?

theorem Stir.refl (G : Nat) (w : World) : Stir G w w := ⟨rfl, rfl, rfl, Nat.le_refl _, fun _ _ _ => rfl⟩
theorem Stir.trans {G : Nat} {a b c : World} (h : Stir G a b) (k : Stir G b c) : Stir G a c :=
  ⟨k.os.trans h.os, k.tape.trans h.tape, k.output.trans h.output, Nat.le_trans h.size k.size, fun i hi hg => (k.block i (Nat.lt_of_lt_of_le hi h.size) hg).trans (h.block i hi hg)⟩
theorem Stir.drew {G : Nat} {a w : World} (h : Stir G a w) (q : Nat) : Stir G a (w.drewN q) := ⟨h.os, h.tape, h.output, h.size, h.block⟩
theorem Stir.setCell {G : Nat} {a w : World} (h : Stir G a w) (o : Nat) (v : Value) : Stir G a (w.setCell ⟨G, o, none⟩ v) :=
  h.trans ⟨rfl, rfl, rfl, by rw [Deep.nblk_setCell]; exact Nat.le_refl _, fun k _ hk => Deep.blk_setCell_other _ _ _ _ (by simpa using hk)⟩

/-- Block G is the row of the n numbers f (o is the row's first place: 0; the walks bear it as a variable). -/
structure Row (G o n : Nat) (f : Nat → Int) (w : World) : Prop where
  zero : o = 0
  is : w.rowIs G 22 n (fun t => .int .u64 (f t))

theorem Row.drew {G o n : Nat} {f : Nat → Int} {w : World} (h : Row G o n f w) (q : Nat) : Row G o n f (w.drewN q) := ⟨h.zero, World.rowIs.of_block h.is rfl⟩
theorem Row.cell {G o n : Nat} {f : Nat → Int} {w : World} (h : Row G o n f w) : ∀ t, t < n → w.cell? ⟨G, o + t, none⟩ = some (.int .u64 (f t)) := fun t ht => by
  rw [h.zero, Nat.zero_add]; exact World.rowIs.cell h.is ht
theorem Row.frozen {G o n : Nat} {f : Nat → Int} {w : World} (h : Row G o n f w) : ∀ t, t < n → w.frozen? ⟨G, o + t, none⟩ = false := fun t _ => by
  rw [h.zero, Nat.zero_add]; exact World.rowIs.frozen h.is t
theorem Row.swap {G o n : Nat} {f : Nat → Int} {w : World} (h : Row G o n f w) (i j : Nat) : Row G o n (sw f i j) ((w.setCell ⟨G, o + i, none⟩ (.int .u64 (f j))).setCell ⟨G, o + j, none⟩ (.int .u64 (f i))) := by
  refine ⟨h.zero, ?_⟩
  rw [h.zero, Nat.zero_add, Nat.zero_add]
  refine ((World.rowIs.set h.is i (.int .u64 (f j))).set j (.int .u64 (f i))).congr fun t _ => ?_
  unfold sw
  by_cases h1 : t = j
  · rw [if_pos h1, if_pos h1]
  · rw [if_neg h1, if_neg h1]
    by_cases h2 : t = i
    · rw [if_pos h2, if_pos h2]
    · rw [if_neg h2, if_neg h2]

/-- The second cell of an exchange, behind the first store: the two may be one. -/
theorem Row.second {G o n : Nat} {f : Nat → Int} {w : World} (h : Row G o n f w) (i j : Nat) (hj : j < n) : (w.setCell ⟨G, o + i, none⟩ (.int .u64 (f j))).cell? ⟨G, o + j, none⟩ = some (.int .u64 (f j)) := by
  rw [h.zero, Nat.zero_add, Nat.zero_add]
  rw [World.rowIs.cell (World.rowIs.set h.is i (.int .u64 (f j))) hj]
  by_cases e : j = i
  · rw [if_pos e]
  · rw [if_neg e]

/-- The row while the sort is at work: what was f is g now, by exchanges within [a, b). -/
structure At (G o n a b : Nat) (f : Nat → Int) (w : World) (g : Nat → Int) (w' : World) : Prop where
  row : Row G o n g w'
  stir : Stir G w w'
  sh : Sh n a b f g

section
variable {G o n a b a' b' : Nat} {f g h : Nat → Int} {w w1 w2 : World}
theorem At.refl (a b : Nat) (h : Row G o n f w) : At G o n a b f w f w := ⟨h, Stir.refl _ _, Sh.refl _ _ _ _⟩
theorem At.trans (x : At G o n a b f w g w1) (y : At G o n a b g w1 h w2) : At G o n a b f w h w2 := ⟨y.row, x.stir.trans y.stir, x.sh.trans y.sh⟩
theorem At.drew (x : At G o n a b f w g w1) (q : Nat) : At G o n a b f w g (w1.drewN q) := ⟨x.row.drew q, x.stir.drew q, x.sh⟩
theorem At.swap (x : At G o n a b f w g w1) {i j : Nat} (hb : b ≤ n) (i1 : a ≤ i) (i2 : i < b) (j1 : a ≤ j) (j2 : j < b) (q : Nat) :
    At G o n a b f w (sw g i j) (((w1.drewN q).setCell ⟨G, o + i, none⟩ (.int .u64 (g j))).setCell ⟨G, o + j, none⟩ (.int .u64 (g i))) :=
  ⟨(x.row.drew q).swap i j, ((x.stir.drew q).setCell _ _).setCell _ _, x.sh.trans (Sh.swap g hb i1 i2 j1 j2)⟩
theorem At.widen (x : At G o n a b f w g w1) (ha : a' ≤ a) (hb : b ≤ b') : At G o n a' b' f w g w1 := ⟨x.row, x.stir, x.sh.widen ha hb⟩
theorem At.cell (x : At G o n a b f w g w1) : ∀ t, t < n → w1.cell? ⟨G, o + t, none⟩ = some (.int .u64 (g t)) := x.row.cell
theorem At.frozen (x : At G o n a b f w g w1) : ∀ t, t < n → w1.frozen? ⟨G, o + t, none⟩ = false := x.row.frozen
end
end Go.Proofs.Ybulkahlo
