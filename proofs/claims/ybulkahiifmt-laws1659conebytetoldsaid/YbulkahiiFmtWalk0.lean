/-
  THE CALLEES: (ID).String by the shelf's contract of hex.EncodeToString; equality of two arrays of 20 bytes; checkID.
-/
import Derived.Test.YbulkahiiFmtFacts
import Derived.Test.YbulkahiiFmtShelf
namespace Go.Proofs.YbulkahiiFmt
open Go.RowKit Go.Extern.Stop Go.Stop Go.Extern

/-- 'A' holds the bytes 'xs', twenty of them. -/
structure IsId (A : Array Value) (xs : List Int) : Prop where
  cells : A = (xs.map (Value.int .u8)).toArray
  len : xs.length = 20
  byte : ∀ i, i < 20 → 0 ≤ xs.getD i 0 ∧ xs.getD i 0 < 256

theorem IsId.size {A : Array Value} {xs : List Int} (h : IsId A xs) : A.size = 20 := by
  rw [h.cells]; simpa using h.len

theorem IsId.at {A : Array Value} {xs : List Int} (h : IsId A xs) (i : Nat) (hi : i < 20) : A[i]? = some (.int .u8 (xs.getD i 0)) := by
  have := h.len
  rw [h.cells]; simp [List.getD, show i < xs.length by omega]

theorem IsId.one {A : Array Value} {xs : List Int} (h : IsId A xs) : A.all (·.oneCell') = true := by
  rw [h.cells]; simp [Value.oneCell']

set_option maxHeartbeats 400000 in
theorem string10 (A : Array Value) (xs : List Int) (w : World) (hid : Hid (IsId A xs)) :
    Calls Ybaf.prog 10 #[.agg A] w fun e w' => ∃ s, e = .returned (.string s) ∧ Below w.heap.size w w' := by
  go_enter Ybaf.func10, Ybaf.ntmps10
  go_wp2_with fail
  refine (Ybaf.hex_EncodeToString w.heap.size 0 20 20 xs _ hid.out.len hid.out.byte (fun i hi => ?_) (by simp) (by omega)).mono ?_
  · rw [Nat.zero_add, cell_of_row _ _ i A 23 (0, 0) (heap_alloc_new w _)]
    exact hid.out.at i hi
  rintro e w1 ⟨rfl, hb⟩
  go_wp2
  go_ret
  exact ⟨_, rfl, ((Below.refl _ w).alloc (Nat.le_refl _) _).trans (hb.mono (by simp))⟩

/-! ### two arrays of bytes -/
theorem part5 (xs : List Int) (i : Nat) (h : i < xs.length) (w : World) : (part 5 (xs.map (Value.int .u8)).toArray i).run Ybaf.prog w = .ok (.int .u8 (xs.getD i 0)) w := by
  have hg : (xs.map (Value.int .u8)).toArray[i]? = some (.int .u8 (xs.getD i 0)) := by
    simp [h, List.getD]
  exact run_part_plain w (by kernel_rfl) hg

theorem items5 (d : Nat) (xs ys : List Int) (w : World) : ∀ is : List Nat, (∀ i ∈ is, i < xs.length ∧ i < ys.length) →
    (Op.eqItems (d + 1) 5 1 (xs.map (Value.int .u8)).toArray (ys.map (Value.int .u8)).toArray is).run Ybaf.prog w = .ok (is.all fun i => xs.getD i 0 == ys.getD i 0) w
  | [], _ => by simp [Op.eqItems]
  | i :: is, h => by
    have ih := items5 d xs ys w is (fun j hj => h j (by simp [hj]))
    obtain ⟨h1, h2⟩ := h i (by simp)
    simp only [Op.eqItems, Nat.mul_one, Sem.run_bind, part5 xs i h1, part5 ys i h2, Result.andThen_ok, run_equalIn_int w d 5 .u8 .u8 _ _ Ybaf.underlying5]
    cases hb : (xs.getD i 0 == ys.getD i 0)
    · simp only [Bool.not_false, if_true, List.all_cons, hb, Bool.false_and, Sem.run_pure]
    · simp only [Bool.not_true, Bool.false_eq_true, if_false, List.all_cons, hb, Bool.true_and]
      exact ih

theorem all_range (xs ys : List Int) (hx : xs.length = 20) (hy : ys.length = 20) : ((List.range 20).all fun i => xs.getD i 0 == ys.getD i 0) = decide (xs = ys) := by
  rw [Bool.eq_iff_iff]
  simp only [List.all_eq_true, List.mem_range, beq_iff_eq, decide_eq_true_eq]
  constructor
  · intro h
    refine List.ext_getElem (by omega) fun i h1 h2 => ?_
    have := h i (by omega)
    simpa [List.getD, h1, h2] using this
  · rintro rfl i _
    rfl

theorem equal20 (t : TypeId) (ht : Ybaf.prog.underlying t = some (.array 20 5)) {A B : Array Value} {xs ys : List Int} (hx : IsId A xs) (hy : IsId B ys) (w : World) :
    (Op.equalIn 10000 t (.agg A) (.agg B)).run Ybaf.prog w = .ok (decide (xs = ys)) w := by
  obtain ⟨i, hi⟩ := Option.isSome_iff_exists.1 (show (Ybaf.prog.info? 5).isSome = true from by kernel_rfl)
  have h1 := hx.len
  have h2 := hy.len
  rw [hx.cells, hy.cells, show (10000 : Nat) = 9999 + 1 from rfl, run_equalIn_array w 9999 _ _ ht hi, show Ybaf.prog.cellsOf 5 = 1 from by kernel_rfl,
    show (9999 : Nat) = 9998 + 1 from rfl, items5 9998 xs ys w _ (fun j hj => by have := List.mem_range.1 hj; omega), all_range xs ys h1 h2]
end Go.Proofs.YbulkahiiFmt
