/-
  LawS1659BSend: slices of ranges that a call owns, as lists; what turns and what stays.
-/
import Derived.Test.YbulkahiiLocks
import Derived.Maps.AppendAt
import Derived.Great.BuildSlice
import Derived.OwnWalk
namespace Go.Proofs.Ybulkahii
open Go.RowKit Go.Conc

/-- Of the old blocks only those in S have turned. -/
structure Tn (S : Nat → Prop) (w w' : World) : Prop where
  os : w'.os = w.os
  tape : w'.tape = w.tape
  output : w'.output = w.output
  size : w.heap.size ≤ w'.heap.size
  block : ∀ k, k < w.heap.size → ¬ S k → w'.heap[k]? = w.heap[k]?
section
variable {S T : Nat → Prop} {a b c w : World}
theorem Tn.refl (S : Nat → Prop) (w : World) : Tn S w w := ⟨rfl, rfl, rfl, Nat.le_refl _, fun _ _ _ => rfl⟩
theorem Tn.trans (h : Tn S a b) (k : Tn T b c) (hT : ∀ x, T x → S x ∨ a.heap.size ≤ x) : Tn S a c :=
  ⟨k.os.trans h.os, k.tape.trans h.tape, k.output.trans h.output, Nat.le_trans h.size k.size, fun x hx hs => by
    rw [k.block x (Nat.lt_of_lt_of_le hx h.size) (fun ht => by rcases hT x ht with h1 | h1; exact hs h1; omega), h.block x hx hs]⟩
theorem Tn.then (h : Tn S a b) (k : Tn S b c) : Tn S a c := h.trans k fun _ hx => .inl hx
theorem Tn.of_below (h : Below a.heap.size a b) : Tn S a b := ⟨h.os, h.tape, h.output, h.size, fun k hk _ => h.block k hk⟩
theorem Tn.below {B : Nat} (h : Tn S a b) (hB : B ≤ a.heap.size) (hS : ∀ k, S k → B ≤ k) : Below B a b :=
  ⟨h.os, h.tape, h.output, h.size, fun k hk => h.block k (by omega) (fun hs => by have := hS k hs; omega)⟩
theorem Tn.of_grown {row : Option Nat} (h : a.grownBy b row) (hr : ∀ k, row = some k → S k) : Tn S a b :=
  ⟨h.os, h.tape, h.output, h.size, fun k hk hs => h.block k hk (fun e => hs (hr k e.symm))⟩
theorem Tn.alloc (S : Nat → Prop) (w : World) (o : Obj) : Tn S w (w.alloc o) := .of_below ((Below.refl _ w).alloc (Nat.le_refl _) _)
theorem Tn.drew (S : Nat → Prop) (w : World) : Tn S w w.drew := ⟨rfl, rfl, rfl, Nat.le_refl _, fun _ _ _ => rfl⟩
theorem Tn.setChan {x cap s r : Nat} {buf : Array Value} {cl tm : Bool} (hx : S x) : Tn S w (w.setChan x cap buf cl s r tm) :=
  ⟨rfl, rfl, rfl, by rw [size_setChan]; exact Nat.le_refl _, fun k _ hs => (below_setChan (Below.refl (x) w) (Nat.le_refl _) cap buf cl s r tm).block k |> fun f => by
    by_cases h : k < x
    · exact f h
    · have : x ≠ k := fun e => hs (e ▸ hx)
      simp [World.setChan, this]⟩
end

/-- The cells of a list of ranges. -/
def flat (L : List (Int × Int)) : List Value := L.flatMap fun p => (rngA p.1 p.2).toList
theorem flat_nil : flat [] = [] := rfl
theorem flat_cons (p : Int × Int) (L : List (Int × Int)) : flat (p :: L) = (rngA p.1 p.2).toList ++ flat L := by simp [flat]
theorem flat_append (L M : List (Int × Int)) : flat (L ++ M) = flat L ++ flat M := by simp [flat]
theorem flat_one (p : Int × Int) : flat [p] = (rngA p.1 p.2).toList := by simp [flat]
theorem rngL_length (s e : Int) : (rngA s e).toList.length = 40 := by simpa using rngA_size s e
theorem flat_length : ∀ L : List (Int × Int), (flat L).length = L.length * 40
  | [] => rfl
  | p :: L => by rw [flat_cons, List.length_append, rngL_length, flat_length L, List.length_cons]; omega
theorem flat_get : ∀ (L : List (Int × Int)) (i j : Nat), i < L.length → j < 40 → (flat L)[i * 40 + j]? = (rngA (L.getD i (0, 0)).1 (L.getD i (0, 0)).2).toList[j]?
  | p :: L, 0, j, _, hj => by
    rw [flat_cons, List.getElem?_append_left (by rw [rngL_length]; omega)]
    simp
  | p :: L, i + 1, j, hi, hj => by
    rw [flat_cons, List.getElem?_append_right (by rw [rngL_length]; omega), rngL_length, show (i + 1) * 40 + j - 40 = i * 40 + j by omega, flat_get L i j (by simpa using hi) hj]
    simp
theorem flat_one_cell (L : List (Int × Int)) : ∀ u ∈ flat L, u.oneCell' = true := by
  intro u hu
  simp only [flat, List.mem_flatMap] at hu
  obtain ⟨p, _, hu⟩ := hu
  have := rngA_one p.1 p.2
  rw [Array.all_eq_true'] at this
  exact this u (by simpa using hu)

/-- v is a slice of the ranges L, in a row of its own from block 'base' on. -/
def Own (base : Nat) (v : Value) (L : List (Int × Int)) (W : World) : Prop := W.ownsRow base 29 40 v L.length (flat L)
theorem Own.nil (base : Nat) (W : World) : Own base (.slice none 0 0) [] W := World.ownsRow_nil W base 29 40
theorem Own.same {base : Nat} {v : Value} {L : List (Int × Int)} {W W' : World} (h : Own base v L W) (hs : ∀ g, base ≤ g → g < W.heap.size → v.ownBlock = some g → W'.heap[g]? = W.heap[g]?) : Own base v L W' := by
  refine ⟨h.1, ?_⟩
  rcases h.2 with hn | ⟨g, cap, cur, hv, hb, hg, rest⟩
  · exact .inl hn
  · refine .inr ⟨g, cap, cur, hv, hb, ?_, rest⟩
    rw [hs g hb (Array.getElem?_eq_some_iff.1 hg).1 (by rw [hv]; rfl)]; exact hg
theorem Own.kept {base B : Nat} {v : Value} {L : List (Int × Int)} {W W' : World} (h : Own base v L W) (hb : Below B W W') (hB : W.heap.size ≤ B) : Own base v L W' :=
  h.same fun g _ hg _ => hb.block g (by omega)
theorem Own.turned {S : Nat → Prop} {base : Nat} {v : Value} {L : List (Int × Int)} {W W' : World} (h : Own base v L W) (ht : Tn S W W') (hS : ∀ g, base ≤ g → S g → v.ownBlock ≠ some g) : Own base v L W' :=
  h.same fun g hb hg hv => ht.block g hg fun hs => hS g hb hs hv
theorem Own.mono {base base' : Nat} {v : Value} {L : List (Int × Int)} {W : World} (h : Own base v L W) (hb : base' ≤ base) : Own base' v L W := by
  refine ⟨h.1, ?_⟩
  rcases h.2 with hn | ⟨g, cap, cur, hv, hg, rest⟩
  · exact .inl hn
  · exact .inr ⟨g, cap, cur, hv, by omega, rest⟩
theorem Own.row {base : Nat} {v : Value} {L : List (Int × Int)} {W : World} (h : Own base v L W) :
    (v = .slice none 0 0 ∧ L = []) ∨ ∃ g cap, v = .slice (some ⟨g, 0, none⟩) L.length cap ∧ base ≤ g ∧ g < W.heap.size ∧ RngRow g L.length (fun i => L.getD i (0, 0)) W := by
  rcases h.2 with ⟨h1, h2⟩ | ⟨g, cap, cur, hv, hb, hg, hrest⟩
  · exact .inl ⟨h1, List.eq_nil_of_length_eq_zero h2⟩
  · refine .inr ⟨g, cap, hv, hb, (Array.getElem?_eq_some_iff.1 hg).1, fun i hi j u hu => ?_⟩
    have hc := World.ownsRow.cells (g := g) (show W.ownsRow base 29 40 v L.length (flat L) from h) (by rw [hv]; rfl) (i * 40 + j) u
    have hj : j < 40 := by
      have := (List.getElem?_eq_some_iff.1 hu).1
      rwa [rngL_length] at this
    rw [flat_get L i j hi hj] at hc
    have := hc hu
    rwa [Addr.add_mid, Nat.zero_add] at this
theorem Own.base {base : Nat} {v : Value} {L : List (Int × Int)} {W : World} (h : Own base v L W) {k : Nat} (hk : v.ownBlock = some k) : base ≤ k ∧ k < W.heap.size := by
  rcases h.row with ⟨h1, _⟩ | ⟨g, cap, hv, hb, hg, _⟩
  · rw [h1] at hk; cases hk
  · rw [hv] at hk; cases hk; exact ⟨hb, hg⟩
theorem Own.sl {base : Nat} {v : Value} {L : List (Int × Int)} {W : World} (h : Own base v L W) : ∃ a cap, v = .slice a L.length cap ∧ RngSl a L.length (fun i => L.getD i (0, 0)) W := by
  rcases h.row with ⟨h1, h2⟩ | ⟨g, cap, hv, _, hg, hr⟩
  · subst h2; exact ⟨none, 0, h1, fun h => by simp at h⟩
  · exact ⟨_, cap, hv, fun _ => ⟨g, rfl, hg, hr⟩⟩

theorem info29 : (Yba.prog.info? 29).map (fun i => (i.zero, i.size, i.bytes)) = some (some (.agg zero40), 40, 40) := by kernel_rfl
theorem RngAt.cells {g : Nat} {s e : Int} {W : World} (h : RngAt g s e W) : ∀ j u, (rngA s e).toList[j]? = some u → W.cell? ((⟨g, 0, none⟩ : Addr).add j) = some u := by
  intro j u hu
  have h' : W.heap[g]? = some (.cells (rngA s e) 29 (0, 0)) := h
  rw [Addr.add_mid, Nat.zero_add]
  unfold World.cell?
  rw [h']
  simpa using hu
theorem rng_append {base : Nat} {v : Value} {L : List (Int × Int)} {W : World} (h : Own base v L W) (s e : Int) (g : Nat) (hg : RngAt g s e W) (hL : L.length ≤ 2000) (hb : base ≤ W.heap.size) (ty : TypeId) :
    ∃ v' W', (Builtin.append_ #[25, 25] ty #[v, .slice (some ⟨g, 0, none⟩) 1 1]).run Yba.prog W = .ok v' W' ∧ Own base v' (L ++ [(s, e)]) W' ∧ W.grownBy W' v.ownBlock ∧ (v'.ownBlock = v.ownBlock ∨ v'.ownBlock = some W.heap.size) := by
  obtain ⟨i0, hi, hz0, hz1, hz2⟩ := info_parts info29
  obtain ⟨v', W', h1, h2, h3, _, h4⟩ := run_append_own_at (P := Yba.prog) W base 25 ty 29 i0 (.agg zero40) 40 40 Yba.underlying25 hi hz0 hz1 hz2 rfl (by decide) v L.length (flat L) h ⟨g, 0, none⟩ 1 1 (rngA s e).toList
    (by rw [rngL_length]) hg.cells (fun u hu => flat_one_cell [(s, e)] u (by simpa [flat] using hu)) (by unfold maxLen; omega) (by omega) hb
  refine ⟨v', W', h1, ?_, h3, h4⟩
  show W'.ownsRow base 29 40 v' (L ++ [(s, e)]).length (flat (L ++ [(s, e)]))
  rw [flat_append, flat_one, List.length_append]
  exact h2

theorem build1v (s x e y : Int) (w : World) : (Instr.buildSlice 25 1 #[(0, .agg #[.int .u8 s, .int .u8 0, .int .u8 0, .int .u8 0, .int .u8 0, .int .u8 0, .int .u8 0, .int .u8 0, .int .u8 0, .int .u8 0, .int .u8 0, .int .u8 0, .int .u8 0, .int .u8 0, .int .u8 0, .int .u8 0, .int .u8 0, .int .u8 0, .int .u8 0, .int .u8 x, .int .u8 e, .int .u8 0, .int .u8 0, .int .u8 0, .int .u8 0, .int .u8 0, .int .u8 0, .int .u8 0, .int .u8 0, .int .u8 0, .int .u8 0, .int .u8 0, .int .u8 0, .int .u8 0, .int .u8 0, .int .u8 0, .int .u8 0, .int .u8 0, .int .u8 0, .int .u8 y])]).run Yba.prog w = .ok (.slice (some ⟨w.heap.size, 0, none⟩) 1 1) (w.alloc (.cells #[.int .u8 s, .int .u8 0, .int .u8 0, .int .u8 0, .int .u8 0, .int .u8 0, .int .u8 0, .int .u8 0, .int .u8 0, .int .u8 0, .int .u8 0, .int .u8 0, .int .u8 0, .int .u8 0, .int .u8 0, .int .u8 0, .int .u8 0, .int .u8 0, .int .u8 0, .int .u8 x, .int .u8 e, .int .u8 0, .int .u8 0, .int .u8 0, .int .u8 0, .int .u8 0, .int .u8 0, .int .u8 0, .int .u8 0, .int .u8 0, .int .u8 0, .int .u8 0, .int .u8 0, .int .u8 0, .int .u8 0, .int .u8 0, .int .u8 0, .int .u8 0, .int .u8 0, .int .u8 y] 29)) := by kernel_rfl
theorem build1 (s e : Int) (w : World) : (Instr.buildSlice 25 1 #[(0, .agg (rngA s e))]).run Yba.prog w = .ok (.slice (some ⟨w.heap.size, 0, none⟩) 1 1) (w.alloc (.cells (rngA s e) 29)) := by
  have h := build1v s (bits .xor .u8 s 90) e (bits .xor .u8 e 90) w
  simpa [idA, idL, rngA] using h
end Go.Proofs.Ybulkahii
