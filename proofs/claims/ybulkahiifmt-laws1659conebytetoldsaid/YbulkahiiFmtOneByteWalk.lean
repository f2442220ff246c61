/-
  LawS1659COneByte: the walk.
-/
import Derived.Test.YbulkahiiFmtMatchWalk
import Derived.Laws.BitsAllLaws
namespace Go.Proofs.YbulkahiiFmt
open Go.RowKit Go.Extern.Stop Go.Stop Go.Extern

/-- The byte that 'b[i] ^= d | 1' leaves. -/
def turned (x d : Int) : Int := bits .xor .u8 x (bits .or .u8 d 1)

theorem turned_facts (x d : Int) (h0 : 0 ≤ x) (h1 : x < 256) (h2 : 0 ≤ d) (h3 : d < 256) : 0 ≤ turned x d ∧ turned x d < 256 ∧ turned x d ≠ x := by
  obtain ⟨n, rfl⟩ := Int.eq_ofNat_of_zero_le h0
  obtain ⟨m, rfl⟩ := Int.eq_ofNat_of_zero_le h2
  have hn : n < 256 := by omega
  have hm : m < 256 := by omega
  have ho : m ||| 1 < 256 := Nat.or_lt_two_pow (n := 8) hm (by omega)
  have hx : n ^^^ (m ||| 1) < 256 := Nat.xor_lt_two_pow (n := 8) hn ho
  have e : turned (n : Int) (m : Int) = ((n ^^^ (m ||| 1) : Nat) : Int) := by
    unfold turned
    rw [show bits .or .u8 (m : Int) 1 = ((m ||| 1 : Nat) : Int) from u8_or_nat m 1 hm (by omega), u8_xor_nat n _ hn ho]
  refine ⟨by rw [e]; omega, by rw [e]; omega, fun h => ?_⟩
  rw [e] at h
  have h' : n ^^^ (m ||| 1) = n := by omega
  have h'' : m ||| 1 = 0 := by
    have := congrArg (n ^^^ ·) h'
    simp only [← Nat.xor_assoc, Nat.xor_self, Nat.zero_xor] at this
    exact this
  have := Nat.or_eq_zero_iff.1 h''
  omega

theorem IsId.set {A : Array Value} {xs : List Int} (h : IsId A xs) (i : Nat) (v : Int) (h0 : 0 ≤ v) (h1 : v < 256) : IsId (A.setIfInBounds i (.int .u8 v)) (xs.set i v) := by
  refine ⟨?_, by simpa using h.len, fun j hj => ?_⟩
  · rw [h.cells]
    simp [List.map_set]
  · have := h.byte j hj
    by_cases e : i = j
    · subst e
      simp [List.getD, h.len, hj, h0, h1]
    · have e2 : (xs.set i v).getD j 0 = xs.getD j 0 := by simp [List.getD, e]
      rw [e2]; exact this

theorem set_ne (xs : List Int) (i : Nat) (v : Int) (hi : i < xs.length) (hv : v ≠ xs.getD i 0) : xs.set i v ≠ xs := fun h => hv (by
  have := congrArg (fun l => l.getD i 0) h
  simpa [List.getD, hi] using this)

set_option maxHeartbeats 1600000 in
theorem oneByte_walk (F : Interp) (A : Array Value) (xs : List Int) (k d : Int) (s : ByteArray) (w : World) (hF : F.answers w.tape) (hxs : Hid (IsId A xs)) (hk0 : 0 ≤ k) (hk1 : k ≤ 255) (hd0 : 0 ≤ d) (hd1 : d ≤ 255) :
    Calls Ybaf.prog 5 #[.agg A, .int .u8 k, .int .u8 d, .string s] w fun e w' => e = .returned (.bool true) ∧ Below w.heap.size w w' := by
  have hA := hxs.out.size
  have sA : (Ybaf.prog.info? 22).map (·.size) = some A.size := by rw [hA]; exact size22
  have hbuild := build25 A hA s
  obtain ⟨C, hC⟩ : ∃ C, C = A.push (.string s) := ⟨_, rfl⟩
  rw [← hC] at hbuild
  have hCs : C.size = 21 := by rw [hC]; simp [hA]
  have sC : (Ybaf.prog.info? 25).map (·.size) = some C.size := by rw [hCs]; exact size25
  have hone : C.all (·.oneCell') = true := by
    rw [hC, Array.all_push, hxs.out.one]; rfl
  have honeA := hxs.out.one
  have hh : Heads A C := by rw [hC]; exact heads_push A _
  have hl : C[20]? = some (.string s) := by rw [hC]; exact last_push A _ hA
  have hkk : (k % 20).toNat < 20 := by omega
  have hat := hxs.out.at (k % 20).toNat hkk
  obtain ⟨t0, t1, t2⟩ := turned_facts (xs.getD (k % 20).toNat 0) d (hxs.out.byte _ hkk).1 (hxs.out.byte _ hkk).2 hd0 (by omega)
  have iB := hxs.out.set (k % 20).toNat (turned (xs.getD (k % 20).toNat 0) d) t0 t1
  have hne := set_ne xs (k % 20).toNat (turned (xs.getD (k % 20).toNat 0) d) (by rw [hxs.out.len]; exact hkk) t2
  have heq : ∀ w, (Op.equalIn 10000 23 (.agg (A.setIfInBounds (k % 20).toNat (.int .u8 (turned (xs.getD (k % 20).toNat 0) d)))) (.agg A)).run Ybaf.prog w = .ok false w := fun w => by
    rw [equal20 23 Ybaf.underlying23 iB hxs.out w, decide_eq_false hne]
  unfold turned at iB heq
  rw [List.getD_eq_getElem?_getD] at iB heq
  have sB : (Ybaf.prog.info? 22).map (·.size) = some (A.setIfInBounds (k % 20).toNat (.int .u8 (bits BinOp.xor IntKind.u8 (xs[(k % 20).toNat]?.getD 0) (bits BinOp.or IntKind.u8 d 1)))).size := by rw [Array.size_setIfInBounds]; exact sA
  have HB : Hid (IsId (A.setIfInBounds (k % 20).toNat (.int .u8 (bits BinOp.xor IntKind.u8 (xs[(k % 20).toNat]?.getD 0) (bits BinOp.or IntKind.u8 d 1)))) (xs.set (k % 20).toNat (bits BinOp.xor IntKind.u8 (xs[(k % 20).toNat]?.getD 0) (bits BinOp.or IntKind.u8 d 1)))) := iB
  have HE : Hid (∀ w, (Op.equalIn 10000 23 (.agg (A.setIfInBounds (k % 20).toNat (.int .u8 (bits BinOp.xor IntKind.u8 (xs[(k % 20).toNat]?.getD 0) (bits BinOp.or IntKind.u8 d 1))))) (.agg A)).run Ybaf.prog w = .ok false w) := heq
  clear t0 t1 t2 iB heq hne
  have HC : Hid (C = A.push (.string s)) := hC
  have HCs : Hid (C.size = 21) := hCs
  have HA : Hid (A.size = 20) := hA
  clear hC hA hCs
  go_enter Ybaf.func5, Ybaf.ntmps5
  go_wp2_with (first
    | (refine wpList_load_row rfl 22 (.tmp 4) rfl w.heap.size rfl 22 A (0, 0) _ (heap_alloc_new w _) Ybaf.underlying22 rfl sA ?_)
    | (refine wpList_store_new _ (w.heap.size + 1) (by simp) rfl 22 (.tmp 9) (.tmp 12) rfl _ A rfl rfl sA HA.out.symm honeA ?_)
    | (refine wpList_load_row rfl 22 (.tmp 4) rfl w.heap.size rfl 22 A (0, 0) _ (heap_alloc2_old w _ _) Ybaf.underlying22 rfl sA ?_)
    | (refine wpList_build rfl 25 _ rfl #[(0, .agg A), (1, .string s)] rfl (.agg C) (hbuild _) ?_)
    | (refine wpList_store_new _ (w.heap.size + 1 + 1) (by simp) rfl 25 (.tmp 11) (.tmp 25) rfl _ C rfl rfl sC HCs.out.symm hone ?_)
    | (refine wpList_load_row rfl 25 (.tmp 11) rfl (w.heap.size + 1 + 1) rfl 25 C (0, 0) _ (heap3_2 w _ _ _) Ybaf.underlying25 rfl sC ?_)
    | (refine wpList_load_row rfl 22 (.tmp 9) rfl (w.heap.size + 1) rfl 22 _ (0, 0) _ (heap3_1 w _ _ _) Ybaf.underlying22 rfl sB ?_)
    | fail)
  refine (check_diff F A _ C xs _ s _ (by exact hF) HA.out (by simpa using HA.out) hh hl hxs HB HE.out).mono ?_
  rintro e w1 ⟨⟨p, rfl⟩, hb⟩
  go_wp2
  go_ret
  exact ⟨rfl, (((((Below.refl _ w).alloc (Nat.le_refl _) _).alloc (by simp) _).alloc (by simp; omega) _).trans (hb.mono (by simp; omega)))⟩
end Go.Proofs.YbulkahiiFmt
