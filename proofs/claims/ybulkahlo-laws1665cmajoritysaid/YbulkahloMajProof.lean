/-
  LawS1665CMajority: the row.
-/
import Derived.Test.YbulkahloRows
import Derived.Test.YbulkahloMajF
import Derived.ProofKit
import Derived.OpenShut
import Derived.ShutString
import Derived.ChangeOld
namespace Go.Proofs.Ybulkahlo
open Go.ChangeShapes Go.WideShapes Go.ChangeAt Go.RowKit
open Go.ChangeMaps (open_string shut_string)

theorem ownM : ownKnob Yba.prog.godebug = none := by kernel_rfl
theorem laidOutM : laidOutB Yba.prog = true := by kernel_rfl

theorem addr_add (b o j : Nat) : (⟨b, o, none⟩ : Addr).add j = ⟨b, o + j, none⟩ := by unfold Addr.add; split <;> simp_all

/-- A slice of uint64 that came in: empty, or at an address with its numbers there. -/
theorem open_u64s {H : Type} {enc : TypeId × Value → H} {W : World} {a : Option Addr} {n c : Nat} {d : DataW H} {p : List MemPlace}
    (h : DataW.Trod enc Yba.prog W 0 (fun _ => true) true 23 (.slice a n c) d p) :
    n = 0 ∨ ∃ b off, a = some ⟨b, off, none⟩ ∧ b < W.heap.size ∧ ∃ z : Nat → Int, ∀ j, j < n → W.cell? ⟨b, off + j, none⟩ = some (.int .u64 (z j)) ∧ (Lit.int .u64 (z j)).wf = true := by
  by_cases h0 : n = 0
  · exact .inl h0
  · obtain ⟨fuel, hf⟩ := h
    rcases open_ints Yba.underlying23 Yba.underlying22 (by kernel_rfl) hf with ⟨hcs, _⟩ | ⟨x, l, c', zs, hcs, _, hl, hm, hz, _, hcell, hwz⟩
    · simp [Value.cells] at hcs
      exact absurd hcs.2.1 h0
    · simp [Value.cells] at hcs
      obtain ⟨rfl, rfl, rfl⟩ := hcs
      have hz' : zs.length = c := by simpa using hz
      obtain ⟨b, off, spot⟩ := x
      have hc0 := hcell 0 (by omega)
      have hspot : spot = none := by simpa [Addr.add] using World.cell?_spot hc0
      subst hspot
      refine .inr ⟨b, off, rfl, by simpa [Addr.add] using World.block_lt_of_cell? W _ hc0, fun j => zs.getD j 0, fun j hj => ?_⟩
      have hj' : j < zs.length := by omega
      refine ⟨by rw [← addr_add]; exact hcell j hj', hwz (zs.getD j 0) (by simp [List.getD, hj'])⟩

theorem maj_big (a0 : Option Addr) (k c0 : Nat) (a1 : Option Addr) (m c1 : Nat) (s led tk : Int) (w : World) (h : 512 < k ∨ 512 < m) :
    Calls Yba.prog 4 #[.slice a0 k c0, .slice a1 m c1, .int .u16 s, .int .u64 led, .int .i64 tk] w fun e w' => e = .returned (.bool true) ∧ Below w.heap.size w w' := by
  by_cases hk : 512 < k
  · have t1 : decide ((512 : Int) < (k : Int)) = true := decide_eq_true (by omega)
    go_enter Yba.func4, Yba.ntmps4
    go_wp2
    go_ret
    exact ⟨rfl, Below.refl _ _⟩
  · have t1 : decide ((512 : Int) < (k : Int)) = false := decide_eq_false (by omega)
    have t2 : decide ((512 : Int) < (m : Int)) = true := decide_eq_true (by omega)
    go_enter Yba.func4, Yba.ntmps4
    go_wp2
    go_ret
    exact ⟨rfl, Below.refl _ _⟩

theorem ids_of_open {a : Option Addr} {n : Nat} {w : World} (h : n = 0 ∨ ∃ b off, a = some ⟨b, off, none⟩ ∧ b < w.heap.size ∧ ∃ z : Nat → Int, ∀ j, j < n → w.cell? ⟨b, off + j, none⟩ = some (.int .u64 (z j)) ∧ (Lit.int .u64 (z j)).wf = true) :
    ∃ z : Nat → Int, Ids w.heap.size a n z w ∧ ∀ t, t < n → 0 ≤ z t ∧ z t ≤ 18446744073709551615 := by
  rcases h with h | ⟨b, off, h1, h2, z, h3⟩
  · exact ⟨fun _ => 0, fun h0 => absurd h0 (by omega), fun t ht => by omega⟩
  · refine ⟨z, fun _ => ⟨b, off, h1, h2, fun t ht => (h3 t ht).1⟩, fun t ht => ?_⟩
    exact bounds_u64 (h3 t ht).2

theorem maj_walk (a0 : Option Addr) (k c0 : Nat) (a1 : Option Addr) (m c1 : Nat) (s led tk : Int) (w : World)
    (h0 : k = 0 ∨ ∃ b off, a0 = some ⟨b, off, none⟩ ∧ b < w.heap.size ∧ ∃ z : Nat → Int, ∀ j, j < k → w.cell? ⟨b, off + j, none⟩ = some (.int .u64 (z j)) ∧ (Lit.int .u64 (z j)).wf = true)
    (h1 : m = 0 ∨ ∃ b off, a1 = some ⟨b, off, none⟩ ∧ b < w.heap.size ∧ ∃ z : Nat → Int, ∀ j, j < m → w.cell? ⟨b, off + j, none⟩ = some (.int .u64 (z j)) ∧ (Lit.int .u64 (z j)).wf = true)
    (hs : (Lit.int .u16 s).wf = true) (hl : (Lit.int .u64 led).wf = true) :
    Calls Yba.prog 4 #[.slice a0 k c0, .slice a1 m c1, .int .u16 s, .int .u64 led, .int .i64 tk] w fun e w' => e = .returned (.bool true) ∧ Below w.heap.size w w' := by
  by_cases hbig : 512 < k ∨ 512 < m
  · exact maj_big a0 k c0 a1 m c1 s led tk w hbig
  · obtain ⟨z, hz1, hz2⟩ := ids_of_open h0
    obtain ⟨x, hx1, hx2⟩ := ids_of_open h1
    have hs1 : 0 ≤ s ∧ s ≤ 65535 := bounds_u16 hs
    have hl1 : 0 ≤ led := (bounds_u64 hl).1
    exact majWalk a0 k c0 z a1 m c1 x s led tk w (by omega) (by omega) hs1.1 hs1.2 hz1 hx1 (fun t ht => (hz2 t ht).1) hx2 hl1

set_option maxRecDepth 100000 in
theorem maj_lifted (os : Os) (started : os.Started) (H : Type) (enc : TypeId × Value → H) :
    ReturnsInHanded {} Yba.checked os 4 .any (Rows.lawS1665CMajoritySpec.pre6 enc Yba.prog Yba.f4 Rows.lawS1665CMajorityRow.domain false) (Rows.lawS1665CMajoritySpec.post enc Yba.prog Yba.f4 false true false false) := by
  refine returnsInHanded_of_change (C := Yba.checked) ownM started (by kernel_rfl) Yba.func4
    (ChangeSpec.witness6 (enc := enc) (C := Yba.checked) false ⟨#[], #[.slice none 0 0, .slice none 0 0, .int .u16 0, .int .u64 0, .int .i64 0], []⟩ 8 (by kernel_rfl) (by kernel_rfl) (by kernel_rfl) (by kernel_rfl)) ?_
  intro W base args ds gs before hval0 hW hcnd _
  have hval : ∀ (j : Nat) t v, Yba.f4.params[j]? = some t → args[j]? = some v → Value.okWide Yba.prog W .any base t v := hval0
  have hW' := hW
  obtain ⟨p, q, hA0, hV, rfl, hfz, hnd⟩ := hW
  have hA : DataW.TrodAll enc Yba.prog W 0 (fun _ => true) true Yba.f4.params.toList args.toList ds p := hA0
  rw [Yba.params4] at hA hval
  obtain ⟨v0, vs0, d0, ds0, p0, q0, hargs, rfl, rfl, h0, r0⟩ := trodAll_cons hA
  obtain ⟨v1, vs1, d1, ds1, p1, q1, rfl, rfl, rfl, h1, r1⟩ := trodAll_cons r0
  obtain ⟨v2, vs2, d2, ds2, p2, q2, rfl, rfl, rfl, h2, r2⟩ := trodAll_cons r1
  obtain ⟨v3, vs3, d3, ds3, p3, q3, rfl, rfl, rfl, h3, r3⟩ := trodAll_cons r2
  obtain ⟨v4, vs4, d4, ds4, p4, q4, rfl, rfl, rfl, h4, r4⟩ := trodAll_cons r3
  obtain ⟨rfl, rfl, rfl⟩ := trodAll_nil r4
  obtain rfl : args = #[v0, v1, v2, v3, v4] := by cases args; simp_all
  obtain ⟨rfl, rfl⟩ := trodVars_none hV
  obtain ⟨a0, len0, cap0, rfl⟩ := okWide_slice Yba.underlying23 (hval 0 23 v0 rfl rfl)
  have k0 := h0
  have lt0 : ∀ x ∈ p0, x.block < W.heap.size := by obtain ⟨m, hm⟩ := k0; exact DataW.trod_lt m _ _ _ hm
  have w0 := open_u64s h0
  obtain ⟨a1, len1, cap1, rfl⟩ := okWide_slice Yba.underlying23 (hval 1 23 v1 rfl rfl)
  have k1 := h1
  have lt1 : ∀ x ∈ p1, x.block < W.heap.size := by obtain ⟨m, hm⟩ := k1; exact DataW.trod_lt m _ _ _ hm
  have w1 := open_u64s h1
  obtain ⟨a2, rfl, rfl, rfl, w2⟩ := open_int Yba.underlying39 (hval 2 39 v2 rfl rfl) h2
  obtain ⟨a3, rfl, rfl, rfl, w3⟩ := open_int Yba.underlying22 (hval 3 22 v3 rfl rfl) h3
  obtain ⟨a4, rfl, rfl, rfl, w4⟩ := open_int Yba.underlying3 (hval 4 3 v4 rfl rfl) h4
  clear hA0 hval0
  refine (maj_walk a0 len0 cap0 a1 len1 cap1 a2 a3 a4 W w0 w1 w2 w3).mono fun e W' ⟨he, bel⟩ => ?_
  subst he
  exact ⟨_, rfl, _, _, _, [], _, [], hW', trodAll_mk1 (shut_bool Yba.underlying4 _), (trodAll_cons_mk (Below.trod laidOutM (by kernel_rfl) (of_decide_eq_true (by kernel_rfl)) k0 bel lt0) (trodAll_cons_mk (Below.trod laidOutM (by kernel_rfl) (of_decide_eq_true (by kernel_rfl)) k1 bel lt1) (trodAll_cons_mk (shut_int Yba.underlying39 w2) (trodAll_cons_mk (shut_int Yba.underlying22 w3) (trodAll_cons_mk (shut_int Yba.underlying3 w4) trodAll_mk0))))), rfl, bel.frame _, fun h => by cases h⟩

theorem maj_over : Rows.lawS1665CMajorityRow.holds Yba.pinned (OpenSpec.ofChange Rows.lawS1665CMajoritySpec) :=
  OpenClaim.holds_of_wide 4 Yba.f4 rfl rfl rfl rfl rfl rfl rfl ⟨rfl, rfl, rfl, rfl, rfl⟩ rfl rfl rfl rfl rfl (by kernel_rfl) Yba.func4 (by kernel_rfl)
    (of_decide_eq_true (by kernel_rfl)) (by unfold Func.isWrapper; first | (rw [if_pos (by decide +kernel)]; kernel_rfl) | (rw [if_neg (by decide +kernel)]; exact ⟨rfl, rfl⟩))
    (fun os started H enc _ => maj_lifted os started H enc)

/-- THE STATEMENT. -/
theorem majority_proved : Rows.LawS1665CMajoritySaid := maj_over
end Go.Proofs.Ybulkahlo
