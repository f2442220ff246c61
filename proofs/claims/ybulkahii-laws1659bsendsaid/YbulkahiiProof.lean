/-
  LawS1659BSend: the row.
-/
import Derived.Test.YbulkahiiRows
import Derived.Test.YbulkahiiLaw
import Derived.ProofKit
import Derived.OpenShut
import Derived.ChangeOld
import Derived.Deep.SlicePairs
namespace Go.Proofs.Ybulkahii
open Go.ChangeShapes Go.WideShapes Go.ChangeAt Go.RowKit

theorem ownS : ownKnob Yba.prog.godebug = none := by kernel_rfl
theorem laidOutS : laidOutB Yba.prog = true := by kernel_rfl
theorem cells24 : Yba.prog.cellsOf 24 = 2 := by kernel_rfl
theorem cells5 : Yba.prog.cellsOf 5 = 1 := by kernel_rfl

/-- The pairs that came in. -/
theorem open_pairs {H : Type} {enc : TypeId × Value → H} {W : World} {a : Option Addr} {n c : Nat} {d : DataW H} {p : List MemPlace}
    (h : DataW.Trod enc Yba.prog W 0 (fun _ => true) true 22 (.slice a n c) d p) : PairsAt a n W := by
  intro hn
  obtain ⟨fuel, hf⟩ := h
  rcases Deep.open_slice_pairs Yba.underlying22 Yba.underlying24 cells24 rfl rfl cells5 cells5 hf with ⟨hcs, _⟩ | ⟨x, len, cap, m, k, V0, V1, D0, D1, P0, P1, hcs, _, hl, _, hm, _, hx⟩
  · simp [Value.cells] at hcs
    omega
  · simp [Value.cells] at hcs
    obtain ⟨rfl, rfl, rfl⟩ := hcs
    have hm' : m = c := by simpa using hm
    subst hm'
    obtain ⟨b, off, spot⟩ := x
    have hc0 := (hx 0 (by omega)).1
    have hspot : spot = none := by simpa [Addr.add] using World.cell?_spot hc0
    subst hspot
    refine ⟨b, off, rfl, by simpa [Addr.add] using World.block_lt_of_cell? W _ hc0, fun i hi => ?_⟩
    obtain ⟨h0, h1, t0, t1⟩ := hx i (by omega)
    obtain ⟨s, hs, _, _⟩ := DataW.trod_int Yba.underlying5 t0
    obtain ⟨e, he, _, _⟩ := DataW.trod_int Yba.underlying5 t1
    rw [Addr.add_mid] at h0 h1
    refine ⟨s, e, by rw [h0]; simpa using hs, by rw [show off + i * 2 + 1 = off + (i * 2 + 1) by omega, h1]; simpa using he⟩

/-- The pair that came in. -/
theorem open_pair {H : Type} {enc : TypeId × Value → H} {W : World} {r : Reach} {b0 : Nat} {v : Value} {d : DataW H} {p : List MemPlace} (hv : Value.okWide Yba.prog W r b0 24 v)
    (h : DataW.Trod enc Yba.prog W 0 (fun _ => true) true 24 v d p) : ∃ s e : Int, v = .agg #[.int .u8 s, .int .u8 e] := by
  obtain ⟨cs, rfl, hsz⟩ := okWide_struct Yba.underlying24 hv
  rw [cells24] at hsz
  obtain ⟨fuel, hf⟩ := h
  obtain ⟨y0, y1, k, _, _, t0, t1⟩ := trod_struct2 Yba.underlying24 hf
  obtain ⟨s, hs, _, _⟩ := DataW.trod_int Yba.underlying5 t0
  obtain ⟨e, he, _, _⟩ := DataW.trod_int Yba.underlying5 t1
  obtain ⟨l⟩ := cs
  obtain _ | ⟨x, _ | ⟨y, _ | ⟨z, l⟩⟩⟩ := l
  · simp at hsz
  · simp at hsz
  · simp [Value.cells, cells5] at hs he
    subst hs he
    exact ⟨s, e, rfl⟩
  · simp at hsz

set_option maxRecDepth 100000 in
theorem send_lifted (os : Os) (started : os.Started) (H : Type) (enc : TypeId × Value → H) :
    ReturnsInHanded {} Yba.checked os 3 .any (Rows.lawS1659BSendSpec.pre6 enc Yba.prog Yba.f3 Rows.lawS1659BSendRow.domain false) (Rows.lawS1659BSendSpec.post enc Yba.prog Yba.f3 false true false false) := by
  refine returnsInHanded_of_change (C := Yba.checked) ownS started (by kernel_rfl) Yba.func3
    (ChangeSpec.witness6 (enc := enc) (C := Yba.checked) false ⟨#[], #[.slice none 0 0, .agg #[.int .u8 0, .int .u8 0], .bool false, .int .u8 0], []⟩ 8 (by kernel_rfl) (by kernel_rfl) (by kernel_rfl) (by kernel_rfl)) ?_
  intro W base args ds gs before hval0 hW hcnd _
  have hval : ∀ (j : Nat) t v, Yba.f3.params[j]? = some t → args[j]? = some v → Value.okWide Yba.prog W .any base t v := hval0
  have hW' := hW
  obtain ⟨p, q, hA0, hV, rfl, hfz, hnd⟩ := hW
  have hA : DataW.TrodAll enc Yba.prog W 0 (fun _ => true) true Yba.f3.params.toList args.toList ds p := hA0
  rw [Yba.params3] at hA hval
  obtain ⟨v0, vs0, d0, ds0, p0, q0, hargs, rfl, rfl, h0, r0⟩ := trodAll_cons hA
  obtain ⟨v1, vs1, d1, ds1, p1, q1, rfl, rfl, rfl, h1, r1⟩ := trodAll_cons r0
  obtain ⟨v2, vs2, d2, ds2, p2, q2, rfl, rfl, rfl, h2, r2⟩ := trodAll_cons r1
  obtain ⟨v3, vs3, d3, ds3, p3, q3, rfl, rfl, rfl, h3, r3⟩ := trodAll_cons r2
  obtain ⟨rfl, rfl, rfl⟩ := trodAll_nil r3
  obtain rfl : args = #[v0, v1, v2, v3] := by cases args; simp_all
  obtain ⟨rfl, rfl⟩ := trodVars_none hV
  obtain ⟨a0, len0, cap0, rfl⟩ := okWide_slice Yba.underlying22 (hval 0 22 v0 rfl rfl)
  have lt0 : ∀ x ∈ p0, x.block < W.heap.size := by obtain ⟨m, hm⟩ := h0; exact DataW.trod_lt m _ _ _ hm
  have w0 := open_pairs h0
  obtain ⟨s, e, rfl⟩ := open_pair (hval 1 24 v1 rfl rfl) h1
  have lt1 : ∀ x ∈ p1, x.block < W.heap.size := by obtain ⟨m, hm⟩ := h1; exact DataW.trod_lt m _ _ _ hm
  obtain ⟨lh, rfl⟩ := okWide_bool Yba.underlying4 (hval 2 4 v2 rfl rfl)
  have lt2 : ∀ x ∈ p2, x.block < W.heap.size := by obtain ⟨m, hm⟩ := h2; exact DataW.trod_lt m _ _ _ hm
  obtain ⟨a3, rfl, rfl, rfl, w3⟩ := open_int Yba.underlying5 (hval 3 5 v3 rfl rfl) h3
  clear hA0 hval0
  refine (law3 a0 len0 cap0 s e a3 lh W w0).mono fun x W' ⟨he, bel⟩ => ?_
  subst he
  exact ⟨_, rfl, _, _, _, [], _, [], hW', trodAll_mk1 (shut_bool Yba.underlying4 _), (trodAll_cons_mk (Below.trod laidOutS (by kernel_rfl) (of_decide_eq_true (by kernel_rfl)) h0 bel lt0) (trodAll_cons_mk (Below.trod laidOutS (by kernel_rfl) (of_decide_eq_true (by kernel_rfl)) h1 bel lt1) (trodAll_cons_mk (Below.trod laidOutS (by kernel_rfl) (of_decide_eq_true (by kernel_rfl)) h2 bel lt2) (trodAll_cons_mk (shut_int Yba.underlying5 w3) trodAll_mk0)))), rfl, bel.frame _, fun h => by cases h⟩

theorem send_over : Rows.lawS1659BSendRow.holds Yba.pinned (OpenSpec.ofChange Rows.lawS1659BSendSpec) :=
  OpenClaim.holds_of_wide 3 Yba.f3 rfl rfl rfl rfl rfl rfl rfl ⟨rfl, rfl, rfl, rfl, rfl⟩ rfl rfl rfl rfl rfl (by kernel_rfl) Yba.func3 (by kernel_rfl)
    (of_decide_eq_true (by kernel_rfl)) (by unfold Func.isWrapper; first | (rw [if_pos (by decide +kernel)]; kernel_rfl) | (rw [if_neg (by decide +kernel)]; exact ⟨rfl, rfl⟩))
    (fun os started H enc _ => send_lifted os started H enc)

/-- THE STATEMENT. -/
theorem send_proved : Rows.LawS1659BSendSaid := send_over
end Go.Proofs.Ybulkahii
