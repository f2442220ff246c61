/-
  LawS1665AFields: the row.
-/
import Derived.Test.YbulkahloFieldsB
import Derived.ProofKit
import Derived.OpenShut
import Derived.ShutString
import Derived.ChangeOld
namespace Go.Proofs.Ybulkahlo
open Go.ChangeShapes Go.WideShapes Go.ChangeAt Go.RowKit Go.WideMaps Go.WideElems

theorem ownL : ownKnob Yba.prog.godebug = none := by kernel_rfl
theorem laidOutL : laidOutB Yba.prog = true := by kernel_rfl

theorem addr_add (b o j : Nat) : (⟨b, o, none⟩ : Addr).add j = ⟨b, o + j, none⟩ := by unfold Addr.add; split <;> simp_all

/-- A slice of uint64 that came in: empty, or at an address with its numbers there. -/
theorem open_u64s {H : Type} {enc : TypeId × Value → H} {W : World} {a : Option Addr} {n c : Nat} {d : DataW H} {p : List MemPlace}
    (h : DataW.Trod enc Yba.prog W 0 (fun _ => true) true 23 (.slice a n c) d p) :
    n = 0 ∨ ∃ b off, a = some ⟨b, off, none⟩ ∧ b < W.heap.size ∧ ∃ z : Nat → Int, ∀ j, j < n → W.cell? ⟨b, off + j, none⟩ = some (.int .u64 (z j)) ∧ (Lit.int .u64 (z j)).wf = true := by
  by_cases h0 : n = 0
  · exact .inl h0
  · obtain ⟨fuel, hf⟩ := h
    rcases open_ints Yba.underlying23 Yba.underlying22 (by kernel_rfl) hf with ⟨hcs, _⟩ | ⟨x, l, c', zs, hcs, _, hl, hm, hz, _, hcell, hwz⟩
    · simp [Value.cells] at hcs
      exact absurd hcs.2.1 h0
    · simp [Value.cells] at hcs
      obtain ⟨rfl, rfl, rfl⟩ := hcs
      have hz' : zs.length = c := by simpa using hz
      obtain ⟨b, off, spot⟩ := x
      have hc0 := hcell 0 (by omega)
      have hspot : spot = none := by simpa [Addr.add] using World.cell?_spot hc0
      subst hspot
      refine .inr ⟨b, off, rfl, by simpa [Addr.add] using World.block_lt_of_cell? W _ hc0, fun j => zs.getD j 0, fun j hj => ?_⟩
      have hj' : j < zs.length := by omega
      refine ⟨by rw [← addr_add]; exact hcell j hj', hwz (zs.getD j 0) (by simp [List.getD, hj'])⟩

theorem ok_of_open {a : Option Addr} {n : Nat} {W : World} {Q : Nat → Nat → Prop} (h : n = 0 ∨ ∃ b off, a = some ⟨b, off, none⟩ ∧ b < W.heap.size ∧ Q b off) : SliceOk a n := by
  rcases h with h | ⟨b, off, h, _⟩
  · exact .inl h
  · exact .inr ⟨b, off, h⟩

theorem len_of_map {H : Type} {enc : TypeId × Value → H} {W : World} {m : Option Nat} {d : DataW H} {p : List MemPlace} (h : DataW.Trod enc Yba.prog W 0 (fun _ => true) true 24 (.map m) d p) :
    ∃ L : Int, ∀ w' ty, Below W.heap.size W w' → (Builtin.len_ #[24] ty #[.map m]).run Yba.prog w' = .ok (.int .i64 L) w' := by
  cases m with
  | none => exact ⟨0, fun w' ty _ => by simp [Builtin.len_, run_underlying Yba.underlying24, goInt]⟩
  | some bm =>
    obtain ⟨fuel, hf⟩ := h
    rcases open_map Yba.underlying24 hf with ⟨hcs, _⟩ | ⟨bm', es, clock, nn, rfl, hcs, hb, _⟩
    · simp [Value.cells] at hcs
    · simp [Value.cells] at hcs
      subst hcs
      refine ⟨(es.size : Int), fun w' ty hbel => ?_⟩
      have hlt : bm < W.heap.size := (Array.getElem?_eq_some_iff.1 hb).1
      have hb' : w'.heap[bm]? = some (.map es clock) := by rw [hbel.block _ hlt]; exact hb
      simp [Builtin.len_, run_underlying Yba.underlying24, MapKept.run_getObj_map hb', goInt, Result.andThen]

set_option maxRecDepth 100000 in
theorem fields_long (term vote pi pt : Int) (hcf : Bool) (a5 a6 a7 : Option Addr) (n5 c5 n6 c6 n7 c7 : Nat) (m : Option Nat) (a9 : Option Addr) (n c9 : Nat) (w : World) (h : 1024 < n) :
    Calls Yba.prog 3 #[.int .u64 term, .int .u64 vote, .int .u64 pi, .int .u64 pt, .bool hcf, .slice a5 n5 c5, .slice a6 n6 c6, .slice a7 n7 c7, .map m, .slice a9 n c9] w
      fun e w' => e = .returned (.bool true) ∧ Below w.heap.size w w' := by
  have hz : (1024 : Int) < (n : Int) := by omega
  go_enter Yba.func3, Yba.ntmps3
  go_wp2
  go_ret
  exact ⟨rfl, Below.refl _ _⟩

theorem fields_walk (term vote pi pt : Int) (hcf : Bool) (a5 a6 a7 : Option Addr) (n5 c5 n6 c6 n7 c7 : Nat) (m : Option Nat) (a9 : Option Addr) (n c9 : Nat) (w : World) (h5 : SliceOk a5 n5) (h6 : SliceOk a6 n6) (h7 : SliceOk a7 n7)
    (hlen : ∃ L : Int, ∀ w' ty, Below w.heap.size w w' → (Builtin.len_ #[24] ty #[.map m]).run Yba.prog w' = .ok (.int .i64 L) w')
    (h9 : n = 0 ∨ ∃ b off, a9 = some ⟨b, off, none⟩ ∧ b < w.heap.size ∧ ∃ z : Nat → Int, ∀ j, j < n → w.cell? ⟨b, off + j, none⟩ = some (.int .u64 (z j)) ∧ (Lit.int .u64 (z j)).wf = true) :
    Calls Yba.prog 3 #[.int .u64 term, .int .u64 vote, .int .u64 pi, .int .u64 pt, .bool hcf, .slice a5 n5 c5, .slice a6 n6 c6, .slice a7 n7 c7, .map m, .slice a9 n c9] w
      fun e w' => e = .returned (.bool true) ∧ Below w.heap.size w w' := by
  by_cases hbig : 1024 < n
  · exact fields_long term vote pi pt hcf a5 a6 a7 n5 c5 n6 c6 n7 c7 m a9 n c9 w hbig
  · by_cases h0 : n = 0
    · subst h0
      cases hcf with
      | true => exact fields_true0 term vote pi pt a5 a6 a7 n5 c5 n6 c6 n7 c7 m a9 c9 w h5 h6 h7 hlen
      | false => exact fields_false0 term vote pi pt a5 a6 a7 n5 c5 n6 c6 n7 c7 m a9 c9 w
    · rcases h9 with h9 | ⟨b, off, rfl, hb, z, hz⟩
      · exact absurd h9 h0
      · cases hcf with
        | true => exact fields_true term vote pi pt a5 a6 a7 n5 c5 n6 c6 n7 c7 m b off n c9 z w (by omega) (by omega) hb (fun j hj => (hz j hj).1) h5 h6 h7 hlen
        | false => exact fields_false term vote pi pt a5 a6 a7 n5 c5 n6 c6 n7 c7 m b off n c9 z w (by omega) (by omega) hb (fun j hj => (hz j hj).1)

set_option maxRecDepth 100000 in
theorem fields_lifted (os : Os) (started : os.Started) (H : Type) (enc : TypeId × Value → H) :
    ReturnsInHanded {} Yba.checked os 3 .any (Rows.lawS1665AFieldsSpec.pre6 enc Yba.prog Yba.f3 Rows.lawS1665AFieldsRow.domain false) (Rows.lawS1665AFieldsSpec.post enc Yba.prog Yba.f3 false true false false) := by
  refine returnsInHanded_of_change (C := Yba.checked) ownL started (by kernel_rfl) Yba.func3
    (ChangeSpec.witness6 (enc := enc) (C := Yba.checked) false ⟨#[], #[.int .u64 0, .int .u64 0, .int .u64 0, .int .u64 0, .bool false, .slice none 0 0, .slice none 0 0, .slice none 0 0, .map none, .slice none 0 0], []⟩ 8 (by kernel_rfl) (by kernel_rfl) (by kernel_rfl) (by kernel_rfl)) ?_
  intro W base args ds gs before hval0 hW hcnd _
  have hval : ∀ (j : Nat) t v, Yba.f3.params[j]? = some t → args[j]? = some v → Value.okWide Yba.prog W .any base t v := hval0
  have hW' := hW
  obtain ⟨p, q, hA0, hV, rfl, hfz, hnd⟩ := hW
  have hA : DataW.TrodAll enc Yba.prog W 0 (fun _ => true) true Yba.f3.params.toList args.toList ds p := hA0
  rw [Yba.params3] at hA hval
  obtain ⟨v0, vs0, d0, ds0, p0, q0, hargs, rfl, rfl, h0, r0⟩ := trodAll_cons hA
  obtain ⟨v1, vs1, d1, ds1, p1, q1, rfl, rfl, rfl, h1, r1⟩ := trodAll_cons r0
  obtain ⟨v2, vs2, d2, ds2, p2, q2, rfl, rfl, rfl, h2, r2⟩ := trodAll_cons r1
  obtain ⟨v3, vs3, d3, ds3, p3, q3, rfl, rfl, rfl, h3, r3⟩ := trodAll_cons r2
  obtain ⟨v4, vs4, d4, ds4, p4, q4, rfl, rfl, rfl, h4, r4⟩ := trodAll_cons r3
  obtain ⟨v5, vs5, d5, ds5, p5, q5, rfl, rfl, rfl, h5, r5⟩ := trodAll_cons r4
  obtain ⟨v6, vs6, d6, ds6, p6, q6, rfl, rfl, rfl, h6, r6⟩ := trodAll_cons r5
  obtain ⟨v7, vs7, d7, ds7, p7, q7, rfl, rfl, rfl, h7, r7⟩ := trodAll_cons r6
  obtain ⟨v8, vs8, d8, ds8, p8, q8, rfl, rfl, rfl, h8, r8⟩ := trodAll_cons r7
  obtain ⟨v9, vs9, d9, ds9, p9, q9, rfl, rfl, rfl, h9, r9⟩ := trodAll_cons r8
  obtain ⟨rfl, rfl, rfl⟩ := trodAll_nil r9
  obtain rfl : args = #[v0, v1, v2, v3, v4, v5, v6, v7, v8, v9] := by cases args; simp_all
  obtain ⟨rfl, rfl⟩ := trodVars_none hV
  obtain ⟨x0, rfl, rfl, rfl, w0⟩ := open_int Yba.underlying22 (hval 0 22 v0 rfl rfl) h0
  obtain ⟨x1, rfl, rfl, rfl, w1⟩ := open_int Yba.underlying22 (hval 1 22 v1 rfl rfl) h1
  obtain ⟨x2, rfl, rfl, rfl, w2⟩ := open_int Yba.underlying22 (hval 2 22 v2 rfl rfl) h2
  obtain ⟨x3, rfl, rfl, rfl, w3⟩ := open_int Yba.underlying22 (hval 3 22 v3 rfl rfl) h3
  obtain ⟨x4, rfl, rfl, rfl⟩ := open_bool Yba.underlying4 (hval 4 4 v4 rfl rfl) h4
  obtain ⟨a5, n5, c5, rfl⟩ := okWide_slice Yba.underlying23 (hval 5 23 v5 rfl rfl)
  obtain ⟨a6, n6, c6, rfl⟩ := okWide_slice Yba.underlying23 (hval 6 23 v6 rfl rfl)
  obtain ⟨a7, n7, c7, rfl⟩ := okWide_slice Yba.underlying23 (hval 7 23 v7 rfl rfl)
  obtain ⟨m, rfl⟩ := okWide_map Yba.underlying24 (hval 8 24 v8 rfl rfl)
  obtain ⟨a9, n9, c9, rfl⟩ := okWide_slice Yba.underlying23 (hval 9 23 v9 rfl rfl)
  have lt5 : ∀ x ∈ p5, x.block < W.heap.size := by obtain ⟨m, hm⟩ := h5; exact DataW.trod_lt m _ _ _ hm
  have lt6 : ∀ x ∈ p6, x.block < W.heap.size := by obtain ⟨m, hm⟩ := h6; exact DataW.trod_lt m _ _ _ hm
  have lt7 : ∀ x ∈ p7, x.block < W.heap.size := by obtain ⟨m, hm⟩ := h7; exact DataW.trod_lt m _ _ _ hm
  have lt8 : ∀ x ∈ p8, x.block < W.heap.size := by obtain ⟨m, hm⟩ := h8; exact DataW.trod_lt m _ _ _ hm
  have lt9 : ∀ x ∈ p9, x.block < W.heap.size := by obtain ⟨m, hm⟩ := h9; exact DataW.trod_lt m _ _ _ hm
  clear hA0 hval0
  refine (fields_walk x0 x1 x2 x3 x4 a5 a6 a7 n5 c5 n6 c6 n7 c7 m a9 n9 c9 W (ok_of_open (open_u64s h5)) (ok_of_open (open_u64s h6)) (ok_of_open (open_u64s h7)) (len_of_map h8) (open_u64s h9)).mono fun e W' ⟨he, bel⟩ => ?_
  subst he
  exact ⟨_, rfl, _, _, _, [], _, [], hW', trodAll_mk1 (shut_bool Yba.underlying4 _),
    (trodAll_cons_mk (shut_int Yba.underlying22 w0) (trodAll_cons_mk (shut_int Yba.underlying22 w1) (trodAll_cons_mk (shut_int Yba.underlying22 w2) (trodAll_cons_mk (shut_int Yba.underlying22 w3) (trodAll_cons_mk (shut_bool Yba.underlying4 _)
      (trodAll_cons_mk (Below.trod laidOutL (by kernel_rfl) (of_decide_eq_true (by kernel_rfl)) h5 bel lt5) (trodAll_cons_mk (Below.trod laidOutL (by kernel_rfl) (of_decide_eq_true (by kernel_rfl)) h6 bel lt6) (trodAll_cons_mk (Below.trod laidOutL (by kernel_rfl) (of_decide_eq_true (by kernel_rfl)) h7 bel lt7)
      (trodAll_cons_mk (Below.trod laidOutL (by kernel_rfl) (of_decide_eq_true (by kernel_rfl)) h8 bel lt8) (trodAll_cons_mk (Below.trod laidOutL (by kernel_rfl) (of_decide_eq_true (by kernel_rfl)) h9 bel lt9) trodAll_mk0)))))))))), rfl, bel.frame _, fun h => by cases h⟩

theorem fields_proved : Rows.LawS1665AFieldsSaid :=
  OpenClaim.holds_of_wide 3 Yba.f3 rfl rfl rfl rfl rfl rfl rfl ⟨rfl, rfl, rfl, rfl, rfl⟩ rfl rfl rfl rfl rfl (by kernel_rfl) Yba.func3 (by kernel_rfl)
    (of_decide_eq_true (by kernel_rfl)) (by unfold Func.isWrapper; first | (rw [if_pos (by decide +kernel)]; kernel_rfl) | (rw [if_neg (by decide +kernel)]; exact ⟨rfl, rfl⟩))
    (fun os started H enc _ => fields_lifted os started H enc)
end Go.Proofs.Ybulkahlo
