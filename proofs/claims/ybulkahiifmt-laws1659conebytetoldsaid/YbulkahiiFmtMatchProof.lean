/-
  LawS1659CMatch: the card.
-/
import Derived.Test.YbulkahiiFmtMatchWalk
import Derived.Test.YbulkahiiFmtCards
import Derived.ProofKit
import Derived.OpenShut
import Derived.ChangeSame
import Derived.Stop.JoinedAt
import Derived.Stop.Texts
import Derived.Stop.JoinedTold
import Derived.SevenToldRow
namespace Go.Proofs.YbulkahiiFmt
open Go.ChangeShapes Go.WideShapes Go.ChangeAt Go.RowKit Go.Kit
open Go.ChangeMaps (open_string shut_string)
open Go.Extern.Stop Go.Stop Go.Extern

theorem ownY : ownKnob Ybaf.prog.godebug = none := by kernel_rfl
theorem laidOutY : laidOutB Ybaf.pinned.checked.prog = true := by kernel_rfl
theorem cells22 : Ybaf.prog.cellsOf 22 = 20 := by kernel_rfl
theorem cells5 : Ybaf.prog.cellsOf 5 = 1 := by kernel_rfl

/-- An array of 20 bytes that came in. -/
theorem open_id {H : Type} {enc : TypeId × Value → H} {W : World} {base b : Nat} {v : Value} {d : DataW H} {p : List MemPlace}
    (hv : Value.okWide Ybaf.prog W .any base 22 v) (h : DataW.Trod enc Ybaf.prog W b (fun _ => true) true 22 v d p) : ∃ A xs, v = .agg A ∧ IsId A xs := by
  obtain ⟨A, rfl, hsz, _⟩ : ∃ cs, v = .agg cs ∧ cs.size = Ybaf.prog.cellsOf 22 ∧ Row.okWide Ybaf.prog W .any base 22 cs := by
    simpa [Value.okWide, Ybaf.underlying22] using hv
  rw [cells22] at hsz
  obtain ⟨fuel, hf⟩ := h
  obtain ⟨ys, m, _, _, _, hl, hi⟩ := DataW.trod_array Ybaf.underlying22 hf
  have each : ∀ i, i < 20 → ∃ n, A[i]? = some (.int .u8 n) ∧ 0 ≤ n ∧ n < 256 := fun i h => by
    have h1 := hi i h
    rw [cells5, Nat.mul_one, List.getElem?_eq_getElem (by omega)] at h1
    obtain ⟨n, e, _, wn⟩ := DataW.trod_int Ybaf.underlying5 h1
    have e2 : A.toList[i]? = some (.int .u8 n) := by
      have := congrArg (·[0]?) e
      simpa [Value.cells] using this
    have := bounds_u8 wn
    exact ⟨n, by simpa using e2, by omega, by omega⟩
  refine ⟨A, A.toList.map intOf, rfl, ?_, by simpa using hsz, ?_⟩
  · apply Array.ext_getElem?
    intro i
    by_cases h : i < 20
    · obtain ⟨n, hn, _⟩ := each i h
      simp [hn, intOf]
    · rw [Array.getElem?_eq_none (by omega), Array.getElem?_eq_none (by simp; omega)]
  · intro i h
    obtain ⟨n, hn, h0, h1⟩ := each i h
    simp [List.getD, hn, intOf]
    omega

set_option maxRecDepth 100000 in
theorem match_lifted (os : Os) (started : os.Started) (H : Type) (enc : TypeId × Value → H) :
    ReturnsInTold none {} Ybaf.checked os 3 .any Input.okWide ((OpenSpec.ofChange Rows.lawS1659CMatchSpec).preRow enc Ybaf.prog Ybaf.f3 [] false [])
      (fun F => ((OpenSpec.ofChange Rows.lawS1659CMatchSpec).at F).post enc Ybaf.prog Ybaf.f3 false true false false) (aloneAtReturn Ybaf.prog) nothingAlways := by
  refine returnsInTold_of_row (C := Ybaf.checked) (s := OpenSpec.ofChange Rows.lawS1659CMatchSpec) (by kernel_rfl) ownY started (by kernel_rfl) Ybaf.func3
    (OpenSpec.witness_stopped (enc := enc) (C := Ybaf.checked) false ⟨#[], #[.agg (Array.replicate 20 (.int .u8 0)), .agg (Array.replicate 20 (.int .u8 0)), .string ⟨#[]⟩], []⟩ 8 (by kernel_rfl) (by kernel_rfl) (by kernel_rfl) (by kernel_rfl)) ?_
  intro F W base args ds gs before _ hF hval0 hW _ _ _ _ _
  have hval : ∀ (j : Nat) t v, Ybaf.f3.params[j]? = some t → args[j]? = some v → Value.okWide Ybaf.prog W .any base t v := hval0
  have hW' := hW
  obtain ⟨p, q, hA0, hV, rfl, _, _⟩ := hW
  have hA : DataW.TrodAll enc Ybaf.prog W 0 (fun _ => true) true Ybaf.f3.params.toList args.toList ds p := hA0
  rw [Ybaf.params3] at hA hval
  obtain ⟨v0, v1, v2, d0, d1, d2, p0, p1, p2, rfl, rfl, rfl, h0, h1, h2⟩ := trodAll_three hA
  obtain ⟨rfl, rfl⟩ := trodVars_none hV
  have k0 := h0
  have k1 := h1
  have lt0 : ∀ x ∈ p0, x.block < W.heap.size := by obtain ⟨m, hm⟩ := k0; exact DataW.trod_lt m _ _ _ hm
  have lt1 : ∀ x ∈ p1, x.block < W.heap.size := by obtain ⟨m, hm⟩ := k1; exact DataW.trod_lt m _ _ _ hm
  obtain ⟨A, xs, rfl, iA⟩ := open_id (hval 0 22 v0 rfl rfl) h0
  obtain ⟨B, ys, rfl, iB⟩ := open_id (hval 1 22 v1 rfl rfl) h1
  obtain ⟨s, rfl, rfl, rfl, hs⟩ := open_string Ybaf.underlying9 (hval 2 9 v2 rfl rfl) h2
  clear hA0 hval0
  refine (match_walk F.told A B xs ys s W hF iA iB).mono fun e W' ⟨he, bel⟩ => ?_
  subst he
  exact ⟨_, rfl, _, _, _, [], _, [], hW', trodAll_mk1 (shut_bool Ybaf.underlying4 _), (trodAll_cons_mk (Below.trod laidOutY (by kernel_rfl) (of_decide_eq_true (by kernel_rfl)) k0 bel lt0) (trodAll_cons_mk (Below.trod laidOutY (by kernel_rfl) (of_decide_eq_true (by kernel_rfl)) k1 bel lt1) (trodAll_cons_mk (shut_string Ybaf.underlying9 hs) trodAll_mk0))), rfl, bel.frame _, fun h => by cases h⟩

theorem stopsY : Rows.lawS1659CMatchRow.stops = Ybaf.pinned.checked.prog.stops := by kernel_rfl
theorem stopKnobsY : Ybaf.pinned.checked.prog.stopKnobs = [] := by kernel_rfl
theorem quietY (os : Os) : Stop.quiet Ybaf.pinned.checked.prog os := by
  intro k hk
  rw [stopKnobsY] at hk
  cases hk

theorem match_proved : Rows.LawS1659CMatchToldSaid :=
  Claim7.holds_of_told_any 3 Ybaf.f3 _ [] [] _ _ _ (by kernel_rfl) rfl rfl rfl laidOutY (by kernel_rfl) rfl ⟨rfl, rfl, rfl, rfl, rfl, rfl, rfl⟩ rfl rfl (by kernel_rfl) (by kernel_rfl) Ybaf.func3 (by kernel_rfl)
    (of_decide_eq_true (by kernel_rfl)) (of_decide_eq_true (by kernel_rfl)) stopsY rfl stopKnobsY.symm (by kernel_rfl)
    (by kernel_rfl) (by kernel_rfl) (by kernel_rfl) (by kernel_rfl) (by kernel_rfl) (by kernel_rfl) (by kernel_rfl) (by kernel_rfl) (by kernel_rfl) rfl (by kernel_rfl) rfl rfl
    rfl rfl
    rfl (by kernel_rfl) (by kernel_rfl) (by kernel_rfl) (by decide) (by kernel_rfl)
    (OpenClaim.moreEntering_of (by kernel_rfl) (by kernel_rfl) (by kernel_rfl) (by kernel_rfl) (by kernel_rfl) (by kernel_rfl) (by kernel_rfl) (by kernel_rfl) (by kernel_rfl) (by kernel_rfl))
    ⟨_, WideRow.started_initial, quietY _⟩
    (fun os started _ H enc _ => match_lifted os started H enc)

end Go.Proofs.YbulkahiiFmt
