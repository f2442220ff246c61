/-
  LawS1659COneByte: the card.
-/
import Derived.Test.YbulkahiiFmtOneByteWalk
import Derived.Test.YbulkahiiFmtMatchProof
import Derived.Carry
namespace Go.Proofs.YbulkahiiFmt
open Go.ChangeShapes Go.WideShapes Go.ChangeAt Go.RowKit Go.Kit
open Go.ChangeMaps (open_string shut_string)
open Go.Extern.Stop Go.Stop Go.Extern

set_option maxRecDepth 100000 in
theorem oneByte_lifted (os : Os) (started : os.Started) (H : Type) (enc : TypeId × Value → H) :
    ReturnsInTold none {} Ybaf.checked os 5 .any Input.okWide ((OpenSpec.ofChange Rows.lawS1659COneByteSpec).preRow enc Ybaf.prog Ybaf.f5 [] false [])
      (fun F => ((OpenSpec.ofChange Rows.lawS1659COneByteSpec).at F).post enc Ybaf.prog Ybaf.f5 false true false false) (aloneAtReturn Ybaf.prog) nothingAlways := by
  refine returnsInTold_of_row (C := Ybaf.checked) (s := OpenSpec.ofChange Rows.lawS1659COneByteSpec) (by kernel_rfl) ownY started (by kernel_rfl) Ybaf.func5
    (OpenSpec.witness_stopped (enc := enc) (C := Ybaf.checked) false ⟨#[], #[.agg (Array.replicate 20 (.int .u8 0)), .int .u8 0, .int .u8 0, .string ⟨#[]⟩], []⟩ 8 (by kernel_rfl) (by kernel_rfl) (by kernel_rfl) (by kernel_rfl)) ?_
  intro F W base args ds gs before _ hF hval0 hW _ _ _ _ _
  have hval : ∀ (j : Nat) t v, Ybaf.f5.params[j]? = some t → args[j]? = some v → Value.okWide Ybaf.prog W .any base t v := hval0
  have hW' := hW
  obtain ⟨p, q, hA0, hV, rfl, _, _⟩ := hW
  have hA : DataW.TrodAll enc Ybaf.prog W 0 (fun _ => true) true Ybaf.f5.params.toList args.toList ds p := hA0
  rw [Ybaf.params5] at hA hval
  obtain ⟨v0, v1, v2, v3, d0, d1, d2, d3, p0, p1, p2, p3, rfl, rfl, rfl, h0, h1, h2, h3⟩ := trodAll_four hA
  obtain ⟨rfl, rfl⟩ := trodVars_none hV
  have k0 := h0
  have lt0 : ∀ x ∈ p0, x.block < W.heap.size := by obtain ⟨m, hm⟩ := k0; exact DataW.trod_lt m _ _ _ hm
  obtain ⟨A, xs, rfl, iA⟩ := open_id (hval 0 22 v0 rfl rfl) h0
  obtain ⟨k, rfl, rfl, rfl, wk⟩ := open_int Ybaf.underlying5 (hval 1 5 v1 rfl rfl) h1
  obtain ⟨d, rfl, rfl, rfl, wd⟩ := open_int Ybaf.underlying5 (hval 2 5 v2 rfl rfl) h2
  obtain ⟨s, rfl, rfl, rfl, hs⟩ := open_string Ybaf.underlying9 (hval 3 9 v3 rfl rfl) h3
  clear hA0 hval0
  have bk := bounds_u8 wk
  have bd := bounds_u8 wd
  refine (oneByte_walk F.told A xs k d s W hF iA bk.1 bk.2 bd.1 bd.2).mono fun e W' ⟨he, bel⟩ => ?_
  subst he
  exact ⟨_, rfl, _, _, _, [], _, [], hW', trodAll_mk1 (shut_bool Ybaf.underlying4 _), (trodAll_cons_mk (Below.trod laidOutY (by kernel_rfl) (of_decide_eq_true (by kernel_rfl)) k0 bel lt0) (trodAll_cons_mk (shut_int Ybaf.underlying5 wk) (trodAll_cons_mk (shut_int Ybaf.underlying5 wd) (trodAll_cons_mk (shut_string Ybaf.underlying9 hs) trodAll_mk0)))), rfl, bel.frame _, fun h => by cases h⟩

theorem stopsY5 : Rows.lawS1659COneByteRow.stops = Ybaf.pinned.checked.prog.stops := by kernel_rfl

theorem oneByte_proved : Rows.LawS1659COneByteToldSaid :=
  Claim7.holds_of_told_any 5 Ybaf.f5 _ [] [] _ _ _ (by kernel_rfl) rfl rfl rfl laidOutY (by kernel_rfl) rfl ⟨rfl, rfl, rfl, rfl, rfl, rfl, rfl⟩ rfl rfl (by kernel_rfl) (by kernel_rfl) Ybaf.func5 (by kernel_rfl)
    (of_decide_eq_true (by kernel_rfl)) (of_decide_eq_true (by kernel_rfl)) stopsY5 rfl stopKnobsY.symm (by kernel_rfl)
    (by kernel_rfl) (by kernel_rfl) (by kernel_rfl) (by kernel_rfl) (by kernel_rfl) (by kernel_rfl) (by kernel_rfl) (by kernel_rfl) (by kernel_rfl) rfl (by kernel_rfl) rfl rfl
    rfl rfl
    rfl (by kernel_rfl) (by kernel_rfl) (by kernel_rfl) (by decide) (by kernel_rfl)
    (OpenClaim.moreEntering_of (by kernel_rfl) (by kernel_rfl) (by kernel_rfl) (by kernel_rfl) (by kernel_rfl) (by kernel_rfl) (by kernel_rfl) (by kernel_rfl) (by kernel_rfl) (by kernel_rfl))
    ⟨_, WideRow.started_initial, quietY _⟩
    (fun os started _ H enc _ => oneByte_lifted os started H enc)

end Go.Proofs.YbulkahiiFmt
