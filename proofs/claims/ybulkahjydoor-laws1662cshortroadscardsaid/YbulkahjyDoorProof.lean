/-
  LawS1662CShortRoads: the row and the tied card.
-/
import Derived.Test.YbulkahjyDoorWalk
import Derived.Test.YbulkahjyDoorTie
import Derived.Test.YbulkahjyDoorCards
import Derived.ChangeSame
import Derived.ChangeVars
import Derived.JoinedOf
import Derived.ProofKit
import Derived.OpenShut
import Derived.WalkSmall
import Derived.LaidLaws
import Derived.Stop.Joined
import Derived.SevenTiedAt
namespace Go.Proofs.YbulkahjyDoor
open Go.ChangeShapes Go.WideShapes Go.ChangeAt Go.RowKit

theorem ownD : ownKnob Ybad.prog.godebug = none := by kernel_rfl
theorem laidOutD : laidOutB Ybad.prog = true := by kernel_rfl

/-- The listed variable's name, as the given row has it. -/
def modesName : String := Rows.lawS1662CShortRoadsSpec.vars.headD ""
theorem modesG : Ybad.prog.globalNamed modesName = some 0 := by kernel_rfl
def modesCells : Array Value := #[.string ⟨#[]⟩, .int .u8 0, .int .i64 0, .string ⟨#[115, 104, 97, 114, 101, 100]⟩, .int .u8 4, .int .i64 1, .string ⟨#[101, 120, 99, 108, 117, 115, 105, 118, 101]⟩, .int .u8 6, .int .i64 0]

theorem law_walk (aw : Int) (hn : Bool) (d x : Int) (w : World) (hd : d ≤ 9223372036854775807) :
    Calls Ybad.prog 3 #[.int .i32 aw, .bool hn, .int .i64 d, .int .u64 x] w fun e w' => e = .returned (.bool true) ∧ Below w.heap.size w w' := by
  cases hn with
  | true =>
    by_cases h : d ≤ 0
    · exact next_low aw d x w h
    · exact next_high aw d x w (by omega) hd
  | false =>
    by_cases ha : 0 < aw
    · by_cases h : d ≤ 0
      · exact held_low aw d x w ha h
      · exact held_high aw d x w ha (by omega) hd
    · exact none_walk aw d x w ha

/-- A world that meets the condition. -/
def laidHeap (h : Array Obj) : Array Obj := h.modify 0 fun
  | .cells _ t frozen => .cells modesCells t frozen
  | o => o
theorem laid_row (os : Os) (args : Array Value) : (({ World.holding Ybad.prog os ⟨#[], #[], []⟩ with heap := laidHeap (World.holding Ybad.prog os ⟨#[], #[], []⟩).heap } : World).forCall (fun _ _ => 0) ⟨#[], args, []⟩).memory.heap[0]? = some (.cells modesCells 106 (0, 0)) := by kernel_rfl

set_option maxRecDepth 100000 in
theorem laid_met (os : Os) (args : Array Value) : laidMetH Ybad.prog Rows.lawS1662CShortRoadsRow.laid (({ World.holding Ybad.prog os ⟨#[], #[], []⟩ with heap := laidHeap (World.holding Ybad.prog os ⟨#[], #[], []⟩).heap } : World).forCall (fun _ _ => 0) ⟨#[], args, []⟩).memory := by
  show laidMet Ybad.prog Rows.lawS1662CShortRoadsRow.laid _
  refine ⟨_, ⟨0, 106, modesCells, 8, [], [], by kernel_rfl, by kernel_rfl, by kernel_rfl, by kernel_rfl, rfl, rfl⟩, by decide, fun b off h => ?_⟩
  have h' : MemPlace.cell b off ∈ [MemPlace.cell 0 0, .cell 0 1, .cell 0 2, .cell 0 3, .cell 0 4, .cell 0 5, .cell 0 6, .cell 0 7, .cell 0 8] := h
  have hb : b = 0 := by
    simp at h'
    omega
  subst hb
  refine ⟨⟨_, _, laid_row os args⟩, fun u v hc => ?_⟩
  simp only [World.cell?, laid_row os args] at hc
  simp at h'
  rcases h' with rfl | rfl | rfl | rfl | rfl | rfl | rfl | rfl | rfl <;> simp [modesCells] at hc

set_option maxRecDepth 100000 in
theorem lifted (os : Os) (started : os.Started) (H : Type) (enc : TypeId × Value → H) :
    ReturnsInHanded {} Ybad.checked os 3 .any (fun w args => (Rows.lawS1662CShortRoadsSpec.pre enc Ybad.prog Ybad.f3 [] false w args ∧ laidMetH Ybad.prog Rows.lawS1662CShortRoadsRow.laid w) ∧ sizedMet enc Ybad.prog Ybad.f3 (OpenSpec.ofChange Rows.lawS1662CShortRoadsSpec) false w args)
      (Rows.lawS1662CShortRoadsSpec.post enc Ybad.prog Ybad.f3 false true false false) := by
  refine returnsInHanded_of_change_and (C := Ybad.checked) (X := fun w _ => laidMetH Ybad.prog Rows.lawS1662CShortRoadsRow.laid w) (fun _ _ _ hh h => h.of_heap hh) ownD started (by kernel_rfl) Ybad.func3
    (ChangeSpec.witness_at (enc := enc) (C := Ybad.checked) (os := os) (X := fun w _ => laidMetH Ybad.prog Rows.lawS1662CShortRoadsRow.laid w) false { World.holding Ybad.prog os ⟨#[], #[], []⟩ with heap := laidHeap (World.holding Ybad.prog os ⟨#[], #[], []⟩).heap }
      #[.int .i32 0, .bool false, .int .i64 0, .int .u64 0] 8 rfl (by kernel_rfl) (by kernel_rfl) (by kernel_rfl) (by kernel_rfl) (by kernel_rfl) (laid_met os _)) ?_
  intro W base args ds gs before hval0 hW _ _ _ _
  have hval : ∀ (j : Nat) t v, Ybad.f3.params[j]? = some t → args[j]? = some v → Value.okWide Ybad.prog W .any base t v := hval0
  have hW' := hW
  obtain ⟨p, q, hA0, hV0, rfl, hfz, hnd⟩ := hW
  have hA : DataW.TrodAll enc Ybad.prog W 0 (fun _ => true) true Ybad.f3.params.toList args.toList ds p := hA0
  have hV : DataW.TrodVars enc Ybad.prog W (fun _ => true) [modesName] gs q := hV0
  rw [Ybad.params3] at hA hval
  obtain ⟨v0, v1, v2, v3, d0, d1, d2, d3, p0, p1, p2, p3, rfl, rfl, rfl, h0, h1, h2, h3⟩ := trodAll_four hA
  obtain ⟨aw, rfl, rfl, rfl, w0⟩ := open_int Ybad.underlying21 (hval 0 21 v0 rfl rfl) h0
  obtain ⟨hn, rfl, rfl, rfl⟩ := open_bool Ybad.underlying4 (hval 1 4 v1 rfl rfl) h1
  obtain ⟨d, rfl, rfl, rfl, w2⟩ := open_int Ybad.underlying3 (hval 2 3 v2 rfl rfl) h2
  obtain ⟨x, rfl, rfl, rfl, w3⟩ := open_int Ybad.underlying22 (hval 3 22 v3 rfl rfl) h3
  obtain ⟨g, t, cs, fuel, gd, p', rfl, hg, ht, hvar, hd, rfl⟩ := trodVars_one hV
  obtain rfl := Option.some.inj (modesG.symm.trans hg)
  obtain rfl : (106 : TypeId) = t := Option.some.inj ((show (Ybad.prog.globals[0]?).map (·.type) = some 106 from by kernel_rfl).symm.trans ht)
  have hlt : ∀ y ∈ p', y.block < W.heap.size := DataW.trod_lt fuel _ _ _ hd
  have hg0 : 0 < W.heap.size := by
    have := hvar
    unfold World.var? at this
    simp only [modesG, Option.bind_some] at this
    by_cases h : 0 < W.heap.size
    · exact h
    · rw [Array.getElem?_eq_none (by omega)] at this
      simp at this
  clear hA0 hval0 hV0
  refine (law_walk aw hn d x W (bounds_i64 w2).2).mono fun e W' ⟨he, bel⟩ => ?_
  subst he
  obtain ⟨fuel', hd'⟩ := Below.trod (v := .agg cs) laidOutD (by kernel_rfl) (of_decide_eq_true (by kernel_rfl)) ⟨fuel, hd⟩ bel hlt
  exact ⟨_, rfl, _, _, _, [], _, _, hW', trodAll_mk1 (shut_bool Ybad.underlying4 _), (trodAll_cons_mk (shut_int Ybad.underlying21 w0) (trodAll_cons_mk (shut_bool Ybad.underlying4 _) (trodAll_cons_mk (shut_int Ybad.underlying3 w2) (trodAll_cons_mk (shut_int Ybad.underlying22 w3) trodAll_mk0)))),
    ⟨0, 106, cs, fuel', p', [], modesG, ht, var?_below bel modesG hg0 hvar, hd', rfl, rfl⟩, bel.frame _, fun h => by cases h⟩

theorem row_holds : Rows.LawS1662CShortRoadsSaid :=
  OpenClaim.holds_of_wide 3 Ybad.f3 rfl rfl rfl rfl rfl rfl rfl ⟨rfl, rfl, rfl, rfl, rfl⟩ rfl rfl rfl rfl rfl (by kernel_rfl) Ybad.func3 (by kernel_rfl)
    (of_decide_eq_true (by kernel_rfl)) (by unfold Func.isWrapper; first | (rw [if_pos (by decide +kernel)]; kernel_rfl) | (rw [if_neg (by decide +kernel)]; exact ⟨rfl, rfl⟩))
    (fun os started H enc _ => lifted os started H enc)

theorem shortRoads_proved : Rows.LawS1662CShortRoadsCardSaid :=
  Claim7.holds_tied_plain_at .later [] [.wider] true _ false
    row_holds (fun _ h => by cases h) (by kernel_rfl) (fun _ h => by cases h) lawS1662CShortRoads_row_tie rfl ⟨rfl, rfl⟩ (by kernel_rfl) rfl
    (fun f fn hf hfn => by
      obtain rfl : f = 3 := Option.some.inj ((show Ybad.prog.funcNamed Rows.lawS1662CShortRoadsRow.func = some 3 by kernel_rfl).symm.trans hf) |>.symm
      obtain rfl : fn = Ybad.f3 := (Option.some.inj (Ybad.func3.symm.trans hfn)).symm
      refine ⟨by kernel_rfl, fun j t ht => ?_⟩
      have hall : ∀ t ∈ Ybad.f3.params.toList, Ybad.prog.wantsStandIn t = false := by
        rw [Ybad.params3]
        intro t ht
        simp only [List.mem_cons, List.not_mem_nil, or_false] at ht
        rcases ht with rfl | rfl | rfl | rfl <;> kernel_rfl
      exact hall t (by
        have := Array.mem_of_getElem? ht
        simpa using this))
    (by kernel_rfl)
end Go.Proofs.YbulkahjyDoor
