/-
  (*search[int]).walk with no step to go: one empty walk.
-/
import Derived.Test.YbulkahjyDoorRows
import Derived.WalkKit
import Derived.WalkSpells
import Derived.WalkLawsBesides
import Derived.Below
import Derived.LaidEqlPtr
import Derived.Lib.SliceRun
import Derived.OwnWalk
namespace Go.Proofs.YbulkahjyDoor
open Go.RowKit

theorem info29 : (Ybad.prog.info? 29).map (fun i => (i.zero, i.size, i.bytes)) = some (some (.pointer none), 1, 8) := by kernel_rfl
theorem zero29 (w : World) : (zeroValue 29).run Ybad.prog w = .ok (.pointer none) w := by kernel_rfl

/-- What the walk leaves: one more walk counted, an empty queue; all that was there else is as it was. -/
structure Walked (S : Nat) (x : Int) (w w' : World) : Prop where
  below : Below S w w'
  count : w'.cell? ⟨S, 0, none⟩ = some (.int .u64 x)
  queue : ∃ a c, w'.cell? ⟨S, 2, none⟩ = some (.slice a 0 c)
  other : ∀ b o, b < w.heap.size → b ≠ S → w'.cell? ⟨b, o, none⟩ = w.cell? ⟨b, o, none⟩

set_option maxRecDepth 100000 in
set_option maxHeartbeats 1600000 in
theorem walk10 (S T : Nat) (f1 f2 : Value) (d x : Int) (w : World) (hd : d ≤ 0) (hST : S < w.heap.size)
    (hc0 : w.cell? ⟨S, 0, none⟩ = some (.int .u64 x)) (hf0 : w.frozen? ⟨S, 0, none⟩ = false) (hc2 : w.cell? ⟨S, 2, none⟩ = some (.slice none 0 0)) (hf2 : w.frozen? ⟨S, 2, none⟩ = false) :
    Calls Ybad.prog 10 #[.pointer (some ⟨S, 0, none⟩), .pointer (some ⟨T, 0, none⟩), f1, .int .i64 d, f2] w fun e w' => e = .returned (.tuple #[]) ∧ Walked S (IntKind.u64.wrap (x + 1)) w w' := by
  obtain ⟨i0, hi, hz0, hz1, hz2⟩ := info_parts info29
  have hd1 : ¬ (1 : Int) ≤ d := by omega
  have hdd : decide ((1 : Int) ≤ d) = false := by simp; omega
  go_enter Ybad.func10, Ybad.ntmps10
  go_wp2_with (at_builtin; refine wpList_append_own _ rfl _ _ 74 rfl w.heap.size 29 i0 (.pointer none) 1 8 Ybad.underlying74 hi hz0 hz1 hz2 rfl (by decide) (.slice none 0 0) 0 [] rfl (World.ownsRow_nil _ _ _ _) ⟨w.heap.size, 0, none⟩ 1 1 [.pointer (some ⟨T, 0, none⟩)] rfl rfl ?c1 ?c2 (by unfold maxLen; omega) (by omega) (by simp) ?_)
  case c2 => first | rfl | (intro u hu; simp at hu; subst hu; rfl)
  intro v' w1 hown hgrow hne
  have hex : ∃ g cap, v' = .slice (some ⟨g, 0, none⟩) 1 cap ∧ w.heap.size ≤ g ∧ w1.cell? ⟨g, 0, none⟩ = some (.pointer (some ⟨T, 0, none⟩)) ∧ w1.frozen? ⟨g, 0, none⟩ = false := by
    obtain ⟨_, ⟨_, h⟩ | ⟨g, cap, cur, hv, hgb, hh, h1, h2, h3, h4⟩⟩ := hown
    · omega
    · refine ⟨g, cap, hv, hgb, ?_, ?_⟩
      · have h5 : cur[0]? = some (.pointer (some ⟨T, 0, none⟩)) := by
          have := congrArg (·[0]?) h4
          simpa using this
        simpa [World.cell?, hh] using h5
      · simp [World.frozen?, hh]
  obtain ⟨g, cap, hv, hgb, hgc, hgf⟩ := hex
  rw [hv]
  clear hne
  have hbl : ∀ k, k < w.heap.size → w1.heap[k]? = (w.setCell ⟨S, 0, none⟩ (.int .u64 (IntKind.u64.wrap (x + 1)))).heap[k]? := fun k hk => by
    rw [hgrow.block k (by simp; omega) (by simp [Value.ownBlock]), Below.heap_alloc _ _ _ (by simpa using hk)]
  have hs0 : w1.cell? ⟨S, 0, none⟩ = some (.int .u64 (IntKind.u64.wrap (x + 1))) := by
    rw [World.cell?_of_block (hbl S hST), World.cell?_setCell_same _ _ _ hc0]
  have hs2 : w1.cell? ⟨S, 2, none⟩ = some (.slice none 0 0) := by
    rw [World.cell?_of_block (hbl S hST), World.cell?_setCell_other _ _ _ _ (by simp)]; exact hc2
  have hz2' : w1.frozen? ⟨S, 2, none⟩ = false := by
    rw [World.frozen?_of_block (hbl S hST)]; simpa using hf2
  have hkb : ∀ k, k < S → w1.heap[k]? = w.heap[k]? := fun k hk => by
    rw [hbl k (by omega), Below.heap_setCell _ _ _ _ (show k ≠ S by omega)]
  have HB : Hid (Below S w w1) := ⟨hgrow.os, hgrow.tape, hgrow.output, Nat.le_trans (by simp) hgrow.size, hkb⟩
  have HO : Hid (∀ b o, b < w.heap.size → b ≠ S → w1.cell? ⟨b, o, none⟩ = w.cell? ⟨b, o, none⟩) := fun b o hb hne => by
    rw [World.cell?_of_block (hbl b hb), World.cell?_setCell_other _ _ _ _ (fun h => hne (congrArg Addr.block h).symm)]
  have hgi : ∀ j, j < 1 → (w1.cell? ⟨g, 0 + j, none⟩).isSome = true := fun j hj => by
    obtain rfl : j = 0 := by omega
    rw [Nat.add_zero, hgc]; rfl
  have hgj : ∀ j, j < 1 → w1.frozen? ⟨g, 0 + j, none⟩ = false := fun j hj => by
    obtain rfl : j = 0 := by omega
    rw [Nat.add_zero]; exact hgf
  have hcl : ∀ ty, (Builtin.clear_ #[74] ty #[.slice (some ⟨g, 0, none⟩) 1 cap]).run Ybad.prog w1 = .ok (.tuple #[]) (w1.setCell ⟨g, 0, none⟩ (.pointer none)) := fun ty =>
    Lib.run_clear_slice w1 74 29 ty (.pointer none) Ybad.underlying74 zero29 rfl rfl g 0 1 cap (by omega) hgi hgj
  have hSg : S < g := by omega
  clear hkb hgi hgj hbl hown hgrow hi hz0 hz1 hz2 hc0 hf0 hc2 hf2
  go_wp2
  refine wp_loop_rounds 1 ?_
  rw [rounds_succ]
  go_wp2_with (simp only [hcl])
  go_end0
  have hsg : (⟨g, 0, none⟩ : Addr) ≠ ⟨S, 0, none⟩ := fun h => by have := congrArg Addr.block h; simp at this; omega
  have hsg2 : (⟨g, 0, none⟩ : Addr) ≠ ⟨S, 2, none⟩ := fun h => by have := congrArg Addr.block h; simp at this; omega
  refine ⟨rfl, (HB.out.setCell (p := ⟨g, 0, none⟩) (Nat.le_of_lt hSg) _).setCell (p := ⟨S, 2, none⟩) (Nat.le_refl S) _, ?_, ⟨some ⟨g, 0, none⟩, cap, ?_⟩, fun b o hb hne => ?_⟩
  · rw [World.cell?_setCell_other _ _ _ _ (by simp), World.cell?_setCell_other _ _ _ _ hsg]; exact hs0
  · exact World.cell?_setCell_same _ _ _ (u := .slice none 0 0) (by rw [World.cell?_setCell_other _ _ _ _ hsg2]; exact hs2)
  · rw [World.cell?_setCell_other _ _ _ _ (fun h => hne (congrArg Addr.block h).symm), World.cell?_setCell_other _ _ _ _ (fun h => by have := congrArg Addr.block h; simp at this; omega)]
    exact HO.out b o hb hne
end Go.Proofs.YbulkahjyDoor
