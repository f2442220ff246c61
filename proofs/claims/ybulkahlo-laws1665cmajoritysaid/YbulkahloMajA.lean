/-
  LawS1665CMajority: the leader's memory, the value of a voter.
-/
import Derived.Test.YbulkahloSortA
import Derived.Maps.OwnOps
import Derived.Maps.OwnSet
namespace Go.Proofs.Ybulkahlo
open Go.RowKit Go.Maps

def ptrElem (v : Value) : Option (DataW Unit × List MemPlace) :=
  match v with
  | .pointer (some ⟨q, 0, none⟩) => some (.lit (.int .u64 q), [])
  | .pointer none => some (.lit (.bool false), [])
  | _ => none
theorem ptrElem_inv {v : Value} {q : Nat} {ps : List MemPlace} (h : ptrElem v = some (.lit (.int .u64 q), ps)) : v = .pointer (some ⟨q, 0, none⟩) := by
  unfold ptrElem at h
  split at h
  · simp at h
    obtain ⟨e, _⟩ := h
    congr 3
    omega
  · simp at h
  · cases h

theorem law22 : Keyed Yba.prog 22 := int_keyed Yba.underlying22
theorem zero41 (w : World) : (zeroValue 41).run Yba.prog w = .ok (.pointer none) w := by kernel_rfl

/-- The leader's own value for itme, else what it heard from the peer. -/
def valOf (me led : Int) (z : Nat → Int) (id : Int) : Int := if id = me then led else z (id - 1).toNat

/-- The leader's memory: block C the leader, block M the map of the peers' progress. -/
structure Lead (base C M k : Nat) (me led : Int) (z : Nat → Int) (u : World) : Prop where
  c : C < base
  m : M < base
  id : u.cell? ⟨C, 0, none⟩ = some (.int .u64 me)
  led : u.cell? ⟨C, 30, none⟩ = some (.int .u64 led)
  prog : u.cell? ⟨C, 34, none⟩ = some (.map (some M))
  map : ∃ n D, u.ownsMap Yba.prog 22 ptrElem M n D ∧ ∀ i, i < k → ((i : Int) + 1) ≠ me → ∃ q, q < base ∧ D.atKey (.int .u64 ((i : Int) + 1)) (.lit (.bool false)) = .lit (.int .u64 q) ∧ u.cell? ⟨q, 2, none⟩ = some (.int .u64 (z i))

theorem below_cell {B : Nat} {w w' : World} (h : Below B w w') {b o : Nat} (hb : b < B) : w'.cell? ⟨b, o, none⟩ = w.cell? ⟨b, o, none⟩ := World.cell?_of_block (w := w) (h.block _ hb)
theorem below_frozen {B : Nat} {w w' : World} (h : Below B w w') {b o : Nat} (hb : b < B) : w'.frozen? ⟨b, o, none⟩ = w.frozen? ⟨b, o, none⟩ := World.frozen?_of_block (w := w) (h.block _ hb)

theorem Lead.kept {base C M k : Nat} {me led : Int} {z : Nat → Int} {u u' : World} (h : Lead base C M k me led z u) (hb : Below base u u') : Lead base C M k me led z u' := by
  obtain ⟨n, D, ⟨es, clock, h1, h2⟩, hq⟩ := h.map
  refine ⟨h.c, h.m, by rw [below_cell hb h.c]; exact h.id, by rw [below_cell hb h.c]; exact h.led, by rw [below_cell hb h.c]; exact h.prog, n, D, ⟨es, clock, by rw [hb.block _ h.m]; exact h1, h2⟩, fun i hi hs => ?_⟩
  obtain ⟨q, q1, q2, q3⟩ := hq i hi hs
  exact ⟨q, q1, q2, by rw [below_cell hb q1]; exact q3⟩

theorem clo {base C M k B : Nat} {me led : Int} {z : Nat → Int} {u : World} (h : Lead base C M k me led z u) (hbox : u.cell? ⟨B, 0, none⟩ = some (.pointer (some ⟨C, 0, none⟩))) (hk : k ≤ 512) (id : Int)
    (hid : id = me ∨ ∃ i : Nat, i < k ∧ id = (i : Int) + 1) :
    Calls Yba.prog 10 #[.int .u64 id, .pointer (some ⟨B, 0, none⟩)] u fun e w' => e = .returned (.int .u64 (valOf me led z id)) ∧ w' = u := by
  have h1 := h.id
  have h2 := h.led
  have h3 := h.prog
  by_cases hs : id = me
  · have t : (id == me) = true := by simp [hs]
    go_enter Yba.func10, Yba.ntmps10
    go_wp2
    go_ret
    exact ⟨by unfold valOf; rw [if_pos hs]; rfl, rfl⟩
  · have t : (id == me) = false := by simp [hs]
    obtain ⟨i, hi, e⟩ : ∃ i : Nat, i < k ∧ id = (i : Int) + 1 := by
      rcases hid with h | h
      · exact absurd h hs
      · exact h
    subst e
    obtain ⟨n, D, hown, hq⟩ := h.map
    obtain ⟨q, q1, q2, q3⟩ := hq i hi hs
    obtain ⟨v, ps, hrun, hR⟩ := hown.lookup law22 Yba.underlying40 (zero41 u) (zd := .lit (.bool false)) (zp := []) rfl (key := .int .u64 ((i : Int) + 1)) (kl := .int .u64 ((i : Int) + 1)) (keyOf_int_mk Yba.underlying22 (WalkArith.wf_u64 (by omega)))
    rw [q2] at hR
    have hv := ptrElem_inv hR
    subst hv
    clear hq hR hown q2 h
    go_enter Yba.func10, Yba.ntmps10
    go_wp2
    go_ret
    refine ⟨?_, rfl⟩
    unfold valOf
    rw [if_neg hs, show ((i : Int) + 1 - 1).toNat = i by omega]
    rfl
end Go.Proofs.Ybulkahlo
