/-
  LawS1665CMajority: the peers' progress while the map is filled.
-/
import Derived.Test.YbulkahloMajD
import Derived.Maps.Views
namespace Go.Proofs.Ybulkahlo
open Go.RowKit Go.Maps

/-- Block M maps the first i peers but the leader to their progress, in blocks from lo on. -/
def Peers (M i : Nat) (me : Int) (z : Nat → Int) (lo : Nat) (u : World) : Prop :=
  ∃ (n : Nat) (D : DataW Unit), n ≤ i ∧ u.ownsMap Yba.prog 22 ptrElem M n D ∧ ∀ j, j < i → ((j : Int) + 1) ≠ me → ∃ q, lo ≤ q ∧ q < u.heap.size ∧ D.atKey (.int .u64 ((j : Int) + 1)) (.lit (.bool false)) = .lit (.int .u64 q) ∧ u.cell? ⟨q, 2, none⟩ = some (.int .u64 (z j))

theorem Peers.set {M i V o lo : Nat} {me : Int} {z : Nat → Int} {u : World} (h : Peers M i me z lo u) (hV : M ≠ V) (hlo : V < lo) (v : Value) : Peers M i me z lo (u.setCell ⟨V, o, none⟩ v) := by
  obtain ⟨n, D, hn, ho, hq⟩ := h
  refine ⟨n, D, hn, ho.setCell hV v, fun j hj hm => ?_⟩
  obtain ⟨q, q1, q2, q3, q4⟩ := hq j hj hm
  exact ⟨q, q1, by rw [Deep.nblk_setCell]; exact q2, q3, (World.cell?_setCell_far _ _ _ _ (by show V ≠ q; omega)).trans q4⟩
theorem Peers.skip {M i lo : Nat} {me : Int} {z : Nat → Int} {u : World} (h : Peers M i me z lo u) (hi : ((i : Int) + 1) = me) : Peers M (i + 1) me z lo u := by
  obtain ⟨n, D, hn, ho, hq⟩ := h
  refine ⟨n, D, by omega, ho, fun j hj hm => hq j ?_ hm⟩
  by_cases e : j = i
  · subst e; exact absurd hi hm
  · omega
/-- A peer is added: a new block for its progress, then the store into the map. -/
theorem peers_add {M i n lo : Nat} {me : Int} {z : Nat → Int} {u w1 : World} {D : DataW Unit} (hn : n ≤ i) (hi : i ≤ 512) (hown : u.ownsMap Yba.prog 22 ptrElem M n D)
    (hq : ∀ j, j < i → ((j : Int) + 1) ≠ me → ∃ q, lo ≤ q ∧ q < u.heap.size ∧ D.atKey (.int .u64 ((j : Int) + 1)) (.lit (.bool false)) = .lit (.int .u64 q) ∧ u.cell? ⟨q, 2, none⟩ = some (.int .u64 (z j)))
    (hM : M < lo) (hlo : lo ≤ u.heap.size) (h1 : w1.ownsMap Yba.prog 22 ptrElem M (n + 1) (D.put (.int .u64 ((i : Int) + 1)) (.lit (.int .u64 u.heap.size)))) (hg : (u.alloc (.cells #[.int .u64 0, .int .u64 1, .int .u64 (z i)] 43)).grownBy w1 (some M)) :
    Peers M (i + 1) me z lo w1 := by
  have hsz : (u.alloc (.cells #[.int .u64 0, .int .u64 1, .int .u64 (z i)] 43)).heap.size = u.heap.size + 1 := by show (u.heap.push _).size = _; simp
  have hs1 : u.heap.size + 1 ≤ w1.heap.size := by rw [← hsz]; exact hg.size
  refine ⟨n + 1, _, by omega, h1, fun j hj hm => ?_⟩
  by_cases e : j = i
  · subst e
    refine ⟨u.heap.size, hlo, by omega, atKey_put_same hown.isMap (by simp [WideAt.IsKeyLit]) _ _, ?_⟩
    have hb : w1.heap[u.heap.size]? = (u.alloc (.cells #[.int .u64 0, .int .u64 1, .int .u64 (z j)] 43)).heap[u.heap.size]? := hg.block _ (by omega) (by simp; omega)
    rw [World.cell?_of_block (w := u.alloc (.cells #[.int .u64 0, .int .u64 1, .int .u64 (z j)] 43)) hb]
    simp [go_sem]
  · obtain ⟨q, q1, q2, q3, q4⟩ := hq j (by omega) hm
    refine ⟨q, q1, by omega, by rw [atKey_put_other (by intro h; injection h; omega)]; exact q3, ?_⟩
    have hb : w1.heap[q]? = u.heap[q]? := (hg.block q (by omega) (by simp; omega)).trans (Below.heap_alloc _ _ _ q2)
    rw [World.cell?_of_block (w := u) hb]
    exact q4
end Go.Proofs.Ybulkahlo
