/-
  LawS1665CMajority: what is carried from the making to the call.
-/
import Derived.Test.YbulkahloMajE
namespace Go.Proofs.Ybulkahlo
open Go.RowKit Go.Maps

/-- The voters while they are filled. -/
def votTo (k t : Nat) : Int := if t < k then (t : Int) + 1 else 0
/-- The old voter that x names. -/
def oldOf (k : Nat) (me x : Int) : Int := if x % ((k : Int) + 1) + 1 = (k : Int) + 1 then me else x % ((k : Int) + 1) + 1

theorem votTo_ids (k : Nat) (me : Int) : ∀ t, t < k → votTo k t = me ∨ ∃ i : Nat, i < k ∧ votTo k t = (i : Int) + 1 := fun t ht => .inr ⟨t, ht, by unfold votTo; rw [if_pos ht]⟩
theorem oldOf_ids (k : Nat) (me x : Int) : oldOf k me x = me ∨ ∃ i : Nat, i < k ∧ oldOf k me x = (i : Int) + 1 := by
  have h1 := Int.emod_nonneg x (show (k : Int) + 1 ≠ 0 by omega)
  have h2 := Int.emod_lt_of_pos x (show 0 < (k : Int) + 1 by omega)
  unfold oldOf
  generalize x % ((k : Int) + 1) = y at h1 h2
  by_cases h : y + 1 = (k : Int) + 1
  · rw [if_pos h]; exact .inl rfl
  · rw [if_neg h]; exact .inr ⟨y.toNat, by omega, by omega⟩

theorem Peers.kept {M i lo : Nat} {me : Int} {z : Nat → Int} {u u' : World} (h : Peers M i me z lo u) (hb : Below u.heap.size u u') : Peers M i me z lo u' := by
  obtain ⟨n, D, hn, ho, hq⟩ := h
  have hM := ho.lt
  obtain ⟨es, clock, h1, h2⟩ := ho
  refine ⟨n, D, hn, ⟨es, clock, by rw [hb.block _ hM]; exact h1, h2⟩, fun j hj hm => ?_⟩
  obtain ⟨q, q1, q2, q3, q4⟩ := hq j hj hm
  exact ⟨q, q1, Nat.lt_of_lt_of_le q2 hb.size, q3, by rw [below_cell hb q2]; exact q4⟩
theorem Row.kept {G o n : Nat} {f : Nat → Int} {u u' : World} (h : Row G o n f u) (hb : Below u.heap.size u u') : Row G o n f u' := ⟨h.zero, World.rowIs.of_block h.is (hb.block _ h.is.lt)⟩

theorem core_cell (u : World) (cs : Array Value) (j : Nat) (v : Value) (h : cs[j]? = some v) : (u.alloc (.cells cs 52)).cell? ⟨u.heap.size, j, none⟩ = some v := by
  have hb : (u.alloc (.cells cs 52)).heap[u.heap.size]? = some (.cells cs 52) := Deep.blk_alloc_new u (.cells cs 52)
  unfold World.cell?
  rw [hb]
  exact h
theorem core_frozen (u : World) (cs : Array Value) (j : Nat) : (u.alloc (.cells cs 52)).frozen? ⟨u.heap.size, j, none⟩ = false := by
  have hb : (u.alloc (.cells cs 52)).heap[u.heap.size]? = some (.cells cs 52) := Deep.blk_alloc_new u (.cells cs 52)
  unfold World.frozen?
  rw [hb]
  simp
/-- The leader's cells. -/
def coreOf (me : Int) (V k : Nat) (a2 : Option Addr) (m c2 : Nat) (tk led : Int) (M : Nat) : Array Value :=
  #[.int .u64 me, .slice (some ⟨V, 0, none⟩) k k, .slice none 0 0,
        .slice a2 m c2, .map none, .slice none 0 0, .slice none 0 0, .bool false,
        .int .u64 0, .int .i64 tk, .int .i64 1, .bool false, .bool false,
        .pointer none, .int .i64 3, .int .u64 0, .int .u64 0,
        .int .u64 0, .int .u64 0, .int .u64 0, .slice none 0 0,
        .slice none 0 0, .slice none 0 0, .map none, .bool false, .slice none 0 0,
        .int .i64 0, .int .i64 0, .int .i64 0, .int .i64 0,
        .int .u64 led, .int .u64 0, .map none, .int .u64 0,
        .map (some M), .int .u64 0, .int .u64 0, .slice none 0 0]
theorem lead_core {M k lo : Nat} {me led : Int} {z : Nat → Int} {u : World} (hp : Peers M k me z lo u) (cs : Array Value) (h0 : cs[0]? = some (.int .u64 me)) (h30 : cs[30]? = some (.int .u64 led)) (h34 : cs[34]? = some (.map (some M))) :
    Lead (u.heap.size + 1) u.heap.size M k me led z (u.alloc (.cells cs 52)) := by
  have hb : Below u.heap.size u (u.alloc (.cells cs 52)) := (Below.refl _ _).alloc (Nat.le_refl _) _
  have hM : M < u.heap.size := by obtain ⟨n, D, hn, ho, hq⟩ := hp; exact ho.lt
  obtain ⟨n, D, hn, ho, hq⟩ := hp.kept hb
  have hsz : (u.alloc (.cells cs 52)).heap.size = u.heap.size + 1 := by show (u.heap.push _).size = _; simp
  refine ⟨Nat.lt_succ_self _, Nat.lt_succ_of_lt hM, core_cell _ _ _ _ h0, core_cell _ _ _ _ h30, core_cell _ _ _ _ h34, n, D, ho, fun j hj hm => ?_⟩
  obtain ⟨q, q1, q2, q3, q4⟩ := hq j hj hm
  exact ⟨q, by omega, q3, q4⟩

/-- The old voters, once they are all appended. -/
theorem ids_of_owns {base m : Nat} {v : Value} {ids : Nat → Int} {u : World} (h : u.ownsRow base 22 1 v m ((List.range m).map fun t => .int .u64 (ids t))) : ∃ a c, v = .slice a m c ∧ Ids u.heap.size a m ids u := by
  have hlt := h.lt
  have hcells := fun g hg => h.cells (g := g) hg
  obtain ⟨_, ⟨rfl, rfl⟩ | ⟨g, cap, cur, rfl, h1, h2, h3, h4, h5, h6⟩⟩ := h
  · exact ⟨none, 0, rfl, fun h => absurd h (by omega)⟩
  · refine ⟨_, cap, rfl, fun _ => ⟨g, 0, rfl, (hlt g rfl).2, fun t ht => ?_⟩⟩
    have := hcells g rfl t (.int .u64 (ids t)) (by simp [ht])
    rw [Nat.zero_add]
    by_cases e : t = 0
    · subst e; simpa [Addr.add] using this
    · simpa [Addr.add, e] using this

def BestR (v : Nat → Int) (n : Nat) (r : Int) : Prop := (n = 0 → r = 0) ∧ (0 < n → Best v n n r)
theorem best_majR {v : Nat → Int} {n : Nat} {b r : Int} (h : BestR v n b) (k : MajR v n r) (h0 : ∀ s, s < n → 0 ≤ v s) : b = r := by
  by_cases hn : n = 0
  · rw [h.1 hn, k.1 hn]
  · exact (h.2 (by omega)).eq (k.2 (by omega)) h0

theorem maj80 (ah : Option Addr) (k ch : Nat) (me led : Int) (a : Option Addr) (cap : Nat) (w : World) : Calls Yba.prog 8 #[.slice ah k ch, .int .u64 me, .int .u64 led, .slice a 0 cap] w fun e w' => e = .returned (.int .u64 0) ∧ w' = w := by
  go_enter Yba.func8, Yba.ntmps8
  go_wp2
  go_ret
  exact ⟨rfl, rfl⟩
theorem maj8All {base : Nat} {ah a : Option Addr} {k ch n cap : Nat} {me led : Int} {z ids : Nat → Int} {w : World} (hh : Hid (Heard ah k z w)) (hk : k ≤ 512) (hn : n ≤ 512)
    (hv : Hid (Ids base a n ids w)) (hids : Hid (∀ t, t < n → ids t = me ∨ ∃ i : Nat, i < k ∧ ids t = (i : Int) + 1)) :
    Calls Yba.prog 8 #[.slice ah k ch, .int .u64 me, .int .u64 led, .slice a n cap] w fun e w' =>
      ∃ r, e = .returned (.int .u64 r) ∧ BestR (fun t => valOf me led z (ids t)) n r ∧ w' = w := by
  by_cases h0 : n = 0
  · subst h0
    exact (maj80 ah k ch me led a cap w).mono fun e w' ⟨h1, h2⟩ => ⟨0, h1, ⟨fun _ => rfl, fun h => absurd h (by omega)⟩, h2⟩
  · obtain ⟨b, o, rfl, h1, h2⟩ := hv.out (by omega)
    exact (maj8 hh hk hn (by omega) h2 hids).mono fun e w' ⟨r, e1, e2, e3⟩ => ⟨r, e1, ⟨fun h => absurd h h0, fun _ => e2⟩, e3⟩
theorem heard_of_ids {base k : Nat} {a : Option Addr} {z : Nat → Int} {w : World} (h : Ids base a k z w) : Heard a k z w := fun h0 => by
  obtain ⟨b, o, e, _, h2⟩ := h h0
  exact ⟨b, o, e, h2⟩
theorem valOf_nonneg {me led : Int} {z : Nat → Int} {k : Nat} {id : Int} (hid : id = me ∨ ∃ i : Nat, i < k ∧ id = (i : Int) + 1) (hl : 0 ≤ led) (hz : ∀ t, t < k → 0 ≤ z t) : 0 ≤ valOf me led z id := by
  unfold valOf
  by_cases h : id = me
  · rw [if_pos h]; exact hl
  · rw [if_neg h]
    rcases hid with h1 | ⟨i, hi, e⟩
    · exact absurd h1 h
    · exact hz _ (by omega)
end Go.Proofs.Ybulkahlo
