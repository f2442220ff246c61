/-
  checkID: nil where the two ids are one, an error where they differ.
-/
import Derived.Test.YbulkahiiFmtWalk0
namespace Go.Proofs.YbulkahiiFmt
open Go.RowKit Go.Extern.Stop Go.Stop Go.Extern
attribute [local go_sem] call8 guardF fmt0 fmt0r act9 act23 isString23 str23 str9 ptr36 elem36 op9

/-- The first cells of 'C' are 'A'. -/
def Heads (A C : Array Value) : Prop := ∀ (j : Nat) (v : Value), A[j]? = some v → C[j]? = some v

theorem range_of_prefix (w : World) (A C : Array Value) (o : Obj) (hp : Heads A C) : ((w.alloc (.cells C 25)).alloc o).rangeAt w.heap.size 0 A.toList := fun j v hj => by
  rw [Nat.zero_add, cell_of_row _ _ j C 25 (0, 0) (heap_alloc2_old w _ _)]
  exact hp j v (by simpa using hj)

set_option maxHeartbeats 400000 in
theorem check_same (A B C : Array Value) (w : World) (hA : A.size = 20) (hB : B.size = 20) (hp : Heads A C)
    (heq : ∀ w, (Op.equalIn 10000 23 (.agg B) (.agg A)).run Ybaf.prog w = .ok true w) :
    Calls Ybaf.prog 6 #[.agg C, .agg B] w fun e w' => e = .returned .nilIface ∧ Below w.heap.size w w' := by
  have sA : (Ybaf.prog.info? 23).map (·.size) = some A.toList.length := by rw [Array.length_toList, hA]; exact size23
  have sB : (Ybaf.prog.info? 23).map (·.size) = some B.size := by rw [hB]; exact size23
  have HA : Hid (A.size = 20) := hA
  have HB : Hid (B.size = 20) := hB
  clear hA hB
  go_enter Ybaf.func6, Ybaf.ntmps6
  go_wp2_with (first
    | (refine wpList_load_row rfl 23 (.tmp 3) rfl (w.heap.size + 1) rfl 23 B (0, 0) _ (heap_alloc2_new w _ _) Ybaf.underlying23 rfl sB ?_)
    | (refine wpList_load_mid rfl 23 (.tmp 6) rfl w.heap.size 0 rfl A.toList _ (range_of_prefix w A C _ hp) Ybaf.underlying23 rfl sA ?_))
  go_ret
  exact ⟨rfl, (((Below.refl _ w).alloc (Nat.le_refl _) _).alloc (by simp) _)⟩

set_option maxHeartbeats 800000 in
theorem errorf7 (F : Interp) (A B : Array Value) (xs ys : List Int) (s : ByteArray) (b : Nat) (w : World) (hF : F.answers w.tape)
    (hc0 : w.cell? ⟨b, 0, none⟩ = some (.iface 9 (.string s))) (hc1 : w.cell? ⟨b, 1, none⟩ = some (.iface 23 (.agg B))) (hc2 : w.cell? ⟨b, 2, none⟩ = some (.iface 23 (.agg A)))
    (hxs : Hid (IsId A xs)) (hys : Hid (IsId B ys)) :
    Calls Ybaf.prog 7 #[.string ⟨#[37, 115, 58, 32, 116, 104, 101, 32, 110, 111, 100, 101, 32, 116, 104, 101, 114, 101, 32, 104, 97, 115, 32, 105, 100, 32, 37, 115, 44, 32, 110, 111, 116, 32, 37, 115]⟩, .slice (some ⟨b, 0, none⟩) 3 3] w fun e w' => (∃ p, e = .returned (.iface 36 (.pointer (some p)))) ∧ Below w.heap.size w w' := by
  have hF' := answers_open hF
  have hb : b < w.heap.size := World.block_lt_of_cell? _ _ hc0
  go_enter Ybaf.func7, Ybaf.ntmps7
  go_wp2
  apply rows_call nextTurns
  case hr =>
    go_simp
    exact ⟨⟨rfl, rfl, rfl⟩, rfl⟩
  case hi => exact invokeString23 _ _
  case hc =>
    refine (string10 B ys _ hys).mono fun e w3 ⟨t1, he, hx⟩ => ?_
    subst he
    have hFa : F.answers w3.tape := by rw [hx.tape]; exact hF
    have hF3 := answers_open hFa
    have hc03 : w3.cell? ⟨b, 0, none⟩ = some (.iface 9 (.string s)) := by rw [hx.cell hb]; exact hc0
    have hc13 : w3.cell? ⟨b, 1, none⟩ = some (.iface 23 (.agg B)) := by rw [hx.cell hb]; exact hc1
    have hc23 : w3.cell? ⟨b, 2, none⟩ = some (.iface 23 (.agg A)) := by rw [hx.cell hb]; exact hc2
    apply rows_call nextReturned
    case hr =>
      go_simp
      exact ⟨⟨rfl, rfl, rfl⟩, rfl⟩
    case hi => exact invokeString23 _ _
    case hc =>
      refine (string10 A xs _ hxs).mono fun e w4 ⟨t2, he, hy⟩ => ?_
      subst he
      have hb3 : b < w3.heap.size := Nat.lt_of_lt_of_le hb hx.size
      have hFb : F.answers w4.tape := by rw [hy.tape]; exact hFa
      have hF4 := answers_open hFb
      have hc04 : w4.cell? ⟨b, 0, none⟩ = some (.iface 9 (.string s)) := by rw [hy.cell hb3]; exact hc03
      have hc14 : w4.cell? ⟨b, 1, none⟩ = some (.iface 23 (.agg B)) := by rw [hy.cell hb3]; exact hc13
      have hc24 : w4.cell? ⟨b, 2, none⟩ = some (.iface 23 (.agg A)) := by rw [hy.cell hb3]; exact hc23
      apply rows_value nextReturned
      case hr =>
        go_simp
        exact ⟨rfl, rfl⟩
      case h =>
        go_wp2
        go_ret
        exact ⟨⟨_, rfl⟩, ((hx.trans (hy.mono hx.size)).alloc (Nat.le_trans hx.size hy.size) _).drew⟩

set_option maxHeartbeats 800000 in
theorem check_diff (F : Interp) (A B C : Array Value) (xs ys : List Int) (s : ByteArray) (w : World) (hF : F.answers w.tape) (hA : A.size = 20) (hB : B.size = 20) (hp : Heads A C) (hs : C[20]? = some (.string s))
    (hxs : Hid (IsId A xs)) (hys : Hid (IsId B ys))
    (heq : ∀ w, (Op.equalIn 10000 23 (.agg B) (.agg A)).run Ybaf.prog w = .ok false w) :
    Calls Ybaf.prog 6 #[.agg C, .agg B] w fun e w' => (∃ b, e = .returned (.iface 36 (.pointer (some b)))) ∧ Below w.heap.size w w' := by
  have hF' := answers_open hF
  have sA : (Ybaf.prog.info? 23).map (·.size) = some A.toList.length := by rw [Array.length_toList, hA]; exact size23
  have sB : (Ybaf.prog.info? 23).map (·.size) = some B.size := by rw [hB]; exact size23
  have HA : Hid (A.size = 20) := hA
  have HB : Hid (B.size = 20) := hB
  clear hA hB
  go_enter Ybaf.func6, Ybaf.ntmps6
  go_wp2_with (first
    | (refine wpList_load_row rfl 23 (.tmp 3) rfl (w.heap.size + 1) rfl 23 B (0, 0) _ (heap_alloc2_new w _ _) Ybaf.underlying23 rfl sB ?_)
    | (refine wpList_load_mid rfl 23 (.tmp 6) rfl w.heap.size 0 rfl A.toList _ (range_of_prefix w A C _ hp) Ybaf.underlying23 rfl sA ?_)
    | (refine wpList_load_mid rfl 23 (.tmp 14) rfl w.heap.size 0 rfl A.toList _ (range_of_prefix w A C _ hp) Ybaf.underlying23 rfl sA ?_))
  refine (errorf7 F A B xs ys s (w.heap.size + 1 + 1) _ (by exact hF) (by go_simp) (by go_simp) (by go_simp) hxs hys).mono ?_
  rintro e w1 ⟨⟨p, rfl⟩, hb⟩
  go_wp2
  go_ret
  exact ⟨⟨_, rfl⟩, ((((Below.refl _ w).alloc (Nat.le_refl _) _).alloc (by simp) _).alloc (by simp; omega) _).trans (hb.mono (by simp; omega))⟩

end Go.Proofs.YbulkahiiFmt
