/-
  LawS1659BSend: drain.
-/
import Derived.Test.YbulkahiiReg
import Derived.Maps.RangeWalk
namespace Go.Proofs.Ybulkahii
open Go.RowKit Go.Conc

/-- What a channel holds. -/
def vals (L : List (Int × Int)) : Array Value := (L.map fun p => Value.agg (rngA p.1 p.2)).toArray
theorem vals_nil : vals [] = #[] := rfl
theorem vals_size (L : List (Int × Int)) : (vals L).size = L.length := by simp [vals]
theorem vals_head (p : Int × Int) (L : List (Int × Int)) : (vals (p :: L)).getD 0 undef = .agg (rngA p.1 p.2) := by simp [vals]
theorem vals_tail (p : Int × Int) (L : List (Int × Int)) : (vals (p :: L)).extract 1 (vals (p :: L)).size = vals L := by
  apply Array.ext'
  simp [vals]
  rw [List.take_of_length_le (by simp)]
theorem vals_push (p : Int × Int) (L : List (Int × Int)) : (vals L).push (.agg (rngA p.1 p.2)) = vals (L ++ [p]) := by simp [vals]

/-- Block c is a channel with room for cap ranges that holds L. -/
def ChanAt (c cap : Nat) (L : List (Int × Int)) (W : World) : Prop := ∃ s r, W.heap[c]? = some (.chan cap (vals L) false s r false)
theorem ChanAt.lt {c cap : Nat} {L : List (Int × Int)} {W : World} (h : ChanAt c cap L W) : c < W.heap.size := by
  obtain ⟨s, r, h⟩ := h
  exact (Array.getElem?_eq_some_iff.1 h).1
theorem ChanAt.turned {S : Nat → Prop} {c cap : Nat} {L : List (Int × Int)} {W W' : World} (h : ChanAt c cap L W) (ht : Tn S W W') (hS : ¬ S c) : ChanAt c cap L W' := by
  have hl := h.lt
  obtain ⟨s, r, h⟩ := h
  exact ⟨s, r, by rw [ht.block c hl hS]; exact h⟩
def bufLen (c : Nat) (W : World) : Nat := match W.heap[c]? with | some (.chan _ b _ _ _ _) => b.size | _ => 0
theorem ChanAt.len {c cap : Nat} {L : List (Int × Int)} {W : World} (h : ChanAt c cap L W) : bufLen c W = L.length := by
  obtain ⟨s, r, h⟩ := h
  simp [bufLen, h, vals_size]

theorem zv29 (w : World) : (zeroValue 29).run Yba.prog w = .ok (.agg zero40) w := by kernel_rfl

theorem exec_select {o : Oper} {a : Act} {w : World} {x : Operand} {c : Nat} (ho : o.op = .select #[{ chan := x, send := none, elem := 29 }] false) (hx : a.eval x = .chan (some c)) :
    (execOp a.eval o).run Yba.prog w = .ok (.comm #[rcase c (.agg zero40)] false .select) w := by
  unfold execOp
  simp [ho, hx, rcase]
  rfl

set_option maxRecDepth 100000 in
set_option maxHeartbeats 1600000 in
theorem drain13 (c cap : Nat) (L : List (Int × Int)) (W : World) (hc : Hid (ChanAt c cap L W)) (hL : L.length ≤ 2000) :
    Calls Yba.prog 13 #[.chan (some c)] W fun x W' => ∃ v, x = .returned v ∧ Own W.heap.size v L W' ∧ ChanAt c cap [] W' ∧ Tn (· = c) W W' := by
  go_enter Yba.func13, Yba.ntmps13
  go_wp2
  go_loopw [3] (fun v wr => Hid (∃ L1 L2, L = L1 ++ L2 ∧ Own W.heap.size v L1 wr ∧ ChanAt c cap L2 wr ∧ Tn (· = c) W wr)) (fun _ wr => bufLen c wr)
  case atStart => exact ⟨[], L, rfl, .nil _ _, hc.out, .refl _ _⟩
  case round =>
    obtain ⟨L1, L2, rfl, hown, hch, ht⟩ := hrel.out
    clear hrel
    go_upto_region 3 with fail
    refine wp_region_at ?_
    obtain _ | ⟨p, L2⟩ := L2
    · obtain ⟨s, r, hb⟩ := hch
      refine regAt_selDef (some 6) rfl rfl rfl (exec_select rfl rfl) hb ?_
      refine regAt_pure (some 7) (goInt (-1)) rfl rfl rfl (by simp [execOp, go_sem, Act.eval]) ?_
      refine regAt_pure (some 8) (.bool false) rfl rfl rfl (by simp [execOp, go_sem, Act.eval]) ?_
      refine regAt_done ?_
      go_wp2
      rw [List.append_nil]
      go_ret
      exact ⟨_, rfl, hown, ⟨s, r, hb⟩, ht⟩
    · have hl := hch.lt
      have hlen := hch.len
      obtain ⟨s, r, hb⟩ := hch
      refine regAt_selBuf (some 6) rfl rfl rfl (exec_select rfl rfl) hb (by simp [vals_size]) ?_
      rw [vals_head, vals_tail]
      go_frame
      refine regAt_pure (some 7) (goInt 0) rfl rfl rfl (by simp [execOp, go_sem, Act.eval]) ?_
      refine regAt_pure (some 8) (.bool true) rfl rfl rfl (by simp [execOp, go_sem, Act.eval]) ?_
      refine regAt_done ?_
      generalize hw1 : wr.setChan c cap (vals L2) false s (r + 1) false = w1
      have hch1 : ChanAt c cap L2 w1 := by rw [← hw1]; exact ⟨s, r + 1, heap_setChan _ _ _ _ _ _ _ _ hl⟩
      have ht1 : Tn (· = c) W w1 := ht.then (by rw [← hw1]; exact Tn.setChan rfl)
      have hown1 : Own W.heap.size u3 L1 w1 := hown.turned (by rw [← hw1]; exact Tn.setChan (S := (· = c)) rfl) (by
        rintro g hg rfl e
        have := hc.out.lt
        omega)
      clear hb hw1
      go_frame
      go_upto_region 5 with fail
      refine wp_region_at ?_
      refine regAt_pure (some 10) (.agg (rngA p.1 p.2)) rfl rfl rfl (by simp [execOp, go_sem, Act.eval]) ?_
      go_frame
      refine regAt_fresh (some 4) p.1 p.2 rfl rfl rfl rfl rfl rfl rfl rfl (by go_frame <;> rfl) (by go_frame <;> rfl) ?_
      refine regAt_done ?_
      have hat : RngAt w1.heap.size p.1 p.2 (w1.alloc (.cells (rngA p.1 p.2) 29)) := Deep.blk_alloc_new w1 _
      have tn2 : Tn (fun _ => False) w1 (w1.alloc (.cells (rngA p.1 p.2) 29)) := .alloc _ _ _
      have hs2 : (w1.alloc (.cells (rngA p.1 p.2) 29)).heap.size = w1.heap.size + 1 := by show (w1.heap.push _).size = _; simp
      generalize w1.alloc (.cells (rngA p.1 p.2) 29) = w2 at hat tn2 hs2 ⊢
      go_frame
      go_upto_region 6 with fail
      refine wp_region_at ?_
      refine regAt_move (some 11) u3 rfl rfl rfl (.inl rfl) rfl ?_
      go_frame
      refine regAt_load (some 12) p.1 p.2 w1.heap.size rfl rfl rfl rfl rfl hat ?_
      go_frame
      refine regAt_app (some 13) (some 14) (v := u3) (L := L1) (base := W.heap.size) p.1 p.2 rfl rfl rfl rfl rfl rfl rfl rfl rfl (by go_frame <;> rfl) (by go_frame <;> rfl) (hown1.turned tn2 (by simp)) (by simp at hL; omega) (by have := ht1.size; omega) ?_
      intro v' w3 hown3 hg3 _
      go_frame
      refine regAt_move (some 3) v' rfl rfl rfl (.inr rfl) rfl ?_
      refine regAt_done ?_
      go_frame
      go_wp2
      have hlt := hc.out.lt
      have hown2 : Own W.heap.size u3 L1 w2 := hown1.turned tn2 (by simp)
      have tn3 : Tn (fun k => u3.ownBlock = some k) w2 w3 := .of_grown hg3 (fun k h => h)
      have hch3 : ChanAt c cap L2 w3 := (hch1.turned tn2 (by simp)).turned tn3 (fun h => by have := (hown2.base h).1; omega)
      refine ⟨⟨L1 ++ [p], L2, by simp, hown3, hch3, (ht1.trans tn2 (by simp)).trans tn3 (fun k hk => .inr (hown2.base hk).1)⟩, ?_⟩
      rw [hlen, hch3.len]; simp
end Go.Proofs.Ybulkahii
