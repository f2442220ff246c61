/-
  LawS1659BSend: zzs1659btake.
-/
import Derived.Test.YbulkahiiDrain
namespace Go.Proofs.Ybulkahii
open Go.RowKit Go.Conc

theorem exec_lenChan {o : Oper} {a : Act} {w : World} {x : Operand} {c cap : Nat} {L : List (Int × Int)} (ho : o.op = .call { callee := .builtin .len, args := #[x], argTypes := #[31] }) (hx : a.eval x = .chan (some c)) (hc : ChanAt c cap L w) :
    (execOp a.eval o).run Yba.prog w = .ok (.value (.int .i64 L.length)) w := by
  obtain ⟨s, r, hb⟩ := hc
  unfold execOp
  simp [ho, resolve, invoke, builtin, hx, Builtin.len_, getObj, Sem.run, hb, vals_size, goInt]
theorem exec_recv {o : Oper} {a : Act} {w : World} {x : Operand} {c : Nat} (ho : o.op = .recv 31 x false) (hx : a.eval x = .chan (some c)) :
    (execOp a.eval o).run Yba.prog w = .ok (.comm #[rcase c (.agg zero40)] true (.recv false)) w := by
  unfold execOp
  simp [ho, hx, rcase]
  rfl

set_option maxRecDepth 100000 in
set_option maxHeartbeats 1600000 in
theorem take9 (c cap : Nat) (L : List (Int × Int)) (W : World) (hc : Hid (ChanAt c cap L W)) (hL : L.length ≤ 2000) :
    Calls Yba.prog 9 #[.chan (some c)] W fun x W' => ∃ v, x = .returned v ∧ Own W.heap.size v L W' ∧ Tn (· = c) W W' := by
  go_enter Yba.func9, Yba.ntmps9
  go_upto_region 2 with fail
  refine wp_region_at ?_
  refine regAt_move (some 6) (.chan (some c)) rfl rfl rfl (.inl rfl) rfl ?_
  go_frame
  refine regAt_pure (some 7) (.int .i64 L.length) rfl rfl rfl (exec_lenChan rfl rfl hc.out) ?_
  go_frame
  refine regAt_move (some 4) (.int .i64 L.length) rfl rfl rfl (.inr rfl) rfl ?_
  refine regAt_done ?_
  go_frame
  go_wp2
  go_loopw [3, 5] (fun v vk wr => Hid (∃ L1 L2, L = L1 ++ L2 ∧ vk = .int .i64 L1.length ∧ Own W.heap.size v L1 wr ∧ ChanAt c cap L2 wr ∧ Tn (· = c) W wr)) (fun _ _ wr => bufLen c wr)
  case atStart => exact ⟨[], L, rfl, rfl, .nil _ _, hc.out, .refl _ _⟩
  case round =>
    obtain ⟨L1, L2, rfl, rfl, hown, hch, ht⟩ := hrel.out
    clear hrel
    obtain _ | ⟨p, L2⟩ := L2
    · have hn : (decide ((L1.length : Int) < ((L1 ++ []).length : Int))) = false := by simp
      go_wp2
      rw [List.append_nil]
      go_ret
      exact ⟨_, rfl, hown, ht⟩
    · have hn : (L1.length : Int) < ((L1 ++ p :: L2).length : Int) := by simp; omega
      have hl := hch.lt
      have hlen := hch.len
      have hlt := hc.out.lt
      go_upto_region 6 with fail
      refine wp_region_at ?_
      refine regAt_move (some 13) u3 rfl rfl rfl (.inl rfl) rfl ?_
      go_frame
      refine regAt_move (some 14) (.chan (some c)) rfl rfl rfl (.inl rfl) rfl ?_
      go_frame
      obtain ⟨s, r, hb⟩ := hch
      refine regAt_recvTo (some 15) rfl rfl rfl (exec_recv rfl rfl) hb (by simp [vals_size]) ?_
      rw [vals_head, vals_tail]
      go_frame
      generalize hw1 : wr.setChan c cap (vals L2) false s (r + 1) false = w1
      have hch1 : ChanAt c cap L2 w1 := by rw [← hw1]; exact ⟨s, r + 1, heap_setChan _ _ _ _ _ _ _ _ hl⟩
      have ht1 : Tn (· = c) W w1 := ht.then (by rw [← hw1]; exact Tn.setChan rfl)
      have hown1 : Own W.heap.size u3 L1 w1 := hown.turned (by rw [← hw1]; exact Tn.setChan (S := (· = c)) rfl) (by
        rintro g hg rfl e
        omega)
      clear hb hw1
      refine regAt_app (some 16) (some 17) (v := u3) (L := L1) (base := W.heap.size) p.1 p.2 rfl rfl rfl rfl rfl rfl rfl rfl rfl (by go_frame <;> rfl) (by go_frame <;> rfl) hown1 (by simp at hL; omega) (by have := ht1.size; omega) ?_
      intro v' w3 hown3 hg3 _
      go_frame
      refine regAt_move (some 3) v' rfl rfl rfl (.inr rfl) rfl ?_
      refine regAt_done ?_
      go_frame
      go_wp2
      have tn3 : Tn (fun k => u3.ownBlock = some k) w1 w3 := .of_grown hg3 (fun k h => h)
      have hch3 : ChanAt c cap L2 w3 := hch1.turned tn3 (fun h => by have := (hown1.base h).1; omega)
      refine ⟨⟨L1 ++ [p], L2, by simp, ?_, hown3, hch3, ht1.trans tn3 (fun k hk => .inr (hown1.base hk).1)⟩, ?_⟩
      · simp
      · rw [hlen, hch3.len]; simp
end Go.Proofs.Ybulkahii
