/-
  LawS1659BSend: slices.Equal of two slices of ranges.
-/
import Derived.Test.YbulkahiiIdx
namespace Go.Proofs.Ybulkahii
open Go.RowKit Go.Conc

theorem neq29 (s e s' e' : Int) (w : World) : (binOp .neq 29 (.agg (rngA s e)) (.agg (rngA s' e'))).run Yba.prog w = .ok (.bool (!(decide (s = s') && decide (e = e')))) w := by
  rw [run_neq_struct]
  have h := eqRng 9997 s e s' e' w
  rw [show (9997 : Nat) + 2 + 1 = 10000 from rfl] at h
  rw [h]; rfl
theorem eql29 (s e s' e' : Int) (w : World) : (binOp .eql 29 (.agg (rngA s e)) (.agg (rngA s' e'))).run Yba.prog w = .ok (.bool (decide (s = s') && decide (e = e'))) w := by
  rw [run_eql_struct]
  have h := eqRng 9997 s e s' e' w
  rw [show (9997 : Nat) + 2 + 1 = 10000 from rfl] at h
  rw [h]; rfl

/-- A slice of n ranges: nil or somewhere. -/
def RngSl (a : Option Addr) (n : Nat) (f : Nat → Int × Int) (W : World) : Prop := 0 < n → ∃ G, a = some ⟨G, 0, none⟩ ∧ G < W.heap.size ∧ RngRow G n f W

theorem exec_load_mid {P : Program} {o : Oper} {a : Act} {w : World} {ty : TypeId} {x : Operand} (ho : o.op = .load ty x) {b off : Nat} (hx : a.eval x = .pointer (some ⟨b, off, none⟩)) (C : Array Value) {d : TypeDesc} (hc : w.rangeAt b off C.toList)
    (hu : P.underlying ty = some d) (hd : d.isRow = true) (hi : (P.info? ty).map (·.size) = some C.toList.length) : (execOp a.eval o).run P w = .ok (.value (.agg C)) w := by
  unfold execOp
  simp only [ho, hx, Instr.loadAt, Instr.sureAddr, Sem.run_bind, Sem.run_pure, Result.andThen_ok, run_loadVar_mid w b off ty C.toList d hc hu hd hi]

/-- A range read in a quiet walk. -/
theorem quiet_load_mid {P : Program} {C : World → Prop} {K : Act → Prop} {o : Oper} {a : Act} (ty : TypeId) (x : Operand) (ho : o.op = .load ty x)
    (g off : Nat) (hx : a.eval x = .pointer (some ⟨g, off, none⟩)) (cs : Array Value) (d : TypeDesc) (hg : ∀ w, C w → w.rangeAt g off cs.toList)
    (hu : P.underlying ty = some d) (hd : d.isRow = true) (hi : (P.info? ty).map (·.size) = some cs.toList.length)
    (hk : K (a.put o.dst (.agg cs))) : o.quiet P a C K :=
  ⟨_, fun w hw => by
    unfold Oper.quietAt execOp
    simp only [ho, hx, Instr.loadAt, Instr.sureAddr, Sem.run_bind, Sem.run_pure, Result.andThen_ok, run_loadVar_mid w g off ty cs.toList d (hg w hw) hu hd hi]
    exact ⟨rfl, rfl⟩, hk⟩

set_option maxRecDepth 100000 in
set_option maxHeartbeats 1600000 in
theorem eq10 (a1 a2 : Option Addr) (n c1 c2 : Nat) (f : Nat → Int × Int) (W : World) (h1 : Hid (RngSl a1 n f W)) (h2 : Hid (RngSl a2 n f W)) (hn : n ≤ 2000) :
    Calls Yba.prog 10 #[.slice a1 n c1, .slice a2 n c2] W fun x W' => x = .returned (.bool true) ∧ ∃ q, W' = W.drewN q := by
  have tn : ((n : Int) != (n : Int)) = false := by simp
  go_enter Yba.func10, Yba.ntmps10
  go_wp2
  go_loopw [13] (fun vi wr => ∃ i : Nat, vi = .int .i64 i ∧ i ≤ n ∧ ∃ q, wr = W.drewN q) (fun vi _ => n - (intOf vi).toNat)
  case atStart => exact ⟨0, rfl, Nat.zero_le _, 0, rfl⟩
  case round =>
    obtain ⟨i, rfl, hi, hq⟩ := hrel
    by_cases hlt : i < n
    · obtain ⟨G1, rfl, g1, k1⟩ := h1.out (by omega)
      obtain ⟨G2, rfl, g2, k2⟩ := h2.out (by omega)
      obtain ⟨C, hC⟩ : ∃ C, Hid (C = rngA (f i).1 (f i).2) := ⟨_, rfl⟩
      have r1 : wr.rangeAt G1 (i * 40) C.toList := by obtain ⟨q, rfl⟩ := hq; rw [hC.out]; exact k1 i hlt
      have r2 : wr.rangeAt G2 (i * 40) C.toList := by obtain ⟨q, rfl⟩ := hq; rw [hC.out]; exact k2 i hlt
      have sC : (Yba.prog.info? 29).map (·.size) = some C.toList.length := by rw [hC.out]; exact list29 _ _
      have hne : ∀ w, (binOp .neq 29 (.agg C) (.agg C)).run Yba.prog w = .ok (.bool false) w := by rw [hC.out]; intro w; rw [neq29]; simp
      clear k1 k2
      go_upto_region 6 with fail
      refine wp_region_quiet_lit (by kernel_rfl) (by kernel_rfl) ?_
      repeat (first
        | (go_big_quiet_want; refine quiet_load_mid 29 (.tmp 18) rfl G1 (i * 40) rfl C _ (fun w' hw' => by obtain ⟨n, rfl⟩ := hw'; exact r1) Yba.underlying29 rfl sC ?_; simp only [Act.put, List.setIfInBounds_toArray, List.set_cons_succ, List.set_cons_zero]; go_big_quiet_on)
        | (go_big_quiet_want; refine quiet_load_mid 29 (.tmp 22) rfl G2 (i * 40) rfl C _ (fun w' hw' => by obtain ⟨n, rfl⟩ := hw'; exact r2) Yba.underlying29 rfl sC ?_; simp only [Act.put, List.setIfInBounds_toArray, List.set_cons_succ, List.set_cons_zero]; go_big_quiet_on)
        | go_big_quiet_step (fail))
      refine wpQuiet_nil ?_
      intro _ hw'
      obtain ⟨nq, hw''⟩ := hw'
      subst hw''
      go_wp2
      go_roundw
      case rel =>
        obtain ⟨q, rfl⟩ := hq
        exact ⟨i + 1, by congr 1, by omega, q + nq, by rw [World.drewN_drewN]⟩
      case measure => simp [intOf]; omega
    · obtain ⟨q, rfl⟩ := hq
      go_wp2
      go_ret
      exact ⟨rfl, q, rfl⟩
end Go.Proofs.Ybulkahii
