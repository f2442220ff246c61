/-
  LawS1659BSend: what send works on, and small laws.
-/
import Derived.Test.YbulkahiiMap
import Derived.Conc.Own5
import Derived.Deep.Upon
namespace Go.Proofs.Ybulkahii
open Go.RowKit Go.Conc

/-- r in place of the first range of its id, or behind all. -/
def repl (rs re : Int) : List (Int × Int) → List (Int × Int)
  | [] => [(rs, re)]
  | p :: L => if p.2 = re then (rs, re) :: L else p :: repl rs re L
theorem repl_found (rs re : Int) : ∀ (L : List (Int × Int)) (k : Nat), k < L.length → (L.getD k (0, 0)).2 = re → (∀ j, j < k → (L.getD j (0, 0)).2 ≠ re) → L.set k (rs, re) = repl rs re L
  | p :: L, 0, _, h, _ => by have h' : p.2 = re := by simpa using h
                             simp [repl, h']
  | p :: L, k + 1, hk, h, hn => by
    have h0 : p.2 ≠ re := by simpa using hn 0 (by omega)
    rw [List.set_cons_succ, repl, if_neg h0, repl_found rs re L k (by simpa using hk) (by simpa using h) (fun j hj => by simpa using hn (j + 1) (by omega))]
theorem repl_none (rs re : Int) : ∀ (L : List (Int × Int)), (∀ j, j < L.length → (L.getD j (0, 0)).2 ≠ re) → L ++ [(rs, re)] = repl rs re L
  | [], _ => rfl
  | p :: L, hn => by
    have h0 : p.2 ≠ re := by simpa using hn 0 (by simp)
    rw [repl, if_neg h0, List.cons_append, repl_none rs re L (fun j hj => by simpa using hn (j + 1) (by simpa using hj))]
theorem repl_length (rs re : Int) : ∀ (L : List (Int × Int)), (repl rs re L).length ≤ L.length + 1
  | [] => by simp [repl]
  | p :: L => by
    have := repl_length rs re L
    rw [repl]; split <;> simp <;> omega

theorem Tn.mono {S T : Nat → Prop} {a b : World} (h : Tn S a b) (hS : ∀ k, S k → T k) : Tn T a b := ⟨h.os, h.tape, h.output, h.size, fun k hk hn => h.block k hk fun hs => hn (hS k hs)⟩
/-- v is a slice of the ranges M. -/
def Row (base : Nat) (v : Value) (M : List (Int × Int)) (W : World) : Prop := ∃ g cap, v = .slice (some ⟨g, 0, none⟩) M.length cap ∧ base ≤ g ∧ g < W.heap.size ∧ RngRow g M.length (fun i => M.getD i (0, 0)) W
theorem Own.full {base : Nat} {v : Value} {M : List (Int × Int)} {W : World} (h : Own base v M W) (hM : M ≠ []) : Row base v M W := by
  rcases h.row with ⟨_, h2⟩ | ⟨g, cap, h⟩
  · exact absurd h2 hM
  · exact ⟨g, cap, h⟩
theorem RngRow.same {G n : Nat} {f : Nat → Int × Int} {W W' : World} (h : RngRow G n f W) (hs : W'.heap[G]? = W.heap[G]?) : RngRow G n f W' := fun i hi j v hv => by
  rw [World.cell?_of_block (a := ⟨G, i * 40 + j, none⟩) hs]; exact h i hi j v hv
theorem setCell_tn (W : World) (b o : Nat) (v : Value) : Tn (· = b) W (W.setCell ⟨b, o, none⟩ v) :=
  ⟨rfl, rfl, rfl, by simp [World.setCell], fun k _ hk => by simp [World.setCell, Array.getElem?_modify, Ne.symm hk]⟩
theorem setCells_tn (b : Nat) : ∀ (vs : List Value) (o : Nat) (W : World), Tn (· = b) W (W.setCells b o vs)
  | [], _, _ => .refl _ _
  | v :: vs, o, W => (setCell_tn W b o v).then (setCells_tn b vs (o + 1) _)
theorem there_row {W : World} {base : Nat} {v : Value} {L : List (Int × Int)} (h : Own base v L W) {g n cap : Nat} (hv : v = .slice (some ⟨g, 0, none⟩) n cap) {k : Nat} (hk : k < L.length) : W.there g (k * 40) 40 := by
  intro j hj
  rcases h.2 with ⟨h1, _⟩ | ⟨g', cap', cur, hv', hb, hg, _, _, hsz, htake⟩
  · rw [h1] at hv; cases hv
  · rw [hv'] at hv
    cases hv
    have hlen : L.length * 40 ≤ cur.size := by
      have := congrArg List.length htake
      rw [flat_length, List.length_take] at this
      simp at this; omega
    have hlt : k * 40 + j < cur.size := by
      have : (k + 1) * 40 ≤ L.length * 40 := Nat.mul_le_mul_right _ hk
      omega
    refine ⟨?_, ?_⟩
    · simp [World.cell?, hg, hlt]
    · simp [World.frozen?, hg]
/-- 'held[k] = r'. -/
theorem own_set {W : World} {base : Nat} {v : Value} {L : List (Int × Int)} (h : Own base v L W) {g cap : Nat} (hv : v = .slice (some ⟨g, 0, none⟩) L.length cap) {k : Nat} (hk : k < L.length) (rs re : Int) :
    Row base v (L.set k (rs, re)) (W.setCells g (k * 40) (rngA rs re).toList) := by
  rcases h.row with ⟨h1, _⟩ | ⟨g', cap', hv', hb, hg, hr⟩
  · rw [h1] at hv; cases hv
  · obtain ⟨rfl, rfl⟩ : g' = g ∧ cap' = cap := by rw [hv'] at hv; cases hv; exact ⟨rfl, rfl⟩
    refine ⟨g', cap', by rw [hv', List.length_set], hb, Nat.lt_of_lt_of_le hg (setCells_tn g' _ _ W).size, fun i hi => ?_⟩
    rw [List.length_set] at hi
    by_cases hik : i = k
    · subst hik
      have : (L.set i (rs, re)).getD i (0, 0) = (rs, re) := by simp [List.getD, hi]
      simp only [this]
      exact World.rangeAt_setCells_same W g' (i * 40) _ (by rw [rngL_length]; exact there_row h hv' hk)
    · have : (L.set k (rs, re)).getD i (0, 0) = L.getD i (0, 0) := by simp [List.getD, Ne.symm hik]
      simp only [this]
      refine World.rangeAt_setCells_apart (hr i hi) g' (k * 40) _ (.inr ?_)
      rw [rngL_length, rngL_length]
      omega

/-- All that send works on. -/
structure St (b : Nat) (st n : Int) (mw ml c1 c2 cap : Nat) (o : Option Int) (re : Int) (L1 L2 : List (Int × Int)) (W : World) : Prop where
  box : W.heap[b]? = some (.cells #[.int .i32 st, .int .u32 0, .int .i64 n, .map (some mw), .map (some ml), .bool false] 44 (0, 0))
  wat : WatAt mw c1 c2 W
  last : LastAt ml o re W
  ch1 : ChanAt c1 cap L1 W
  ch2 : ChanAt c2 cap L2 W
section
variable {b mw ml c1 c2 cap : Nat} {st n re : Int} {o : Option Int} {L1 L2 : List (Int × Int)} {W W' : World}
theorem St.lt (h : St b st n mw ml c1 c2 cap o re L1 L2 W) : b < W.heap.size ∧ mw < W.heap.size ∧ ml < W.heap.size ∧ c1 < W.heap.size ∧ c2 < W.heap.size :=
  ⟨(Array.getElem?_eq_some_iff.1 h.box).1, h.wat.lt, h.last.lt, h.ch1.lt, h.ch2.lt⟩
theorem St.ne (h : St b st n mw ml c1 c2 cap o re L1 L2 W) : b ≠ mw ∧ b ≠ ml ∧ b ≠ c1 ∧ b ≠ c2 ∧ mw ≠ ml ∧ mw ≠ c1 ∧ mw ≠ c2 ∧ ml ≠ c1 ∧ ml ≠ c2 := by
  have hb := h.box
  obtain ⟨f1, f2, hw⟩ := h.wat
  obtain ⟨s1, r1, h1⟩ := h.ch1
  obtain ⟨s2, r2, h2⟩ := h.ch2
  have hl : ∃ es k, W.heap[ml]? = some (.map es k) ∧ es.size ≤ 1 := by
    have hl := h.last
    cases o with
    | none => obtain ⟨k, hl⟩ := hl; exact ⟨_, k, hl, by simp⟩
    | some s => obtain ⟨n, k, hl⟩ := hl; exact ⟨_, k, hl, by simp⟩
  obtain ⟨es, k, hl, hes⟩ := hl
  refine ⟨?_, ?_, ?_, ?_, ?_, ?_, ?_, ?_, ?_⟩ <;> rintro rfl
  · rw [hb] at hw; cases hw
  · rw [hb] at hl; cases hl
  · rw [hb] at h1; cases h1
  · rw [hb] at h2; cases h2
  · rw [hw] at hl; cases hl; simp at hes
  · rw [hw] at h1; cases h1
  · rw [hw] at h2; cases h2
  · rw [hl] at h1; cases h1
  · rw [hl] at h2; cases h2
theorem St.turned {S : Nat → Prop} (h : St b st n mw ml c1 c2 cap o re L1 L2 W) (ht : Tn S W W') (h1 : ¬ S b) (h2 : ¬ S mw) (h3 : ¬ S ml) (h4 : ¬ S c1) (h5 : ¬ S c2) : St b st n mw ml c1 c2 cap o re L1 L2 W' :=
  ⟨by rw [ht.block b h.lt.1 h1]; exact h.box, h.wat.same (ht.block mw h.lt.2.1 h2), h.last.same (ht.block ml h.lt.2.2.1 h3), h.ch1.turned ht h4, h.ch2.turned ht h5⟩
theorem St.past (h : St b st n mw ml c1 c2 cap o re L1 L2 W) {B : Nat} (hB : W.heap.size ≤ B) (ht : Tn (fun k => B ≤ k) W W') : St b st n mw ml c1 c2 cap o re L1 L2 W' := by
  have := h.lt
  exact h.turned ht (by omega) (by omega) (by omega) (by omega) (by omega)
theorem St.fresh (h : St b st n mw ml c1 c2 cap o re L1 L2 W) (ht : Tn (fun _ => False) W W') : St b st n mw ml c1 c2 cap o re L1 L2 W' := h.turned ht (by simp) (by simp) (by simp) (by simp) (by simp)
theorem St.cell (h : St b st n mw ml c1 c2 cap o re L1 L2 W) : W.cell? ⟨b, 0, none⟩ = some (.int .i32 st) ∧ W.cell? ⟨b, 3, none⟩ = some (.map (some mw)) ∧ W.cell? ⟨b, 4, none⟩ = some (.map (some ml)) ∧ W.cell? ⟨b, 5, none⟩ = some (.bool false) ∧ W.frozen? ⟨b, 0, none⟩ = false := by
  refine ⟨?_, ?_, ?_, ?_, ?_⟩ <;> simp [World.cell?, World.frozen?, h.box]
theorem St.lock (h : St b st n mw ml c1 c2 cap o re L1 L2 W) (st' : Int) : St b st' n mw ml c1 c2 cap o re L1 L2 (W.setCell ⟨b, 0, none⟩ (.int .i32 st')) := by
  have hne := h.ne
  have ht := setCell_tn W b 0 (.int .i32 st')
  refine ⟨?_, h.wat.same (ht.block mw h.lt.2.1 (by omega)), h.last.same (ht.block ml h.lt.2.2.1 (by omega)), h.ch1.turned ht (by omega), h.ch2.turned ht (by omega)⟩
  simp [World.setCell, Array.getElem?_modify, h.box]
theorem St.swap (h : St b st n mw ml c1 c2 cap o re L1 L2 W) : ChanAt c1 cap L1 W ∧ ChanAt c2 cap L2 W := ⟨h.ch1, h.ch2⟩
end

/-- What the look-up hands out. -/
def lookA (o : Option Int) (re : Int) : Array Value := match o with | none => zero40 | some s => rngA s re
theorem lookA_size (o : Option Int) (re : Int) : (lookA o re).size = 40 := by cases o; exact zero40_size; exact rngA_size _ _
theorem lookA_one (o : Option Int) (re : Int) : (lookA o re).all (·.oneCell') = true := by
  cases o with
  | none => simp [lookA, zero40, Value.oneCell']
  | some s => exact rngA_one _ _
theorem look {ml : Nat} {o : Option Int} {re : Int} {W : World} (h : LastAt ml o re W) : (Instr.lookup 35 (.map (some ml)) (.agg (idA re)) true).run Yba.prog W = .ok (.tuple #[.agg (lookA o re), .bool o.isSome]) W := by
  cases o with
  | none => exact look_none h
  | some s => exact look_some h
theorem exec_look {oi : Oper} {a : Act} {ml : Nat} {o : Option Int} {re : Int} {W : World} {x y : Operand} (ho : oi.op = .lookup 35 x y true) (hx : a.eval x = .map (some ml)) (hy : a.eval y = .agg (idA re)) (h : LastAt ml o re W) :
    (execOp a.eval oi).run Yba.prog W = .ok (.value (.tuple #[.agg (lookA o re), .bool o.isSome])) W := by
  unfold execOp
  simp only [ho, hx, hy, Sem.run_bind, Sem.run_pure, Result.andThen_ok, look h]
theorem idL27 (e : Int) : (Yba.prog.info? 27).map (·.size) = some (idA e).toList.length := by simpa [idA_size] using size27
theorem exec_load27 {o : Oper} {a : Act} {w : World} {x : Operand} {s e : Int} {g : Nat} (ho : o.op = .load 27 x) (hx : a.eval x = .pointer (some ⟨g, 20, none⟩)) (hg : RngAt g s e w) :
    (execOp a.eval o).run Yba.prog w = .ok (.value (.agg (idA e))) w := exec_load_mid ho hx _ hg.endId under27 rfl (idL27 e)

section
variable {P : Program} {ops : Array Oper} {Q : Exit → Act → World → Prop} {S : World → Prop} {md : Region.Mode}
theorem regAt_not {a : Act} {w : World} {i : Nat} {rest : List Nat} {o : Oper} (d : Option Tmp) (ho : ops[i]? = some o) (hd : o.dst = d) (hw : Region.wanted o (yielded ops a.tmps) = false) (h : RegAt P ops Q rest (a.put d undef) w) : RegAt P ops Q (i :: rest) a w := by
  subst hd
  intro b k cs
  obtain ⟨e, a', w'', hq, harr⟩ := h b k cs
  refine ⟨e, a', w'', hq, .of_steps (.one (step_lone_go ?_)) harr⟩
  have := stepG_unwanted (P := P) (main := true) (b := b) (k := k) (cs := cs) (w := w) (rest := rest) ho hw
  unfold G at this
  rw [this]; rfl
theorem takes {i : Nat} {oi : Oper} (d : Option Tmp) (v : Value) {fuel : Nat} {listed : Array Bool} {a : Act} {w : World} (hi : ops[i]? = some oi) (hd : oi.dst = d) (hs : Region.noSelect ops = true) (hf : Region.free md ops listed i = true)
    (hr : (Region.ready md ops listed).contains i = true) (hQ : ∀ c a w, Q (.panic c) (a.put oi.dst v) w → Q (.panic c) a w) (hw : Region.wanted oi (yielded ops a.tmps) = true)
    (hrun : ∀ W, S W → (execOp a.eval oi).run P W = .ok (.value v) W) (hS : S w) (h : wpAnyH P md ops Q S fuel (listed.setIfInBounds i true) (a.put d v) w) : wpAnyH P md ops Q S (fuel + 1) listed a w :=
  take_run hi hs hf hr hQ hw hrun hS (hd ▸ h)
theorem only_value {i : Nat} {oi : Oper} (d : Option Tmp) (v : Value) {fuel : Nat} {listed : Array Bool} {a : Act} {w w' : World} (hi : ops[i]? = some oi) (hd : oi.dst = d) (hr : Region.ready md ops listed = [i]) (hw : Region.wanted oi (yielded ops a.tmps) = true)
    (hrun : (execOp a.eval oi).run P w = .ok (.value v) w') (hS : S w') (h : wpAnyH P md ops Q S fuel (listed.setIfInBounds i true) (a.put d v) w') : wpAnyH P md ops Q S (fuel + 1) listed a w := by
  subst hd
  refine only_op hi hr hw ?_
  unfold Oper.wp
  rw [hrun]
  exact ⟨hS, h⟩
theorem only_skip {i : Nat} {oi : Oper} (d : Option Tmp) {fuel : Nat} {listed : Array Bool} {a : Act} {w w' : World} (hi : ops[i]? = some oi) (hd : oi.dst = d) (hr : Region.ready md ops listed = [i]) (hw : Region.wanted oi (yielded ops a.tmps) = true)
    (hrun : (execOp a.eval oi).run P w = .ok .skip w') (hS : S w') (h : wpAnyH P md ops Q S fuel (listed.setIfInBounds i true) (a.put d undef) w') : wpAnyH P md ops Q S (fuel + 1) listed a w := by
  subst hd
  refine only_op hi hr hw ?_
  unfold Oper.wp
  rw [hrun]
  exact ⟨hS, h⟩
end
theorem exec_store_to {o : Oper} {a : Act} {w : World} {x y : Operand} {g : Nat} {C old : Array Value} (ho : o.op = .store 29 x y) (hx : a.eval x = .pointer (some ⟨g, 0, none⟩)) (hy : a.eval y = .agg C) (hs : C.size = 40) (h1 : C.all (·.oneCell') = true)
    (hg : w.heap[g]? = some (.cells old 29 (0, 0))) (hold : old.size = 40) : (execOp a.eval o).run Yba.prog w = .ok .skip (w.setRow g C) := by
  unfold execOp
  simp only [ho, hx, hy, Instr.storeAt, Instr.sureAddr, Sem.run_bind, Sem.run_pure, Result.andThen_ok, run_storeVar_row w g 29 29 old C hg (by rw [hs]; exact size29) (by rw [hs, hold]) h1]
theorem setRow_tn (W : World) (g : Nat) (c : Array Value) : Tn (· = g) W (W.setRow g c) :=
  ⟨rfl, rfl, rfl, by simp [World.setRow], fun k _ hk => by simp [World.setRow, Array.getElem?_modify, Ne.symm hk]⟩

theorem exec_eql29 {o : Oper} {a : Act} {w : World} {x y : Operand} {s e s' e' : Int} {t : TypeId} (ho : o.op = .binOp .eql 29 x y t) (hx : a.eval x = .agg (rngA s e)) (hy : a.eval y = .agg (rngA s' e')) :
    (execOp a.eval o).run Yba.prog w = .ok (.value (.bool (decide (s = s') && decide (e = e')))) w := by
  unfold execOp
  simp [ho, hx, hy, eqGuard, eql29]
theorem exec_neq29 {o : Oper} {a : Act} {w : World} {x y : Operand} {s e s' e' : Int} {t : TypeId} (ho : o.op = .binOp .neq 29 x y t) (hx : a.eval x = .agg (rngA s e)) (hy : a.eval y = .agg (rngA s' e')) :
    (execOp a.eval o).run Yba.prog w = .ok (.value (.bool (!(decide (s = s') && decide (e = e'))))) w := by
  unfold execOp
  simp [ho, hx, hy, eqGuard, neq29]
theorem exec_eql27 {o : Oper} {a : Act} {w : World} {x y : Operand} {s e : Int} {t : TypeId} (ho : o.op = .binOp .eql 27 x y t) (hx : a.eval x = .agg (idA s)) (hy : a.eval y = .agg (idA e)) :
    (execOp a.eval o).run Yba.prog w = .ok (.value (.bool (decide (s = e)))) w := by
  unfold execOp
  simp [ho, hx, hy, eqGuard, eql27]
theorem exec_eqlTo {o : Oper} {a : Act} {w : World} {x y : Operand} {s e s' e' : Int} {t : TypeId} (c : Bool) (hc : (decide (s = s') && decide (e = e')) = c) (ho : o.op = .binOp .eql 29 x y t) (hx : a.eval x = .agg (rngA s e)) (hy : a.eval y = .agg (rngA s' e')) :
    (execOp a.eval o).run Yba.prog w = .ok (.value (.bool c)) w := by rw [exec_eql29 ho hx hy, hc]
theorem exec_pickTo {o : Oper} {a : Act} {w : World} {x y z : Operand} {c : Bool} {v : Value} (ho : o.op = .pick x y z) (hx : a.eval x = .bool c) (hv : (if c then a.eval y else a.eval z) = v) :
    (execOp a.eval o).run Yba.prog w = .ok (.value v) w := by
  unfold execOp
  subst hv
  cases c <;> simp [ho, hx, asBool]
theorem exec_pick {o : Oper} {a : Act} {w : World} {x y z : Operand} {c : Bool} (ho : o.op = .pick x y z) (hx : a.eval x = .bool c) :
    (execOp a.eval o).run Yba.prog w = .ok (.value (if c then a.eval y else a.eval z)) w := by
  unfold execOp
  cases c <;> simp [ho, hx, asBool]
theorem exec_put {oi : Oper} {a : Act} {ml : Nat} {s re : Int} {W W' : World} {x y z : Operand} (ho : oi.op = .mapUpdate 35 x y z) (hx : a.eval x = .map (some ml)) (hy : a.eval y = .agg (idA re)) (hz : a.eval z = .agg (rngA s re))
    (hr : (Instr.mapUpdate 35 (.map (some ml)) (.agg (idA re)) (.agg (rngA s re))).run Yba.prog W = .ok () W') : (execOp a.eval oi).run Yba.prog W = .ok .skip W' := by
  unfold execOp
  simp only [ho, hx, hy, hz, Sem.run_bind, Sem.run_pure, Result.andThen_ok, hr]

theorem regAt_to {P : Program} {ops : Array Oper} {Q : Exit → Act → World → Prop} {a : Act} {w w' : World} {i : Nat} {rest : List Nat} {o : Oper} (d : Option Tmp) (v : Value) (ho : ops[i]? = some o) (hd : o.dst = d) (hw : Region.wanted o (yielded ops a.tmps) = true) (hr : (execOp a.eval o).run P w = .ok (.value v) w') (h : RegAt P ops Q rest (a.put d v) w') :
    RegAt P ops Q (i :: rest) a w := regAt_value ho hw hr (hd ▸ h)
theorem exec_index {o : Oper} {a : Act} {w : World} {x y : Operand} {G n cap i : Nat} (ho : o.op = .indexAddr 25 x y) (hx : a.eval x = .slice (some ⟨G, 0, none⟩) n cap) (hy : a.eval y = .int .i64 i) (hi : i < n) :
    (execOp a.eval o).run Yba.prog w = .ok (.value (.pointer (some ⟨G, i * 40, none⟩))) w := by
  unfold execOp
  simp [ho, hx, hy, Instr.indexAt, asIntOf, Addr.add_mid]
  omega
theorem exec_store_mid {o : Oper} {a : Act} {w : World} {x y : Operand} {g off : Nat} {s e : Int} (ho : o.op = .store 29 x y) (hx : a.eval x = .pointer (some ⟨g, off, none⟩)) (hy : a.eval y = .agg (rngA s e)) (ht : w.there g off 40) :
    (execOp a.eval o).run Yba.prog w = .ok .skip (w.setCells g off (rngA s e).toList) := by
  unfold execOp
  simp only [ho, hx, hy, Sem.run_bind, Sem.run_pure, Result.andThen_ok, run_storeAt_mid w g off 29 (rngA s e) (by rw [rngA_size]; exact ht) (by rw [rngA_size]; exact size29) (rngA_one s e)]
theorem exec_send {o : Oper} {a : Act} {w : World} {x y : Operand} {c : Nat} {v : Value} (ho : o.op = .send x y) (hx : a.eval x = .chan (some c)) (hy : a.eval y = v) :
    (execOp a.eval o).run Yba.prog w = .ok (.comm #[scase c v (.tuple #[])] true .send) w := by
  unfold execOp
  simp [ho, hx, hy, scase]
theorem exec_next {o : Oper} {a : Act} {w w' : World} {x : Operand} {p v : Value} (ho : o.op = .next x false) (hx : a.eval x = p) (hr : (Instr.next p false o.type).run Yba.prog w = .ok v w') : (execOp a.eval o).run Yba.prog w = .ok (.value v) w' := by
  unfold execOp
  simp only [ho, hx, Sem.run_bind, Sem.run_pure, Result.andThen_ok, hr]
theorem exec_entry {o : Oper} {a : Act} {w w' : World} {x : Operand} {p v : Value} (ho : o.op = .entry x) (hx : a.eval x = p) (hr : (Instr.entry p).run Yba.prog w = .ok v w') : (execOp a.eval o).run Yba.prog w = .ok (.value v) w' := by
  unfold execOp
  simp only [ho, hx, Sem.run_bind, Sem.run_pure, Result.andThen_ok, hr]
def iterLeft (it : Nat) (W : World) : Nat := match W.heap[it]? with | some (.mapIter _ _ seen _) => (if seen.contains 0 then 0 else 1) + (if seen.contains 1 then 0 else 1) | _ => 0
theorem IterAt.left {it mw : Nat} {d1 d2 : Bool} {W : World} (h : IterAt it mw d1 d2 W) : iterLeft it W = (if d1 then 0 else 1) + (if d2 then 0 else 1) := by
  obtain ⟨seen, h, h1, h2⟩ := h
  simp only [iterLeft, h, h1, h2]
theorem RngAt.same {g : Nat} {s e : Int} {W W' : World} (h : RngAt g s e W) (hs : W'.heap[g]? = W.heap[g]?) : RngAt g s e W' := hs.trans h
theorem RngAt.lt {g : Nat} {s e : Int} {W : World} (h : RngAt g s e W) : g < W.heap.size := (Array.getElem?_eq_some_iff.1 h).1
theorem Row.turned {S : Nat → Prop} {base : Nat} {v : Value} {M : List (Int × Int)} {W W' : World} (h : Row base v M W) (ht : Tn S W W') (hS : ∀ g, base ≤ g → ¬ S g) : Row base v M W' := by
  obtain ⟨g, cap, hv, hb, hg, hr⟩ := h
  exact ⟨g, cap, hv, hb, Nat.lt_of_lt_of_le hg ht.size, hr.same (ht.block g hg (hS g hb))⟩
theorem ChanAt.sent {c cap : Nat} {L : List (Int × Int)} {W : World} {s r : Nat} (h : c < W.heap.size) (p : Int × Int) : ChanAt c cap (L ++ [p]) (W.setChan c cap ((vals L).push (.agg (rngA p.1 p.2))) false s r false) :=
  ⟨s, r, by rw [heap_setChan _ _ _ _ _ _ _ _ h, vals_push]⟩

set_option maxRecDepth 100000 in
set_option maxHeartbeats 1600000 in
theorem idx14nil (cap g : Nat) (W : World) :
    Calls Yba.prog 14 #[.slice none 0 cap, .func (.func 15) #[] #[.pointer (some ⟨g, 0, none⟩)]] W fun x W' => x = .returned (.int .i64 (-1)) ∧ W' = W := by
  go_enter Yba.func14, Yba.ntmps14
  go_wp2
  go_loopw [8] (fun vi wr => vi = .int .i64 0 ∧ wr = W) (fun _ _ => 0)
  case atStart => exact ⟨rfl, rfl⟩
  case round =>
    obtain ⟨rfl, rfl⟩ := hrel
    go_wp2
    go_ret
    exact ⟨rfl, rfl⟩
theorem idx14own (v : Value) (L : List (Int × Int)) (base g : Nat) (rs re : Int) (W : World) (hv : Own base v L W) (hg : RngAt g rs re W) (hL : L.length ≤ 2000) :
    Calls Yba.prog 14 #[v, .func (.func 15) #[] #[.pointer (some ⟨g, 0, none⟩)]] W fun x W' => ∃ r, x = .returned (.int .i64 r) ∧ IsIdx L.length (fun i => L.getD i (0, 0)) re r ∧ Below W.heap.size W W' := by
  rcases hv.row with ⟨rfl, rfl⟩ | ⟨G, cap, rfl, _, hG, hr⟩
  · refine (idx14nil 0 g W).mono ?_
    rintro x W' ⟨rfl, rfl⟩
    exact ⟨-1, rfl, .inr ⟨rfl, fun j hj => by simp at hj⟩, Below.refl _ _⟩
  · exact idx14 G L.length cap g _ rs re W hr hG hg (Array.getElem?_eq_some_iff.1 hg).1 hL
end Go.Proofs.Ybulkahii
