/-
  LawS1659BSend: (*rangeWatch).send.
-/
import Derived.Test.YbulkahiiSendA
import Derived.Defers
import Derived.Deep.RegionHeld3
namespace Go.Proofs.Ybulkahii
open Go.RowKit Go.Conc Go.MuLone

theorem door8 {b mw ml c1 c2 cap : Nat} {n re : Int} {o : Option Int} {L1 L2 : List (Int × Int)} {W : World} {R : Ending → World → Prop} (tmps : Array Value) (hst : St b 1 n mw ml c1 c2 cap o re L1 L2 W) (hR : R (.returned (.tuple #[])) (W.setCell ⟨b, 0, none⟩ (.int .i32 0))) :
    Leaves Yba.prog Yba.f8 tmps R [{ target := Target.fn (Fn.func 12) #[], args := #[Value.pointer (some ⟨b, 0, none⟩)] }] .returning W := by
  obtain ⟨c0, _, _, _, f0⟩ := hst.cell
  refine leaves_cons (f := 12) (args := #[.pointer (some ⟨b, 0, none⟩)]) (by simp) (by simp [go_sem]) ?_
  refine (unlock_deferred Yba.muLib ⟨b, 0, none⟩ .returning _ c0 f0).mono ?_
  rintro e u' w'' ⟨rfl, rfl, rfl⟩
  exact ⟨_, results_none rfl _ _ _, hR⟩

set_option maxRecDepth 100000 in
set_option maxHeartbeats 3200000 in
theorem send8 (b mw ml c1 c2 cap : Nat) (n rs re : Int) (o : Option Int) (L1 L2 : List (Int × Int)) (W : World) (hst : Hid (St b 0 n mw ml c1 c2 cap o re L1 L2 W)) (hne : c1 ≠ c2) (h1 : L1.length < cap) (h2 : L2.length < cap) (hcap : cap ≤ 2000) :
    Calls Yba.prog 8 #[.pointer (some ⟨b, 0, none⟩), .agg (rngA rs re)] W fun x W' => x = .returned (.tuple #[]) ∧ Tn (fun k => k = b ∨ k = ml ∨ k = c1 ∨ k = c2) W W' ∧
      ((o = some rs ∧ St b 0 n mw ml c1 c2 cap (some rs) re L1 L2 W') ∨ (o ≠ some rs ∧ St b 0 n mw ml c1 c2 cap (some rs) re (repl rs re L1) (repl rs re L2) W')) := by
  obtain ⟨C, hC⟩ : ∃ C, Hid (C = rngA rs re) := ⟨_, rfl⟩
  rw [← hC.out]
  go_enter_defers Yba.func8, Yba.ntmps8
  go_upto_region 1 with fail
  have w1 : Hid (RngAt W.heap.size rs re (W.alloc (.cells C 29))) := by rw [hC.out]; exact Deep.blk_alloc_new W _
  have hb : Hid (Tn (fun _ => False) W (W.alloc (.cells C 29))) := Tn.alloc _ _ _
  have hs1 : W.heap.size < (W.alloc (.cells C 29)).heap.size := by show _ < (W.heap.push _).size; simp
  have st1 : Hid (St b 0 n mw ml c1 c2 cap o re L1 L2 (W.alloc (.cells C 29))) := hst.out.fresh hb.out
  generalize W.alloc (.cells C 29) = W1 at w1 hb hs1 st1 ⊢
  obtain ⟨c0, _, _, _, f0⟩ := st1.out.cell
  generalize hg : W.heap.size = g at w1 hs1 ⊢
  go_upto_region 3 with (go_at_call 11; refine (lock_free Yba.muLib ⟨b, 0, none⟩ _ c0 f0).mono ?_; rintro e w' ⟨rfl, rfl⟩)
  have st2 : Hid (St b 1 n mw ml c1 c2 cap o re L1 L2 (W1.setCell ⟨b, 0, none⟩ (.int .i32 1))) := st1.out.lock 1
  have tn2 : Hid (Tn (· = b) W1 (W1.setCell ⟨b, 0, none⟩ (.int .i32 1))) := setCell_tn _ _ _ _
  have t2 : Hid (Tn (· = b) W (W1.setCell ⟨b, 0, none⟩ (.int .i32 1))) := (hb.out.mono (by simp)).then tn2.out
  have r2 : Hid (RngAt g rs re (W1.setCell ⟨b, 0, none⟩ (.int .i32 1))) := by
    have := hst.out.lt.1
    show _ = _
    rw [tn2.out.block g hs1 (by omega)]; exact w1.out
  have hm : Yba.prog.follows .mixedOrders = true := by kernel_rfl
  generalize W1.setCell ⟨b, 0, none⟩ (.int .i32 1) = W2 at st2 t2 r2 ⊢
  clear tn2 c0 f0
  have S0 : St b 1 n mw ml c1 c2 cap o re L1 L2 W2.drew ∧ RngAt g rs re W2.drew := ⟨st2.out.fresh (Tn.drew _ W2), r2.out⟩
  refine wp_region_noPanic ?_
  refine wp_region_held (S := fun W' => St b 1 n mw ml c1 c2 cap o re L1 L2 W' ∧ RngAt g rs re W') hm ?_
  refine takes (some 19) (.pointer (some ⟨b, 0, none⟩)) (i := 0) rfl rfl (by kernel_rfl) (by kernel_rfl) (by kernel_rfl) (fun _ _ _ h => h) rfl (fun W hW => by simp [execOp, go_sem, Act.eval]) S0 ?_
  go_frame
  refine takes (some 20) (.pointer (some ⟨b, 0, none⟩)) (i := 1) rfl rfl (by kernel_rfl) (by kernel_rfl) (by kernel_rfl) (fun _ _ _ h => h) rfl (fun W hW => by simp [execOp, go_sem, Act.eval]) S0 ?_
  go_frame
  refine takes (some 21) (.pointer (some ⟨b, 4, none⟩)) (i := 2) rfl rfl (by kernel_rfl) (by kernel_rfl) (by kernel_rfl) (fun _ _ _ h => h) rfl (fun W hW => by simp [execOp, go_sem, Act.eval]) S0 ?_
  go_frame
  refine takes (some 22) (.map (some ml)) (i := 3) rfl rfl (by kernel_rfl) (by kernel_rfl) (by kernel_rfl) (fun _ _ _ h => h) rfl (fun W hW => by have := hW.1.cell.2.2.1; simp [execOp, go_sem, Act.eval, this]) S0 ?_
  go_frame
  refine takes (some 23) (.pointer (some ⟨g, 20, none⟩)) (i := 4) rfl rfl (by kernel_rfl) (by kernel_rfl) (by kernel_rfl) (fun _ _ _ h => h) rfl (fun W hW => by simp [execOp, go_sem, Act.eval]) S0 ?_
  go_frame
  refine takes (some 24) (.agg (idA re)) (i := 5) rfl rfl (by kernel_rfl) (by kernel_rfl) (by kernel_rfl) (fun _ _ _ h => h) rfl (fun W hW => exec_load27 rfl rfl hW.2) S0 ?_
  go_frame
  refine takes (some 25) (.tuple #[.agg (lookA o re), .bool o.isSome]) (i := 6) rfl rfl (by kernel_rfl) (by kernel_rfl) (by kernel_rfl) (fun _ _ _ h => h) rfl (fun W hW => exec_look rfl rfl rfl hW.1.last) S0 ?_
  go_frame
  refine takes (some 18) (.tuple #[.agg (lookA o re), .bool o.isSome]) (i := 7) rfl rfl (by kernel_rfl) (by kernel_rfl) (by kernel_rfl) (fun _ _ _ h => h) rfl (fun W hW => by simp [execOp, Act.eval]) S0 ?_
  go_frame
  refine takes (some 26) (.agg (lookA o re)) (i := 8) rfl rfl (by kernel_rfl) (by kernel_rfl) (by kernel_rfl) (fun _ _ _ h => h) rfl (fun W hW => by simp [execOp, go_sem, Act.eval]) S0 ?_
  go_frame
  refine takes (some 27) (.bool o.isSome) (i := 9) rfl rfl (by kernel_rfl) (by kernel_rfl) (by kernel_rfl) (fun _ _ _ h => h) rfl (fun W hW => by simp [execOp, go_sem, Act.eval]) S0 ?_
  go_frame
  have t3 : Hid (Tn (· = b) W W2.drew) := t2.out.then (Tn.drew _ _)
  have hgl : g < W2.drew.heap.size := by have := hb.out.size; have := (Array.getElem?_eq_some_iff.1 r2.out).1; exact this
  change wpAnyH _ _ _ _ _ _ _ _ W2.drew
  generalize W2.drew = W3 at t3 hgl S0 ⊢
  have hz : (W3.alloc (.cells zero40 29)).heap[W3.heap.size]? = some (.cells zero40 29 (0, 0)) := Deep.blk_alloc_new W3 _
  have t4 : Hid (Tn (fun _ => False) W3 (W3.alloc (.cells zero40 29))) := Tn.alloc _ _ _
  have S1 : St b 1 n mw ml c1 c2 cap o re L1 L2 (W3.alloc (.cells zero40 29)) ∧ RngAt g rs re (W3.alloc (.cells zero40 29)) := ⟨S0.1.fresh t4.out, by show _ = _; rw [t4.out.block g hgl (by simp)]; exact S0.2⟩
  refine only_value (some 4) (.pointer (some ⟨W3.heap.size, 0, none⟩)) (i := 10) rfl rfl (by kernel_rfl) rfl (exec_alloc29 rfl) S1 ?_
  go_frame
  have tz : Tn (fun _ => False) W3 ((W3.alloc (.cells zero40 29)).setRow W3.heap.size (lookA o re)) := t4.out.trans (setRow_tn _ _ _) (fun k hk => .inr (by omega))
  have S2 : St b 1 n mw ml c1 c2 cap o re L1 L2 ((W3.alloc (.cells zero40 29)).setRow W3.heap.size (lookA o re)) ∧ RngAt g rs re ((W3.alloc (.cells zero40 29)).setRow W3.heap.size (lookA o re)) := ⟨S0.1.fresh tz, by show _ = _; rw [tz.block g hgl (by simp)]; exact S0.2⟩
  refine only_skip none (i := 11) rfl rfl (by kernel_rfl) rfl (exec_store_to rfl rfl rfl (lookA_size _ _) (lookA_one _ _) hz zero40_size) S2 ?_
  have hlk : ((W3.alloc (.cells zero40 29)).setRow W3.heap.size (lookA o re)).heap[W3.heap.size]? = some (.cells (lookA o re) 29 (0, 0)) := setRow_same _ _ _ _ _ hz
  generalize (W3.alloc (.cells zero40 29)).setRow W3.heap.size (lookA o re) = W4 at tz S2 hlk ⊢
  go_frame
  refine takes (some 5) (.bool o.isSome) (i := 12) rfl rfl (by kernel_rfl) (by kernel_rfl) (by kernel_rfl) (fun _ _ _ h => h) rfl (fun W hW => by simp [execOp, go_sem, Act.eval]) S2 ?_
  go_frame
  refine wpAnyH_done (by kernel_rfl) (NoPanic.normal ?_) _
  have t5 : Hid (Tn (· = b) W W4) := t3.out.then (tz.mono (by simp))
  have st4 : Hid (St b 1 n mw ml c1 c2 cap o re L1 L2 W4) := S2.1
  have r4 : Hid (RngAt g rs re W4) := S2.2
  have hlk : Hid (W4.heap[W3.heap.size]? = some (.cells (lookA o re) 29 (0, 0))) := hlk
  clear S2 t3 t4 hz S0 S1 tz t2 r2 st2
  generalize hgl4 : W3.heap.size = g4 at hlk ⊢
  clear hgl4
  go_upto_region 4 with fail
  go_cut [33] from 28 to 33 (fun v wx => v = .bool (decide (o = some rs)) ∧ wx = W4)
  case first =>
    refine wp_region_at ?_
    refine regAt_move (some 28) (.bool o.isSome) rfl rfl rfl (.inl rfl) rfl ?_
    go_frame
    refine regAt_move (some 29) (.bool o.isSome) rfl rfl rfl (.inl rfl) rfl ?_
    go_frame
    obtain _ | s := o
    · refine regAt_not (some 30) rfl rfl rfl ?_
      go_frame
      refine regAt_not (some 31) rfl rfl rfl ?_
      go_frame
      refine regAt_not (some 32) rfl rfl rfl ?_
      go_frame
      refine regAt_pure (some 33) (.bool false) rfl rfl rfl (exec_pickTo (c := false) rfl rfl rfl) ?_
      refine regAt_done ?_
      go_frame
      go_wp2
      go_meet
      exact ⟨by simp, rfl⟩
    · refine regAt_load (some 30) rs re g rfl rfl rfl rfl rfl r4.out ?_
      go_frame
      refine regAt_load (some 31) s re g4 rfl rfl rfl rfl rfl hlk.out ?_
      go_frame
      refine regAt_pure (some 32) (.bool (decide (rs = s))) rfl rfl rfl (exec_eqlTo _ (by simp) rfl rfl rfl) ?_
      go_frame
      refine regAt_pure (some 33) (.bool (decide (rs = s))) rfl rfl rfl (exec_pickTo (c := true) rfl rfl rfl) ?_
      refine regAt_done ?_
      go_frame
      go_wp2
      go_meet
      exact ⟨by simp [eq_comm], rfl⟩
  case rest =>
    obtain ⟨rfl, rfl⟩ := hcut
    by_cases ho : o = some rs
    · rw [decide_eq_true ho]
      go_wp2
      refine door8 _ st4.out ⟨rfl, ?_, .inl ⟨ho, ho ▸ st4.out.lock 0⟩⟩
      exact (t5.out.mono (fun _ h => .inl h)).then ((setCell_tn _ _ _ _).mono (fun _ h => .inl h))
    · rw [decide_eq_false ho]
      clear hlk
      go_upto_region 5 with fail
      have S5 : St b 1 n mw ml c1 c2 cap o re L1 L2 wc.drew ∧ RngAt g rs re wc.drew := ⟨st4.out.fresh (Tn.drew _ wc), r4.out⟩
      refine wp_region_noPanic ?_
      refine wp_region_held (S := fun W' => (St b 1 n mw ml c1 c2 cap o re L1 L2 W' ∨ St b 1 n mw ml c1 c2 cap (some rs) re L1 L2 W') ∧ RngAt g rs re W') hm ?_
      have S0 : (St b 1 n mw ml c1 c2 cap o re L1 L2 wc.drew ∨ St b 1 n mw ml c1 c2 cap (some rs) re L1 L2 wc.drew) ∧ RngAt g rs re wc.drew := ⟨.inl S5.1, S5.2⟩
      refine takes (some 34) (.pointer (some ⟨b, 0, none⟩)) (i := 0) rfl rfl (by kernel_rfl) (by kernel_rfl) (by kernel_rfl) (fun _ _ _ h => h) rfl (fun W hW => by simp [execOp, go_sem, Act.eval]) S0 ?_
      go_frame
      refine takes (some 35) (.pointer (some ⟨b, 0, none⟩)) (i := 1) rfl rfl (by kernel_rfl) (by kernel_rfl) (by kernel_rfl) (fun _ _ _ h => h) rfl (fun W hW => by simp [execOp, go_sem, Act.eval]) S0 ?_
      go_frame
      refine takes (some 36) (.pointer (some ⟨b, 4, none⟩)) (i := 2) rfl rfl (by kernel_rfl) (by kernel_rfl) (by kernel_rfl) (fun _ _ _ h => h) rfl (fun W hW => by simp [execOp, go_sem, Act.eval]) S0 ?_
      go_frame
      refine takes (some 37) (.map (some ml)) (i := 3) rfl rfl (by kernel_rfl) (by kernel_rfl) (by kernel_rfl) (fun _ _ _ h => h) rfl (fun W hW => by
        have : W.cell? ⟨b, 4, none⟩ = some (.map (some ml)) := by rcases hW.1 with h | h <;> exact h.cell.2.2.1
        simp [execOp, go_sem, Act.eval, this]) S0 ?_
      go_frame
      refine takes (some 38) (.pointer (some ⟨g, 20, none⟩)) (i := 4) rfl rfl (by kernel_rfl) (by kernel_rfl) (by kernel_rfl) (fun _ _ _ h => h) rfl (fun W hW => by simp [execOp, go_sem, Act.eval]) S0 ?_
      go_frame
      refine takes (some 39) (.agg (idA re)) (i := 5) rfl rfl (by kernel_rfl) (by kernel_rfl) (by kernel_rfl) (fun _ _ _ h => h) rfl (fun W hW => exec_load27 rfl rfl hW.2) S0 ?_
      go_frame
      refine takes (some 40) (.agg (rngA rs re)) (i := 6) rfl rfl (by kernel_rfl) (by kernel_rfl) (by kernel_rfl) (fun _ _ _ h => h) rfl (fun W hW => exec_load29 rfl rfl hW.2) S0 ?_
      go_frame
      obtain ⟨w5, hput, hl5, tn5⟩ := put_last (s := rs) S5.1.last
      have hgml : g ≠ ml := by have := hst.out.lt.2.2.1; omega
      have st5 : Hid (St b 1 n mw ml c1 c2 cap (some rs) re L1 L2 w5) := by
        have hn := S5.1.ne
        have hl := S5.1.lt
        exact ⟨by rw [tn5.block b hl.1 (by omega)]; exact S5.1.box, S5.1.wat.same (tn5.block mw hl.2.1 (by omega)), hl5, S5.1.ch1.turned tn5 (by omega), S5.1.ch2.turned tn5 (by omega)⟩
      have r5 : Hid (RngAt g rs re w5) := by
        show _ = _
        rw [tn5.block g ((Array.getElem?_eq_some_iff.1 S5.2).1) hgml]; exact S5.2
      refine only_skip none (i := 7) rfl rfl (by kernel_rfl) rfl (exec_put rfl rfl rfl rfl hput) ⟨.inr st5.out, r5.out⟩ ?_
      go_frame
      refine wpAnyH_done (by kernel_rfl) (NoPanic.normal ?_) _
      have t6 : Hid (Tn (fun k => k = b ∨ k = ml ∨ k = c1 ∨ k = c2) W w5) := ((t5.out.then (Tn.drew _ wc)).mono (fun _ h => .inl h)).then (tn5.mono (fun _ h => .inr (.inl h)))
      clear S0 S5 hput hl5 tn5 r4 st4 t5 st1
      obtain ⟨_, c3, _, _, _⟩ := st5.out.cell
      obtain ⟨f1, f2, hmw⟩ := st5.out.wat
      have hrange := run_range_map (P := Yba.prog) w5 34 31 33 mw _ 2 under34 hmw
      go_wp2
      have hit : Hid (IterAt w5.heap.size mw false false (w5.alloc (.mapIter (some mw) 2 #[] 2))) := ⟨#[], Deep.blk_alloc_new w5 _, by simp, by simp⟩
      have tn6 : Hid (Tn (fun _ => False) w5 (w5.alloc (.mapIter (some mw) 2 #[] 2))) := Tn.alloc _ _ _
      have st6 : Hid (St b 1 n mw ml c1 c2 cap (some rs) re L1 L2 (w5.alloc (.mapIter (some mw) 2 #[] 2))) := st5.out.fresh tn6.out
      have r6 : Hid (RngAt g rs re (w5.alloc (.mapIter (some mw) 2 #[] 2))) := r5.out.same (tn6.out.block g r5.out.lt (by simp))
      have t7 : Hid (Tn (fun k => k = b ∨ k = ml ∨ k = c1 ∨ k = c2) W (w5.alloc (.mapIter (some mw) 2 #[] 2))) := t6.out.then (tn6.out.mono (by simp))
      have hgit : g < w5.heap.size := r5.out.lt
      have hgW : W.heap.size ≤ g := by omega
      generalize w5.alloc (.mapIter (some mw) 2 #[] 2) = w6 at hit st6 r6 t7 ⊢
      generalize w5.heap.size = it at hit hgit ⊢
      clear tn6 st5 r5 t6 hrange hmw c3
      have hlts := hst.out.lt
      go_loopw [6] (fun _ wr => Hid (∃ d1 d2, IterAt it mw d1 d2 wr ∧ St b 1 n mw ml c1 c2 cap (some rs) re (if d1 then repl rs re L1 else L1) (if d2 then repl rs re L2 else L2) wr ∧ RngAt g rs re wr ∧ Tn (fun k => k = b ∨ k = ml ∨ k = c1 ∨ k = c2) W wr)) (fun _ wr => iterLeft it wr)
      case atStart => exact ⟨false, false, hit.out, st6.out, r6.out, t7.out⟩
      case round =>
        obtain ⟨d1, d2, hi, hs, hr, ht⟩ := hrel.out
        clear hrel
        go_upto_region 7 with fail
        refine wp_region_at ?_
        rcases next_step hi hs.wat 0 with ⟨rfl, rfl, hn⟩ | ⟨k, v, w7, hn, tn7, hcase⟩
        · refine regAt_to (some 46) (.tuple #[.bool false]) rfl rfl rfl (exec_next rfl rfl hn) ?_
          go_frame
          refine regAt_pure (some 47) (.bool false) rfl rfl rfl (by simp [execOp, go_sem, Act.eval]) ?_
          refine regAt_done ?_
          go_frame
          go_wp2
          refine door8 _ hs ⟨rfl, ?_, (by first | exact hs.lock 0 | exact .inr ⟨ho, hs.lock 0⟩)⟩
          exact ht.then ((setCell_tn _ _ _ _).mono (fun _ h => .inl h))
        · have st7 := hs.turned tn7 (by omega) (by omega) (by omega) (by omega) (by omega)
          have r7 : RngAt g rs re w7 := hr.same (tn7.block g hr.lt (by omega))
          have t8 : Tn (fun k => k = b ∨ k = ml ∨ k = c1 ∨ k = c2) W w7 := ht.trans tn7 (fun x hx => .inr (by omega))
          have hmeas := hi.left
          have hkey : Hid (∃ c L, c < W.heap.size ∧ ChanAt c cap L w7 ∧ L.length < cap ∧ (∃ x, (Instr.entry (.pointer (some ⟨it, 0, none⟩))).run Yba.prog w7 = .ok (.tuple #[.chan (some c), x]) w7) ∧
              ∀ w'', Tn (· = c) w7 w'' → ChanAt c cap (repl rs re L) w'' → (∃ d1 d2, IterAt it mw d1 d2 w'' ∧ St b 1 n mw ml c1 c2 cap (some rs) re (if d1 then repl rs re L1 else L1) (if d2 then repl rs re L2 else L2) w'' ∧ RngAt g rs re w'' ∧ Tn (fun k => k = b ∨ k = ml ∨ k = c1 ∨ k = c2) W w'') ∧ iterLeft it w'' < iterLeft it wr) := by
            have hnes := st7.ne
            have hlt7 := st7.lt
            rcases hcase with ⟨rfl, hi7, hen⟩ | ⟨rfl, hi7, hen⟩
            · refine ⟨c1, L1, hlts.2.2.2.1, st7.ch1, h1, hen, fun w'' tn hc => ?_⟩
              have hi8 : IterAt it mw true d2 w'' := hi7.same (tn.block it hi7.lt (by omega))
              refine ⟨⟨true, d2, hi8, ⟨?_, ?_, ?_, hc, ?_⟩, r7.same (tn.block g r7.lt (by omega)), t8.then (tn.mono (by simp +contextual))⟩, ?_⟩
              · rw [tn.block b hlt7.1 (by omega)]; exact st7.box
              · exact st7.wat.same (tn.block mw hlt7.2.1 (by omega))
              · exact st7.last.same (tn.block ml hlt7.2.2.1 (by omega))
              · exact st7.ch2.turned tn (by omega)
              · rw [hi8.left, hmeas]; simp
            · refine ⟨c2, L2, hlts.2.2.2.2, st7.ch2, h2, hen, fun w'' tn hc => ?_⟩
              have hi8 : IterAt it mw d1 true w'' := hi7.same (tn.block it hi7.lt (by omega))
              refine ⟨⟨d1, true, hi8, ⟨?_, ?_, ?_, ?_, hc⟩, r7.same (tn.block g r7.lt (by omega)), t8.then (tn.mono (by simp +contextual))⟩, ?_⟩
              · rw [tn.block b hlt7.1 (by omega)]; exact st7.box
              · exact st7.wat.same (tn.block mw hlt7.2.1 (by omega))
              · exact st7.last.same (tn.block ml hlt7.2.2.1 (by omega))
              · exact st7.ch1.turned tn (by omega)
              · rw [hi8.left, hmeas]; simp
          refine regAt_to (some 46) (.tuple #[.bool true, k, v]) rfl rfl rfl (exec_next rfl rfl hn) ?_
          go_frame
          refine regAt_pure (some 47) (.bool true) rfl rfl rfl (by simp [execOp, go_sem, Act.eval]) ?_
          refine regAt_done ?_
          go_frame
          have hW7 : W.heap.size ≤ w7.heap.size := t8.size
          have r7 : Hid (RngAt g rs re w7) := r7
          clear hcase st7 t8 tn7 hs hr ht hi hn hmeas st6 r6 t7 hit
          obtain ⟨c, L, hcW, hc7, hLc, ⟨x, hen⟩, hback⟩ := hkey.out
          clear hkey
          have hc7 : Hid (ChanAt c cap L w7) := hc7
          have hback : Hid _ := hback
          go_upto_region 8 with fail
          refine wp_region_at ?_
          refine regAt_to (some 48) (.tuple #[.chan (some c), x]) rfl rfl rfl (exec_entry rfl rfl hen) ?_
          go_frame
          refine regAt_pure (some 49) (.chan (some c)) rfl rfl rfl (by simp [execOp, go_sem, Act.eval]) ?_
          go_frame
          refine regAt_move (some 6) (.chan (some c)) rfl rfl rfl (.inr rfl) rfl ?_
          refine regAt_done ?_
          go_frame
          go_upto_region 10 with (go_at_call 13; refine (drain13 c cap L w7 hc7.out (by omega)).mono ?_; rintro e w8 ⟨v7, rfl, hown8', hch8', tn8'⟩)
          have hmf : ∀ (fn : Fn) (first cap : Array Value) (w : World), (Instr.makeFunc fn first cap).run Yba.prog w = .ok (.func fn first cap) w := fun _ _ _ _ => rfl
          have r8 : Hid (RngAt g rs re w8) := r7.out.same (tn8'.block g r7.out.lt (by omega))
          have hown8 : Hid (Own w7.heap.size v7 L w8) := hown8'
          have hch8 : Hid (ChanAt c cap [] w8) := hch8'
          have tn8 : Hid (Tn (· = c) w7 w8) := tn8'
          clear hown8' hch8' tn8'
          go_upto_if 56 with (go_at_call 14; refine (idx14own v7 L w7.heap.size g rs re w8 hown8.out r8.out (by omega)).mono ?_; rintro e w9 ⟨ri, rfl, hri', hb9'⟩)
          have hri : Hid (IsIdx L.length (fun i => L.getD i (0, 0)) re ri) := hri'
          have r9 : Hid (RngAt g rs re w9) := r8.out.same (hb9'.block g r8.out.lt)
          have hown9 : Hid (Own w7.heap.size v7 L w9) := hown8.out.kept hb9' (Nat.le_refl _)
          have tf9 : Tn (fun _ => False) w8 w9 := Tn.of_below hb9'
          have hch9 : Hid (ChanAt c cap [] w9) := hch8.out.turned tf9 (by simp)
          have tn9 : Hid (Tn (· = c) w7 w9) := tn8.out.then (tf9.mono (by simp))
          clear hri' hb9' tf9 hown8 hch8 tn8 r8
          go_cut [7] from 57 to 64 (fun v wx => Hid (Row w7.heap.size v (repl rs re L) wx ∧ ChanAt c cap [] wx ∧ Tn (· = c) w7 wx))
          case first =>
            rcases hri.out with ⟨kk, hk, rfl, hkr, hkn⟩ | ⟨rfl, hno⟩
            · go_upto_region 12 with fail
              refine wp_region_at ?_
              obtain ⟨G, capv, rfl, hGb, hGl, hrow⟩ : ∃ G capv, v7 = .slice (some ⟨G, 0, none⟩) L.length capv ∧ w7.heap.size ≤ G ∧ G < w9.heap.size ∧ RngRow G L.length (fun i => L.getD i (0, 0)) w9 := by
                rcases hown9.out.row with ⟨_, h2⟩ | h
                · subst h2; simp at hk
                · exact h
              refine regAt_move (some 57) _ rfl rfl rfl (.inl rfl) rfl ?_
              go_frame
              refine regAt_move (some 58) (.int .i64 kk) rfl rfl rfl (.inl rfl) rfl ?_
              go_frame
              refine regAt_load (some 59) rs re g rfl rfl rfl rfl rfl r9.out ?_
              go_frame
              refine regAt_pure (some 60) _ rfl rfl rfl (exec_index rfl rfl rfl hk) ?_
              go_frame
              refine regAt_skips none rfl rfl rfl (exec_store_mid rfl rfl rfl (there_row hown9.out rfl hk)) ?_
              refine regAt_done ?_
              go_frame
              have hrep := repl_found rs re L kk hk hkr hkn
              have hrow10 := own_set hown9.out rfl hk rs re
              rw [hrep] at hrow10
              have tn10 := setCells_tn G (rngA rs re).toList (kk * 40) w9
              generalize w9.setCells G (kk * 40) (rngA rs re).toList = w10 at hrow10 tn10 ⊢
              go_wp2
              go_meet
              exact ⟨hrow10, hch9.out.turned tn10 (by omega), tn9.out.trans tn10 (fun x hx => .inr (by omega))⟩
            · go_upto_region 13 with fail
              refine wp_region_at ?_
              refine regAt_move (some 61) v7 rfl rfl rfl (.inl rfl) rfl ?_
              go_frame
              refine regAt_load (some 62) rs re g rfl rfl rfl rfl rfl r9.out ?_
              go_frame
              refine regAt_app (some 63) (some 64) (v := v7) (L := L) (base := w7.heap.size) rs re rfl rfl rfl rfl rfl rfl rfl rfl rfl (by go_frame <;> rfl) (by go_frame <;> rfl) hown9.out (by omega) tn9.out.size ?_
              intro v' w10 hown10 hg10 _
              go_frame
              refine regAt_move (some 7) v' rfl rfl rfl (.inr rfl) rfl ?_
              refine regAt_done ?_
              go_frame
              rw [repl_none rs re L hno] at hown10
              have tn10 : Tn (fun k => v7.ownBlock = some k) w9 w10 := .of_grown hg10 (fun k h => h)
              go_wp2
              go_meet
              refine ⟨hown10.full (by rw [← repl_none rs re L hno]; simp), hch9.out.turned tn10 (fun h => by have := (hown9.out.base h).1; omega), tn9.out.trans tn10 (fun k hk => .inr (hown9.out.base hk).1)⟩
          case rest =>
            obtain ⟨hrow', hchc', tnc'⟩ := hcut.out
            have hMlen := repl_length rs re L
            obtain ⟨M, hM⟩ : ∃ M, Hid (M = repl rs re L) := ⟨_, rfl⟩
            rw [← hM.out] at hrow' hMlen
            obtain ⟨G, capv, rfl, hGb, hGl, hrow'⟩ := hrow'
            have hrow : Hid (RngRow G M.length (fun i => M.getD i (0, 0)) wc) := hrow'
            have hchc : Hid (ChanAt c cap [] wc) := hchc'
            have tnc : Hid (Tn (· = c) w7 wc) := tnc'
            clear hcut hrow' hchc' tnc' hown9 hch9 tn9 r9 hri
            have hM2 : M.length ≤ 2000 := by omega
            go_wp2
            go_loopw [67] (fun vi wr => Hid (∃ i : Nat, vi = .int .i64 i ∧ i ≤ M.length ∧ ChanAt c cap (M.take i) wr ∧ RngRow G M.length (fun i => M.getD i (0, 0)) wr ∧ G < wr.heap.size ∧ Tn (· = c) w7 wr)) (fun vi _ => M.length - (intOf vi).toNat)
            case atStart => exact ⟨0, rfl, Nat.zero_le _, hchc.out, hrow.out, hGl, tnc.out⟩
            case round =>
              obtain ⟨i, rfl, hi, hch', hrw', hGw, htn'⟩ := hrel.out
              clear hrel
              by_cases hlt : i < M.length
              · go_upto_region 16 with fail
                refine wp_region_at ?_
                refine regAt_pure (some 69) _ rfl rfl rfl (exec_index rfl rfl rfl hlt) ?_
                go_frame
                generalize hp : M.getD i (0, 0) = p
                have hrd : wr.rangeAt G (i * 40) (rngA p.1 p.2).toList := by rw [← hp]; exact hrw' i hlt
                refine regAt_pure (some 70) (.agg (rngA p.1 p.2)) rfl rfl rfl (exec_load_mid rfl rfl _ hrd Yba.underlying29 rfl (list29 _ _)) ?_
                go_frame
                refine regAt_fresh (some 10) p.1 p.2 rfl rfl rfl rfl rfl rfl rfl rfl (by go_frame <;> rfl) (by go_frame <;> rfl) ?_
                refine regAt_done ?_
                have hat : RngAt wr.heap.size p.1 p.2 (wr.alloc (.cells (rngA p.1 p.2) 29)) := Deep.blk_alloc_new wr _
                have tn2 : Tn (fun _ => False) wr (wr.alloc (.cells (rngA p.1 p.2) 29)) := .alloc _ _ _
                have hwl := htn'.size
                generalize wr.alloc (.cells (rngA p.1 p.2) 29) = w11 at hat tn2 ⊢
                generalize wr.heap.size = g11 at hat ⊢
                go_frame
                go_upto_region 17 with fail
                refine wp_region_at ?_
                refine regAt_move (some 71) (.chan (some c)) rfl rfl rfl (.inl rfl) rfl ?_
                go_frame
                refine regAt_load (some 72) p.1 p.2 g11 rfl rfl rfl rfl rfl hat ?_
                go_frame
                have hc11 : ChanAt c cap (M.take i) w11 := hch'.turned tn2 (by simp)
                have hcl := hc11.lt
                obtain ⟨s, r, hb11⟩ := hc11
                refine regAt_sendTo none (v := .agg (rngA p.1 p.2)) rfl rfl rfl (exec_send rfl rfl rfl) hb11 (by rw [vals_size, List.length_take]; omega) ?_
                refine regAt_done ?_
                have hc12 : ChanAt c cap (M.take i ++ [p]) (w11.setChan c cap ((vals (M.take i)).push (.agg (rngA p.1 p.2))) false (s + 1) r false) := .sent hcl p
                have tn12 : Tn (· = c) w11 (w11.setChan c cap ((vals (M.take i)).push (.agg (rngA p.1 p.2))) false (s + 1) r false) := .setChan rfl
                generalize w11.setChan c cap ((vals (M.take i)).push (.agg (rngA p.1 p.2))) false (s + 1) r false = w12 at hc12 tn12 ⊢
                go_frame
                have tn13 : Tn (· = c) wr w12 := (tn2.mono (by simp)).then tn12
                have hGc : G ≠ c := by omega
                have hrw12 : RngRow G M.length (fun i => M.getD i (0, 0)) w12 := hrw'.same (tn13.block G hGw hGc)
                have htn12 := htn'.then tn13
                have htk : M.take i ++ [p] = M.take (i + 1) := by rw [List.take_add_one, ← hp]; simp [hlt]
                rw [htk] at hc12
                clear hb11 hrd
                have hG12 : G < w12.heap.size := Nat.lt_of_lt_of_le hGw tn13.size
                go_wp2
                refine ⟨⟨i + 1, by simp, hlt, hc12, hrw12, hG12, htn12⟩, ?_⟩
                simp [intOf]; omega
              · obtain rfl : i = M.length := by omega
                rw [List.take_length] at hch'
                go_wp2
                exact hback.out wr htn' (hM.out ▸ hch')
end Go.Proofs.Ybulkahii
