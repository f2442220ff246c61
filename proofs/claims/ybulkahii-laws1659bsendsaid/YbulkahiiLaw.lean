/-
  LawS1659BSend: the law's walk.
-/
import Derived.Test.YbulkahiiMake
import Derived.Deep.CutBlock
namespace Go.Proofs.Ybulkahii
open Go.RowKit Go.Conc

/-- The argument: a slice of pairs of bytes. -/
def PairsAt (ha : Option Addr) (n : Nat) (W : World) : Prop := 0 < n → ∃ B off, ha = some ⟨B, off, none⟩ ∧ B < W.heap.size ∧ ∀ i, i < n → ∃ s e : Int, W.cell? ⟨B, off + i * 2, none⟩ = some (.int .u8 s) ∧ W.cell? ⟨B, off + i * 2 + 1, none⟩ = some (.int .u8 e)

theorem PairsAt.kept {ha : Option Addr} {n B : Nat} {W W' : World} (h : PairsAt ha n W) (hb : Below B W W') (hB : W.heap.size ≤ B) : PairsAt ha n W' := fun hn => by
  obtain ⟨b, off, h1, h2, h3⟩ := h hn
  refine ⟨b, off, h1, Nat.lt_of_lt_of_le h2 hb.size, fun i hi => ?_⟩
  obtain ⟨s, e, h4, h5⟩ := h3 i hi
  exact ⟨s, e, by rw [hb.cell (p := ⟨b, off + i * 2, none⟩) (by show b < B; omega)]; exact h4, by rw [hb.cell (p := ⟨b, off + i * 2 + 1, none⟩) (by show b < B; omega)]; exact h5⟩
theorem wpList_value {P : Program} {ops : Array Oper} {rest : List Oper} {o : Oper} {a : Act} {w w' : World} {v : Value} {Q : Exit → Act → World → Prop} (hg : o.guard = none) (hr : (execOp a.eval o).run P w = .ok (.value v) w') (h : wpList P ops Q rest (a.put o.dst v) w') : wpList P ops Q (o :: rest) a w :=
  wpList_plain hg fun _ hK => by unfold Oper.wp; rw [hr]; exact hK _ _ h
theorem wpList_skips {P : Program} {ops : Array Oper} {rest : List Oper} {o : Oper} {a : Act} {w w' : World} {Q : Exit → Act → World → Prop} (hg : o.guard = none) (hr : (execOp a.eval o).run P w = .ok .skip w') (h : wpList P ops Q rest (a.put o.dst undef) w') : wpList P ops Q (o :: rest) a w :=
  wpList_plain hg fun _ hK => by unfold Oper.wp; rw [hr]; exact hK _ _ h

theorem mkchan (n : Nat) (h : n ≤ 2000) (w : World) : (Instr.makeChan 31 (.int .i64 ((n : Int) + 1))).run Yba.prog w = .ok (.chan (some w.heap.size)) (w.alloc (.chan (n + 1) #[] false 0 0 false)) := by
  have ht : Yba.t29.bytes = 40 := by kernel_rfl
  unfold Instr.makeChan
  simp only [asInt, asIntOf]
  simp [run_underlying Yba.underlying31, ht]
  intro hh
  omega

set_option maxRecDepth 100000 in
set_option maxHeartbeats 12800000 in
theorem law3 (ha : Option Addr) (n hc : Nat) (rs re ls : Int) (lh : Bool) (W : World) (hheld : Hid (PairsAt ha n W)) :
    Calls Yba.prog 3 #[.slice ha n hc, .agg #[.int .u8 rs, .int .u8 re], .bool lh, .int .u8 ls] W fun x W' => x = .returned (.bool true) ∧ Below W.heap.size W W' := by
  go_enter Yba.func3, Yba.ntmps3
  by_cases hn : 1024 < n
  · have hn' : (1024 : Int) < (n : Int) := by omega
    go_wp2
    go_ret
    exact ⟨rfl, (Below.refl _ W).alloc (Nat.le_refl _) _⟩
  have hn' : ¬ (1024 : Int) < (n : Int) := by omega
  go_upto_region 3 with fail
  have hbox : Hid ((W.alloc (.cells #[.int .u8 rs, .int .u8 re] 24)).heap[W.heap.size]? = some (.cells #[.int .u8 rs, .int .u8 re] 24 (0, 0))) := Deep.blk_alloc_new W _
  have hW1 : Hid (Below W.heap.size W (W.alloc (.cells #[.int .u8 rs, .int .u8 re] 24))) := (Below.refl _ W).alloc (Nat.le_refl _) _
  have hB1 : W.heap.size < (W.alloc (.cells #[.int .u8 rs, .int .u8 re] 24)).heap.size := by show _ < (W.heap.push _).size; simp
  have hp1 : Hid (PairsAt ha n (W.alloc (.cells #[.int .u8 rs, .int .u8 re] 24))) := hheld.out.kept hW1.out (Nat.le_refl _)
  generalize W.alloc (.cells #[.int .u8 rs, .int .u8 re] 24) = W1 at hbox hW1 hB1 hp1 ⊢
  go_upto_block 0 with fail
  go_cut [9] from 37 to 63 (fun v wx => Hid (∃ P, P.length ≤ 1024 ∧ Own W1.heap.size v P wx ∧ Below W1.heap.size W1 wx))
  case first =>
    go_wp2
    go_loopw [9, 39] (fun v vi wr => Hid (∃ i : Nat, vi = .int .i64 i ∧ i ≤ n ∧ ∃ P, P.length ≤ i ∧ Own W1.heap.size v P wr ∧ Below W1.heap.size W1 wr)) (fun _ vi _ => n - (intOf vi).toNat)
    case atStart => exact ⟨0, rfl, Nat.zero_le _, [], Nat.le_refl _, .nil _ _, Below.refl _ _⟩
    case round =>
      obtain ⟨i, rfl, hi, P, hP, hown, hbel⟩ := hrel.out
      clear hrel
      by_cases hlt : i < n
      · obtain ⟨B, off, rfl, hBl, hcells⟩ := hp1.out (by omega)
        obtain ⟨s, e, hs, he⟩ := hcells i hlt
        have hs' : wr.cell? ⟨B, off + i * 2, none⟩ = some (.int .u8 s) := by rw [hbel.cell (p := ⟨B, off + i * 2, none⟩) hBl]; exact hs
        have he' : wr.cell? ⟨B, off + i * 2 + 1, none⟩ = some (.int .u8 e) := by rw [hbel.cell (p := ⟨B, off + i * 2 + 1, none⟩) hBl]; exact he
        clear hs he hcells
        have hi64 : (i : Int) < (n : Int) := by omega
        go_upto_region 7 with fail
        go_upto_region 8 with (first
          | (go_at_call 4; refine (rng4 s e _).mono ?_; rintro x w2 ⟨rfl, hb2'⟩)
          | (refine wpList_value rfl (exec_alloc29 rfl) ?_; go_frame)
          | (refine wpList_skips rfl (exec_store_new (s := s) (e := e) rfl rfl rfl) ?_; go_frame))
        have hb2 : Below wr.heap.size wr w2 := ((Below.refl _ wr).alloc (Nat.le_refl _) _).trans (hb2'.mono (by show _ ≤ (wr.heap.push _).size; simp))
        have hb3 : Below wr.heap.size wr (w2.alloc (.cells (rngA s e) 29)) := hb2.alloc hb2.size _
        have r3 : Hid (RngAt w2.heap.size s e (w2.alloc (.cells (rngA s e) 29))) := Deep.blk_alloc_new w2 _
        have hg3 : W1.heap.size ≤ w2.heap.size := Nat.le_trans hbel.size hb2.size
        have hg3' : wr.heap.size ≤ w2.heap.size := hb2.size
        have hown3 : Hid (Own W1.heap.size u9 P (w2.alloc (.cells (rngA s e) 29))) := hown.kept hb3 (Nat.le_refl _)
        have hbel3 : Hid (Below W1.heap.size W1 (w2.alloc (.cells (rngA s e) 29))) := hbel.trans (hb3.mono hbel.size)
        generalize w2.alloc (.cells (rngA s e) 29) = w3 at r3 hown3 hbel3 hb3 ⊢
        generalize w2.heap.size = g12 at r3 hg3 hg3' ⊢
        clear hb2 hb2' hb3 hs' he'
        obtain ⟨av, capv, rfl, hsl'⟩ := hown3.out.sl
        have hsl : Hid (RngSl av P.length (fun i => P.getD i (0, 0)) w3) := hsl'
        clear hsl'
        go_upto_block 2 with fail
        go_cut [13] from 45 to 56 (fun v wx => Hid (∃ d, v = .bool d ∧ Below w3.heap.size w3 wx))
        case first =>
          go_wp2
          go_loopw [13, 47] (fun v vj wr => Hid (∃ d, v = .bool d ∧ ∃ j : Nat, vj = .int .i64 j ∧ j ≤ P.length ∧ Below w3.heap.size w3 wr)) (fun _ vj _ => P.length - (intOf vj).toNat)
          case atStart => exact ⟨false, rfl, 0, rfl, Nat.zero_le _, Below.refl _ _⟩
          case round =>
            obtain ⟨d, rfl, j, rfl, hj, hbj⟩ := hrel.out
            clear hrel
            by_cases hjl : j < P.length
            · have hj64 : (j : Int) < (P.length : Int) := by omega
              obtain ⟨G, rfl, hGl, hrw⟩ := hsl.out (by omega)
              go_upto_region 11 with fail
              refine wp_region_at ?_
              refine regAt_pure (some 49) _ rfl rfl rfl (exec_index rfl rfl rfl hjl) ?_
              go_frame
              generalize hp : P.getD j (0, 0) = p
              have hrd : wr.rangeAt G (j * 40) (rngA p.1 p.2).toList := by rw [← hp]; exact (hrw.kept hbj hGl) j hjl
              refine regAt_pure (some 50) (.agg (rngA p.1 p.2)) rfl rfl rfl (exec_load_mid rfl rfl _ hrd Yba.underlying29 rfl (list29 _ _)) ?_
              go_frame
              refine regAt_fresh (some 15) p.1 p.2 rfl rfl rfl rfl rfl rfl rfl rfl (by go_frame <;> rfl) (by go_frame <;> rfl) ?_
              refine regAt_done ?_
              have hat : RngAt wr.heap.size p.1 p.2 (wr.alloc (.cells (rngA p.1 p.2) 29)) := Deep.blk_alloc_new wr _
              have hbw : Below w3.heap.size w3 (wr.alloc (.cells (rngA p.1 p.2) 29)) := hbj.alloc hbj.size _
              have r5 : RngAt g12 s e (wr.alloc (.cells (rngA p.1 p.2) 29)) := r3.out.kept hbw r3.out.lt
              generalize wr.alloc (.cells (rngA p.1 p.2) 29) = w5 at hat hbw r5 ⊢
              generalize wr.heap.size = g15 at hat ⊢
              go_frame
              go_upto_region 12 with fail
              refine wp_region_at ?_
              refine regAt_pure (some 51) (.pointer (some ⟨g15, 20, none⟩)) rfl rfl rfl (by simp [execOp, go_sem, Act.eval]) ?_
              go_frame
              refine regAt_pure (some 52) _ rfl rfl rfl (exec_load27 rfl rfl hat) ?_
              go_frame
              refine regAt_pure (some 53) (.pointer (some ⟨g12, 20, none⟩)) rfl rfl rfl (by simp [execOp, go_sem, Act.eval]) ?_
              go_frame
              refine regAt_pure (some 54) _ rfl rfl rfl (exec_load27 rfl rfl r5) ?_
              go_frame
              refine regAt_pure (some 55) _ rfl rfl rfl (exec_eql27 rfl rfl rfl) ?_
              refine regAt_done ?_
              go_frame
              clear hrd
              by_cases heq : p.2 = e
              · rw [decide_eq_true heq]
                go_wp2
                go_meet
                exact ⟨true, rfl, hbw⟩
              · rw [decide_eq_false heq]
                go_wp2
                refine ⟨⟨d, rfl, j + 1, by simp, hjl, hbw⟩, ?_⟩
                simp [intOf]; omega
            · have hj64 : ¬ (j : Int) < (P.length : Int) := by omega
              go_wp2
              go_meet
              exact ⟨d, rfl, hbj⟩
        case rest =>
          obtain ⟨d, rfl, hbc⟩ := hcut.out
          have hownc := hown3.out.kept hbc (Nat.le_refl _)
          have hbelc := hbel3.out.trans (hbc.mono hbel3.out.size)
          have rc : RngAt g12 s e wc := r3.out.kept hbc r3.out.lt
          cases d
          · go_upto_region 16 with fail
            refine wp_region_at ?_
            refine regAt_move (some 59) _ rfl rfl rfl (.inl rfl) rfl ?_
            go_frame
            refine regAt_load (some 60) s e g12 rfl rfl rfl rfl rfl rc ?_
            go_frame
            refine regAt_app (some 61) (some 62) (v := .slice av P.length capv) (L := P) (base := W1.heap.size) s e rfl rfl rfl rfl rfl rfl rfl rfl rfl (by go_frame <;> rfl) (by go_frame <;> rfl) hownc (by omega) hbelc.size ?_
            intro v' w10 hown10 hg10 _
            go_frame
            refine regAt_move (some 9) v' rfl rfl rfl (.inr rfl) rfl ?_
            refine regAt_done ?_
            go_frame
            have tn10 : Tn (fun k => (Value.slice av P.length capv).ownBlock = some k) wc w10 := .of_grown hg10 (fun k h => h)
            have hbel10 : Below W1.heap.size W1 w10 := hbelc.trans (tn10.below hbelc.size (fun k hk => (hownc.base hk).1))
            go_wp2
            refine ⟨⟨i + 1, by simp, hlt, P ++ [(s, e)], by simp; omega, hown10, hbel10⟩, ?_⟩
            simp [intOf]; omega
          · go_wp2
            refine ⟨⟨i + 1, by simp, hlt, P, by omega, hownc, hbelc⟩, ?_⟩
            simp [intOf]; omega
      · have hi64 : ¬ (i : Int) < (n : Int) := by omega
        go_wp2
        go_meet
        exact ⟨P, by omega, hown, hbel⟩
  case rest =>
    obtain ⟨P, hP, hown', hbel'⟩ := hcut.out
    clear hcut
    have hb0 : wc.heap[W.heap.size]? = some (.cells #[.int .u8 rs, .int .u8 re] 24 (0, 0)) := by rw [hbel'.block _ hB1]; exact hbox.out
    have hs' : wc.cell? ⟨W.heap.size, 0, none⟩ = some (.int .u8 rs) := by simp [World.cell?, hb0]
    have he' : wc.cell? ⟨W.heap.size, 1, none⟩ = some (.int .u8 re) := by simp [World.cell?, hb0]
    have hown : Hid (Own W1.heap.size u9 P wc) := hown'
    have hbel : Hid (Below W1.heap.size W1 wc) := hbel'
    clear hown' hbel' hb0
    obtain ⟨av, capv, rfl, _⟩ := hown.out.sl
    go_upto_region 19 with (first
          | (go_at_call 4; refine (rng4 rs re _).mono ?_; rintro x w2 ⟨rfl, hb2⟩)
          | (refine wpList_value rfl (exec_alloc29 rfl) ?_; go_frame)
          | (refine wpList_skips rfl (exec_store_new (s := rs) (e := re) rfl rfl rfl) ?_; go_frame))
    have hb3 : Below wc.heap.size wc (w2.alloc (.cells (rngA rs re) 29)) := hb2.alloc hb2.size _
    have r3 : Hid (RngAt w2.heap.size rs re (w2.alloc (.cells (rngA rs re) 29))) := Deep.blk_alloc_new w2 _
    have hg3 : W1.heap.size ≤ w2.heap.size := Nat.le_trans hbel.out.size hb2.size
    have hg3' : wc.heap.size ≤ w2.heap.size := hb2.size
    have hown3 : Hid (Own W1.heap.size (.slice av P.length capv) P (w2.alloc (.cells (rngA rs re) 29))) := hown.out.kept hb3 (Nat.le_refl _)
    have hbel3 : Hid (Below W1.heap.size W1 (w2.alloc (.cells (rngA rs re) 29))) := hbel.out.trans (hb3.mono hbel.out.size)
    generalize w2.alloc (.cells (rngA rs re) 29) = w3 at r3 hown3 hbel3 hb3 ⊢
    generalize w2.heap.size = g16 at r3 hg3 hg3' ⊢
    clear hb2 hb3 hs' he' hown hbel
    have hmk := mkchan P.length (by omega)
    go_upto_region 22 with fail
    have hcA : Hid (ChanAt w3.heap.size (P.length + 1) [] ((w3.alloc (.chan (P.length + 1) #[] false 0 0 false)).alloc (.chan (P.length + 1) #[] false 0 0 false))) := ⟨0, 0, heap2_0 w3 _ _⟩
    have hcB : Hid (ChanAt (w3.heap.size + 1) (P.length + 1) [] ((w3.alloc (.chan (P.length + 1) #[] false 0 0 false)).alloc (.chan (P.length + 1) #[] false 0 0 false))) := ⟨0, 0, heap2_1 w3 _ _⟩
    have tn4 : Tn (fun _ => False) w3 ((w3.alloc (.chan (P.length + 1) #[] false 0 0 false)).alloc (.chan (P.length + 1) #[] false 0 0 false)) := (Tn.alloc _ _ _).then (Tn.alloc _ _ _)
    have r4 : Hid (RngAt g16 rs re ((w3.alloc (.chan (P.length + 1) #[] false 0 0 false)).alloc (.chan (P.length + 1) #[] false 0 0 false))) := r3.out.same (tn4.block g16 r3.out.lt (by simp))
    have hown4 : Hid (Own W1.heap.size (.slice av P.length capv) P ((w3.alloc (.chan (P.length + 1) #[] false 0 0 false)).alloc (.chan (P.length + 1) #[] false 0 0 false))) := hown3.out.turned tn4 (by simp)
    have hbel4 : Hid (Below W1.heap.size W1 ((w3.alloc (.chan (P.length + 1) #[] false 0 0 false)).alloc (.chan (P.length + 1) #[] false 0 0 false))) := hbel3.out.trans (tn4.below hbel3.out.size (by simp))
    have hcAl : W1.heap.size ≤ w3.heap.size := hbel3.out.size
    have hgA : g16 < w3.heap.size := r3.out.lt
    have hob : ∀ k, (Value.slice av P.length capv).ownBlock = some k → W1.heap.size ≤ k ∧ k < w3.heap.size := fun k hk => hown3.out.base hk
    generalize (w3.alloc (.chan (P.length + 1) #[] false 0 0 false)).alloc (.chan (P.length + 1) #[] false 0 0 false) = w4 at hcA hcB r4 hown4 hbel4 ⊢
    clear tn4 hown3 hbel3 r3 hmk
    generalize w3.heap.size = cA at hcA hcB hcAl hgA hob ⊢
    have hob : Hid _ := hob
    obtain ⟨_, _, hsv, hsl'⟩ := hown4.out.sl
    cases hsv
    have hsl : Hid (RngSl av P.length (fun i => P.getD i (0, 0)) w4) := hsl'
    clear hsl'
    go_upto_block 4 with fail
    go_cut [21] from 73 to 81 (fun _ wx => Hid (ChanAt cA (P.length + 1) P wx ∧ Tn (· = cA) w4 wx))
    case first =>
      go_wp2
      go_loopw [75] (fun vi wr => Hid (∃ i : Nat, vi = .int .i64 i ∧ i ≤ P.length ∧ ChanAt cA (P.length + 1) (P.take i) wr ∧ Tn (· = cA) w4 wr)) (fun vi _ => P.length - (intOf vi).toNat)
      case atStart => exact ⟨0, rfl, Nat.zero_le _, hcA.out, Tn.refl _ _⟩
      case round =>
        obtain ⟨i, rfl, hi, hch', htn'⟩ := hrel.out
        clear hrel
        by_cases hlt : i < P.length
        · have hi64 : (i : Int) < (P.length : Int) := by omega
          obtain ⟨G, rfl, hGl, hrw⟩ := hsl.out (by omega)
          have hGc : G ≠ cA := by have := (hob.out G rfl).2; omega
          go_upto_region 24 with fail
          refine wp_region_at ?_
          refine regAt_pure (some 77) _ rfl rfl rfl (exec_index rfl rfl rfl hlt) ?_
          go_frame
          generalize hp : P.getD i (0, 0) = p
          have hrd : wr.rangeAt G (i * 40) (rngA p.1 p.2).toList := by rw [← hp]; exact (hrw.same (htn'.block G hGl hGc)) i hlt
          refine regAt_pure (some 78) (.agg (rngA p.1 p.2)) rfl rfl rfl (exec_load_mid rfl rfl _ hrd Yba.underlying29 rfl (list29 _ _)) ?_
          go_frame
          refine regAt_fresh (some 21) p.1 p.2 rfl rfl rfl rfl rfl rfl rfl rfl (by go_frame <;> rfl) (by go_frame <;> rfl) ?_
          refine regAt_done ?_
          have hat : RngAt wr.heap.size p.1 p.2 (wr.alloc (.cells (rngA p.1 p.2) 29)) := Deep.blk_alloc_new wr _
          have tn2 : Tn (fun _ => False) wr (wr.alloc (.cells (rngA p.1 p.2) 29)) := .alloc _ _ _
          generalize wr.alloc (.cells (rngA p.1 p.2) 29) = w11 at hat tn2 ⊢
          generalize wr.heap.size = g11 at hat ⊢
          go_frame
          go_upto_region 25 with fail
          refine wp_region_at ?_
          refine regAt_move (some 79) (.chan (some cA)) rfl rfl rfl (.inl rfl) rfl ?_
          go_frame
          refine regAt_load (some 80) p.1 p.2 g11 rfl rfl rfl rfl rfl hat ?_
          go_frame
          have hc11 : ChanAt cA (P.length + 1) (P.take i) w11 := hch'.turned tn2 (by simp)
          have hcl := hc11.lt
          obtain ⟨s, r, hb11⟩ := hc11
          refine regAt_sendTo none (v := .agg (rngA p.1 p.2)) rfl rfl rfl (exec_send rfl rfl rfl) hb11 (by rw [vals_size, List.length_take]; omega) ?_
          refine regAt_done ?_
          have hc12 : ChanAt cA (P.length + 1) (P.take i ++ [p]) (w11.setChan cA (P.length + 1) ((vals (P.take i)).push (.agg (rngA p.1 p.2))) false (s + 1) r false) := .sent hcl p
          have tn12 : Tn (· = cA) w11 (w11.setChan cA (P.length + 1) ((vals (P.take i)).push (.agg (rngA p.1 p.2))) false (s + 1) r false) := .setChan rfl
          generalize w11.setChan cA (P.length + 1) ((vals (P.take i)).push (.agg (rngA p.1 p.2))) false (s + 1) r false = w12 at hc12 tn12 ⊢
          go_frame
          have htn12 := htn'.then ((tn2.mono (by simp)).then tn12)
          have htk : P.take i ++ [p] = P.take (i + 1) := by rw [List.take_add_one, ← hp]; simp [hlt]
          rw [htk] at hc12
          clear hb11 hrd
          go_wp2
          refine ⟨⟨i + 1, by simp, hlt, hc12, htn12⟩, ?_⟩
          simp [intOf]; omega
        · have hi64 : ¬ (i : Int) < (P.length : Int) := by omega
          obtain rfl : i = P.length := by omega
          rw [List.take_length] at hch'
          go_wp2
          go_meet
          exact ⟨hch', htn'⟩
    case rest =>
      obtain ⟨hcA5', tn5'⟩ := hcut.out
      clear hcut
      have hcA5 : Hid (ChanAt cA (P.length + 1) P wc) := hcA5'
      have hcB5 : Hid (ChanAt (cA + 1) (P.length + 1) [] wc) := hcB.out.turned tn5' (by omega)
      have hown5 : Hid (Own W1.heap.size (.slice av P.length capv) P wc) := hown4.out.turned tn5' (fun g _ hg e => by have := (hob.out g e).2; omega)
      have r5 : Hid (RngAt g16 rs re wc) := r4.out.same (tn5'.block g16 r4.out.lt (by omega))
      have hbel5 : Hid (Below W1.heap.size W1 wc) := hbel4.out.trans (tn5'.below hbel4.out.size (fun k hk => by omega))
      clear hcA5' tn5' hcA hcB hown4 r4 hbel4 hsl
      go_upto_region 27 with fail
      go_cut [22] from 82 to 89 (fun v wx => Hid (∃ b mw ml c1 c2 LA LB, v = .pointer (some ⟨b, 0, none⟩) ∧ ((c1 = cA ∧ c2 = cA + 1 ∧ LA = P ∧ LB = []) ∨ (c1 = cA + 1 ∧ c2 = cA ∧ LA = [] ∧ LB = P)) ∧ St b 0 ((P.length : Int) + 1) mw ml c1 c2 (P.length + 1) none re LA LB wx ∧
        wc.heap.size ≤ b ∧ wc.heap.size ≤ mw ∧ wc.heap.size ≤ ml ∧ Tn (fun k => wc.heap.size ≤ k) wc wx))
      case first =>
        have hm : Yba.prog.follows .mixedOrders = true := by kernel_rfl
        refine wp_region_held (S := fun _ => True) hm ?_
        refine takes (some 82) (.int .i64 ((P.length : Int) + 1)) (i := 0) rfl rfl (by kernel_rfl) (by kernel_rfl) (by kernel_rfl) (fun _ _ _ h => h) rfl (fun W hW => by simp [execOp, Act.eval]) trivial ?_
        go_frame
        refine takes (some 84) (.chan (some cA)) (i := 2) rfl rfl (by kernel_rfl) (by kernel_rfl) (by kernel_rfl) (fun _ _ _ h => h) rfl (fun W hW => by simp [execOp, Act.eval]) trivial ?_
        go_frame
        refine takes (some 85) (.chan (some (cA + 1))) (i := 4) rfl rfl (by kernel_rfl) (by kernel_rfl) (by kernel_rfl) (fun _ _ _ h => h) rfl (fun W hW => by simp [execOp, Act.eval]) trivial ?_
        go_frame
        change wpAnyH _ _ _ _ _ _ _ _ wc.drew
        have hA : ChanAt cA (P.length + 1) P wc.drew := hcA5.out
        have hB : ChanAt (cA + 1) (P.length + 1) [] wc.drew := hcB5.out
        have hX : wc.drew.heap.size = wc.heap.size := rfl
        have tX : Tn (fun k => wc.heap.size ≤ k) wc wc.drew := Tn.drew _ _
        generalize wc.drew = X at hA hB hX tX ⊢
        have tn : Tn (fun k => X.heap.size ≤ k) X X := Tn.refl _ _
        refine ready2 (i := 1) (j := 7) (by kernel_rfl) ?_ ?_
        · obtain ⟨mw, w', hrun, f34, tnF, tn', hnew⟩ := st_make X 34 tn
          refine op_value (some 83) (.map (some mw)) (i := 1) rfl rfl rfl (exec_make rfl hrun) trivial ?_
          have tn := tn'
          clear tn' tnF hrun
          go_frame
          refine ready3 (i := 3) (j := 5) (k := 7) (by kernel_rfl) ?_ ?_ ?_
          · obtain ⟨w', hrun, f34, tnF, tn'⟩ := st_ins cA (.func (.func 5) #[] #[]) f34 tn (.inl rfl)
            refine op_skip none (i := 3) rfl rfl rfl (exec_ins rfl rfl rfl rfl hrun) trivial ?_
            have tn := tn'
            clear tn' tnF hrun
            go_frame
            refine ready2 (i := 5) (j := 7) (by kernel_rfl) ?_ ?_
            · obtain ⟨w', hrun, f34, tnF, tn'⟩ := st_ins (cA + 1) (.func (.func 6) #[] #[]) f34 tn (.inr ⟨_, _, rfl, by omega⟩)
              refine op_skip none (i := 5) rfl rfl rfl (exec_ins rfl rfl rfl rfl hrun) trivial ?_
              have tn := tn'
              clear tn' tnF hrun
              go_frame
              refine takes (some 86) (.map (some mw)) (i := 6) rfl rfl (by kernel_rfl) (by kernel_rfl) (by kernel_rfl) (fun _ _ _ h => h) rfl (fun W hW => by simp [execOp, Act.eval]) trivial ?_
              go_frame
              obtain ⟨ml, w', hrun, f35, tnF, tn', hnew⟩ := st_make X 35 tn
              have hne : mw ≠ ml := by have := f34.lt; omega
              have f34 := f34.turned tnF (by simp)
              refine only_value (some 87) (.map (some ml)) (i := 7) rfl rfl (by kernel_rfl) rfl (exec_make rfl hrun) trivial ?_
              have tn := tn'
              clear tn' tnF hrun
              go_frame
              refine takes (some 88) _ (i := 8) rfl rfl (by kernel_rfl) (by kernel_rfl) (by kernel_rfl) (fun _ _ _ h => h) rfl (fun W hW => exec_build44 rfl rfl rfl rfl) trivial ?_
              go_frame
              refine only_value (some 89) _ (i := 9) rfl rfl (by kernel_rfl) rfl (exec_box44 rfl rfl) trivial ?_
              go_frame
              refine takes (some 22) _ (i := 10) rfl rfl (by kernel_rfl) (by kernel_rfl) (by kernel_rfl) (fun _ _ _ h => h) rfl (fun W hW => exec_assign rfl rfl) trivial ?_
              go_frame
              refine wpAnyH_done (by kernel_rfl) ?_ _
              have hfin := fin27 ((P.length : Int) + 1) re hA hB f34 f35 tn
              generalize w'.alloc (.cells #[.int .i32 0, .int .u32 0, .int .i64 ((P.length : Int) + 1), .map (some mw), .map (some ml), .bool false] 44) = w6 at hfin ⊢
              have hbl := tn.size
              generalize w'.heap.size = b at hfin hbl ⊢

              go_wp2
              go_meet
              exact ⟨b, mw, ml, _, _, _, _, rfl, .inl ⟨rfl, rfl, rfl, rfl⟩, hfin.1, by omega, by have := f34.2; omega, by have := f35.2; omega, tX.then (hfin.2.mono (fun k hk => by omega))⟩
            · obtain ⟨ml, w', hrun, f35, tnF, tn', hnew⟩ := st_make X 35 tn
              have hne : mw ≠ ml := by have := f34.lt; omega
              have f34 := f34.turned tnF (by simp)
              refine op_value (some 87) (.map (some ml)) (i := 7) rfl rfl rfl (exec_make rfl hrun) trivial ?_
              have tn := tn'
              clear tn' tnF hrun
              go_frame
              obtain ⟨w', hrun, f34, tnF, tn'⟩ := st_ins (cA + 1) (.func (.func 6) #[] #[]) f34 tn (.inr ⟨_, _, rfl, by omega⟩)
              have f35 := f35.turned tnF (Ne.symm hne)
              refine only_skip none (i := 5) rfl rfl (by kernel_rfl) rfl (exec_ins rfl rfl rfl rfl hrun) trivial ?_
              have tn := tn'
              clear tn' tnF hrun
              go_frame
              refine takes (some 86) (.map (some mw)) (i := 6) rfl rfl (by kernel_rfl) (by kernel_rfl) (by kernel_rfl) (fun _ _ _ h => h) rfl (fun W hW => by simp [execOp, Act.eval]) trivial ?_
              go_frame
              refine takes (some 88) _ (i := 8) rfl rfl (by kernel_rfl) (by kernel_rfl) (by kernel_rfl) (fun _ _ _ h => h) rfl (fun W hW => exec_build44 rfl rfl rfl rfl) trivial ?_
              go_frame
              refine only_value (some 89) _ (i := 9) rfl rfl (by kernel_rfl) rfl (exec_box44 rfl rfl) trivial ?_
              go_frame
              refine takes (some 22) _ (i := 10) rfl rfl (by kernel_rfl) (by kernel_rfl) (by kernel_rfl) (fun _ _ _ h => h) rfl (fun W hW => exec_assign rfl rfl) trivial ?_
              go_frame
              refine wpAnyH_done (by kernel_rfl) ?_ _
              have hfin := fin27 ((P.length : Int) + 1) re hA hB f34 f35 tn
              generalize w'.alloc (.cells #[.int .i32 0, .int .u32 0, .int .i64 ((P.length : Int) + 1), .map (some mw), .map (some ml), .bool false] 44) = w6 at hfin ⊢
              have hbl := tn.size
              generalize w'.heap.size = b at hfin hbl ⊢

              go_wp2
              go_meet
              exact ⟨b, mw, ml, _, _, _, _, rfl, .inl ⟨rfl, rfl, rfl, rfl⟩, hfin.1, by omega, by have := f34.2; omega, by have := f35.2; omega, tX.then (hfin.2.mono (fun k hk => by omega))⟩
          · obtain ⟨w', hrun, f34, tnF, tn'⟩ := st_ins (cA + 1) (.func (.func 6) #[] #[]) f34 tn (.inl rfl)
            refine op_skip none (i := 5) rfl rfl rfl (exec_ins rfl rfl rfl rfl hrun) trivial ?_
            have tn := tn'
            clear tn' tnF hrun
            go_frame
            refine ready2 (i := 3) (j := 7) (by kernel_rfl) ?_ ?_
            · obtain ⟨w', hrun, f34, tnF, tn'⟩ := st_ins cA (.func (.func 5) #[] #[]) f34 tn (.inr ⟨_, _, rfl, by omega⟩)
              refine op_skip none (i := 3) rfl rfl rfl (exec_ins rfl rfl rfl rfl hrun) trivial ?_
              have tn := tn'
              clear tn' tnF hrun
              go_frame
              refine takes (some 86) (.map (some mw)) (i := 6) rfl rfl (by kernel_rfl) (by kernel_rfl) (by kernel_rfl) (fun _ _ _ h => h) rfl (fun W hW => by simp [execOp, Act.eval]) trivial ?_
              go_frame
              obtain ⟨ml, w', hrun, f35, tnF, tn', hnew⟩ := st_make X 35 tn
              have hne : mw ≠ ml := by have := f34.lt; omega
              have f34 := f34.turned tnF (by simp)
              refine only_value (some 87) (.map (some ml)) (i := 7) rfl rfl (by kernel_rfl) rfl (exec_make rfl hrun) trivial ?_
              have tn := tn'
              clear tn' tnF hrun
              go_frame
              refine takes (some 88) _ (i := 8) rfl rfl (by kernel_rfl) (by kernel_rfl) (by kernel_rfl) (fun _ _ _ h => h) rfl (fun W hW => exec_build44 rfl rfl rfl rfl) trivial ?_
              go_frame
              refine only_value (some 89) _ (i := 9) rfl rfl (by kernel_rfl) rfl (exec_box44 rfl rfl) trivial ?_
              go_frame
              refine takes (some 22) _ (i := 10) rfl rfl (by kernel_rfl) (by kernel_rfl) (by kernel_rfl) (fun _ _ _ h => h) rfl (fun W hW => exec_assign rfl rfl) trivial ?_
              go_frame
              refine wpAnyH_done (by kernel_rfl) ?_ _
              have hfin := fin27 ((P.length : Int) + 1) re hB hA f34 f35 tn
              generalize w'.alloc (.cells #[.int .i32 0, .int .u32 0, .int .i64 ((P.length : Int) + 1), .map (some mw), .map (some ml), .bool false] 44) = w6 at hfin ⊢
              have hbl := tn.size
              generalize w'.heap.size = b at hfin hbl ⊢

              go_wp2
              go_meet
              exact ⟨b, mw, ml, _, _, _, _, rfl, .inr ⟨rfl, rfl, rfl, rfl⟩, hfin.1, by omega, by have := f34.2; omega, by have := f35.2; omega, tX.then (hfin.2.mono (fun k hk => by omega))⟩
            · obtain ⟨ml, w', hrun, f35, tnF, tn', hnew⟩ := st_make X 35 tn
              have hne : mw ≠ ml := by have := f34.lt; omega
              have f34 := f34.turned tnF (by simp)
              refine op_value (some 87) (.map (some ml)) (i := 7) rfl rfl rfl (exec_make rfl hrun) trivial ?_
              have tn := tn'
              clear tn' tnF hrun
              go_frame
              obtain ⟨w', hrun, f34, tnF, tn'⟩ := st_ins cA (.func (.func 5) #[] #[]) f34 tn (.inr ⟨_, _, rfl, by omega⟩)
              have f35 := f35.turned tnF (Ne.symm hne)
              refine only_skip none (i := 3) rfl rfl (by kernel_rfl) rfl (exec_ins rfl rfl rfl rfl hrun) trivial ?_
              have tn := tn'
              clear tn' tnF hrun
              go_frame
              refine takes (some 86) (.map (some mw)) (i := 6) rfl rfl (by kernel_rfl) (by kernel_rfl) (by kernel_rfl) (fun _ _ _ h => h) rfl (fun W hW => by simp [execOp, Act.eval]) trivial ?_
              go_frame
              refine takes (some 88) _ (i := 8) rfl rfl (by kernel_rfl) (by kernel_rfl) (by kernel_rfl) (fun _ _ _ h => h) rfl (fun W hW => exec_build44 rfl rfl rfl rfl) trivial ?_
              go_frame
              refine only_value (some 89) _ (i := 9) rfl rfl (by kernel_rfl) rfl (exec_box44 rfl rfl) trivial ?_
              go_frame
              refine takes (some 22) _ (i := 10) rfl rfl (by kernel_rfl) (by kernel_rfl) (by kernel_rfl) (fun _ _ _ h => h) rfl (fun W hW => exec_assign rfl rfl) trivial ?_
              go_frame
              refine wpAnyH_done (by kernel_rfl) ?_ _
              have hfin := fin27 ((P.length : Int) + 1) re hB hA f34 f35 tn
              generalize w'.alloc (.cells #[.int .i32 0, .int .u32 0, .int .i64 ((P.length : Int) + 1), .map (some mw), .map (some ml), .bool false] 44) = w6 at hfin ⊢
              have hbl := tn.size
              generalize w'.heap.size = b at hfin hbl ⊢

              go_wp2
              go_meet
              exact ⟨b, mw, ml, _, _, _, _, rfl, .inr ⟨rfl, rfl, rfl, rfl⟩, hfin.1, by omega, by have := f34.2; omega, by have := f35.2; omega, tX.then (hfin.2.mono (fun k hk => by omega))⟩
          · obtain ⟨ml, w', hrun, f35, tnF, tn', hnew⟩ := st_make X 35 tn
            have hne : mw ≠ ml := by have := f34.lt; omega
            have f34 := f34.turned tnF (by simp)
            refine op_value (some 87) (.map (some ml)) (i := 7) rfl rfl rfl (exec_make rfl hrun) trivial ?_
            have tn := tn'
            clear tn' tnF hrun
            go_frame
            refine ready2 (i := 3) (j := 5) (by kernel_rfl) ?_ ?_
            · obtain ⟨w', hrun, f34, tnF, tn'⟩ := st_ins cA (.func (.func 5) #[] #[]) f34 tn (.inl rfl)
              have f35 := f35.turned tnF (Ne.symm hne)
              refine op_skip none (i := 3) rfl rfl rfl (exec_ins rfl rfl rfl rfl hrun) trivial ?_
              have tn := tn'
              clear tn' tnF hrun
              go_frame
              obtain ⟨w', hrun, f34, tnF, tn'⟩ := st_ins (cA + 1) (.func (.func 6) #[] #[]) f34 tn (.inr ⟨_, _, rfl, by omega⟩)
              have f35 := f35.turned tnF (Ne.symm hne)
              refine only_skip none (i := 5) rfl rfl (by kernel_rfl) rfl (exec_ins rfl rfl rfl rfl hrun) trivial ?_
              have tn := tn'
              clear tn' tnF hrun
              go_frame
              refine takes (some 86) (.map (some mw)) (i := 6) rfl rfl (by kernel_rfl) (by kernel_rfl) (by kernel_rfl) (fun _ _ _ h => h) rfl (fun W hW => by simp [execOp, Act.eval]) trivial ?_
              go_frame
              refine takes (some 88) _ (i := 8) rfl rfl (by kernel_rfl) (by kernel_rfl) (by kernel_rfl) (fun _ _ _ h => h) rfl (fun W hW => exec_build44 rfl rfl rfl rfl) trivial ?_
              go_frame
              refine only_value (some 89) _ (i := 9) rfl rfl (by kernel_rfl) rfl (exec_box44 rfl rfl) trivial ?_
              go_frame
              refine takes (some 22) _ (i := 10) rfl rfl (by kernel_rfl) (by kernel_rfl) (by kernel_rfl) (fun _ _ _ h => h) rfl (fun W hW => exec_assign rfl rfl) trivial ?_
              go_frame
              refine wpAnyH_done (by kernel_rfl) ?_ _
              have hfin := fin27 ((P.length : Int) + 1) re hA hB f34 f35 tn
              generalize w'.alloc (.cells #[.int .i32 0, .int .u32 0, .int .i64 ((P.length : Int) + 1), .map (some mw), .map (some ml), .bool false] 44) = w6 at hfin ⊢
              have hbl := tn.size
              generalize w'.heap.size = b at hfin hbl ⊢

              go_wp2
              go_meet
              exact ⟨b, mw, ml, _, _, _, _, rfl, .inl ⟨rfl, rfl, rfl, rfl⟩, hfin.1, by omega, by have := f34.2; omega, by have := f35.2; omega, tX.then (hfin.2.mono (fun k hk => by omega))⟩
            · obtain ⟨w', hrun, f34, tnF, tn'⟩ := st_ins (cA + 1) (.func (.func 6) #[] #[]) f34 tn (.inl rfl)
              have f35 := f35.turned tnF (Ne.symm hne)
              refine op_skip none (i := 5) rfl rfl rfl (exec_ins rfl rfl rfl rfl hrun) trivial ?_
              have tn := tn'
              clear tn' tnF hrun
              go_frame
              obtain ⟨w', hrun, f34, tnF, tn'⟩ := st_ins cA (.func (.func 5) #[] #[]) f34 tn (.inr ⟨_, _, rfl, by omega⟩)
              have f35 := f35.turned tnF (Ne.symm hne)
              refine only_skip none (i := 3) rfl rfl (by kernel_rfl) rfl (exec_ins rfl rfl rfl rfl hrun) trivial ?_
              have tn := tn'
              clear tn' tnF hrun
              go_frame
              refine takes (some 86) (.map (some mw)) (i := 6) rfl rfl (by kernel_rfl) (by kernel_rfl) (by kernel_rfl) (fun _ _ _ h => h) rfl (fun W hW => by simp [execOp, Act.eval]) trivial ?_
              go_frame
              refine takes (some 88) _ (i := 8) rfl rfl (by kernel_rfl) (by kernel_rfl) (by kernel_rfl) (fun _ _ _ h => h) rfl (fun W hW => exec_build44 rfl rfl rfl rfl) trivial ?_
              go_frame
              refine only_value (some 89) _ (i := 9) rfl rfl (by kernel_rfl) rfl (exec_box44 rfl rfl) trivial ?_
              go_frame
              refine takes (some 22) _ (i := 10) rfl rfl (by kernel_rfl) (by kernel_rfl) (by kernel_rfl) (fun _ _ _ h => h) rfl (fun W hW => exec_assign rfl rfl) trivial ?_
              go_frame
              refine wpAnyH_done (by kernel_rfl) ?_ _
              have hfin := fin27 ((P.length : Int) + 1) re hB hA f34 f35 tn
              generalize w'.alloc (.cells #[.int .i32 0, .int .u32 0, .int .i64 ((P.length : Int) + 1), .map (some mw), .map (some ml), .bool false] 44) = w6 at hfin ⊢
              have hbl := tn.size
              generalize w'.heap.size = b at hfin hbl ⊢

              go_wp2
              go_meet
              exact ⟨b, mw, ml, _, _, _, _, rfl, .inr ⟨rfl, rfl, rfl, rfl⟩, hfin.1, by omega, by have := f34.2; omega, by have := f35.2; omega, tX.then (hfin.2.mono (fun k hk => by omega))⟩
        · obtain ⟨ml, w', hrun, f35, tnF, tn', hnew⟩ := st_make X 35 tn
          refine op_value (some 87) (.map (some ml)) (i := 7) rfl rfl rfl (exec_make rfl hrun) trivial ?_
          have tn := tn'
          clear tn' tnF hrun
          go_frame
          obtain ⟨mw, w', hrun, f34, tnF, tn', hnew⟩ := st_make X 34 tn
          have hne : mw ≠ ml := by have := f35.lt; omega
          have f35 := f35.turned tnF (by simp)
          refine only_value (some 83) (.map (some mw)) (i := 1) rfl rfl (by kernel_rfl) rfl (exec_make rfl hrun) trivial ?_
          have tn := tn'
          clear tn' tnF hrun
          go_frame
          refine ready2 (i := 3) (j := 5) (by kernel_rfl) ?_ ?_
          · obtain ⟨w', hrun, f34, tnF, tn'⟩ := st_ins cA (.func (.func 5) #[] #[]) f34 tn (.inl rfl)
            have f35 := f35.turned tnF (Ne.symm hne)
            refine op_skip none (i := 3) rfl rfl rfl (exec_ins rfl rfl rfl rfl hrun) trivial ?_
            have tn := tn'
            clear tn' tnF hrun
            go_frame
            obtain ⟨w', hrun, f34, tnF, tn'⟩ := st_ins (cA + 1) (.func (.func 6) #[] #[]) f34 tn (.inr ⟨_, _, rfl, by omega⟩)
            have f35 := f35.turned tnF (Ne.symm hne)
            refine only_skip none (i := 5) rfl rfl (by kernel_rfl) rfl (exec_ins rfl rfl rfl rfl hrun) trivial ?_
            have tn := tn'
            clear tn' tnF hrun
            go_frame
            refine takes (some 86) (.map (some mw)) (i := 6) rfl rfl (by kernel_rfl) (by kernel_rfl) (by kernel_rfl) (fun _ _ _ h => h) rfl (fun W hW => by simp [execOp, Act.eval]) trivial ?_
            go_frame
            refine takes (some 88) _ (i := 8) rfl rfl (by kernel_rfl) (by kernel_rfl) (by kernel_rfl) (fun _ _ _ h => h) rfl (fun W hW => exec_build44 rfl rfl rfl rfl) trivial ?_
            go_frame
            refine only_value (some 89) _ (i := 9) rfl rfl (by kernel_rfl) rfl (exec_box44 rfl rfl) trivial ?_
            go_frame
            refine takes (some 22) _ (i := 10) rfl rfl (by kernel_rfl) (by kernel_rfl) (by kernel_rfl) (fun _ _ _ h => h) rfl (fun W hW => exec_assign rfl rfl) trivial ?_
            go_frame
            refine wpAnyH_done (by kernel_rfl) ?_ _
            have hfin := fin27 ((P.length : Int) + 1) re hA hB f34 f35 tn
            generalize w'.alloc (.cells #[.int .i32 0, .int .u32 0, .int .i64 ((P.length : Int) + 1), .map (some mw), .map (some ml), .bool false] 44) = w6 at hfin ⊢
            have hbl := tn.size
            generalize w'.heap.size = b at hfin hbl ⊢

            go_wp2
            go_meet
            exact ⟨b, mw, ml, _, _, _, _, rfl, .inl ⟨rfl, rfl, rfl, rfl⟩, hfin.1, by omega, by have := f34.2; omega, by have := f35.2; omega, tX.then (hfin.2.mono (fun k hk => by omega))⟩
          · obtain ⟨w', hrun, f34, tnF, tn'⟩ := st_ins (cA + 1) (.func (.func 6) #[] #[]) f34 tn (.inl rfl)
            have f35 := f35.turned tnF (Ne.symm hne)
            refine op_skip none (i := 5) rfl rfl rfl (exec_ins rfl rfl rfl rfl hrun) trivial ?_
            have tn := tn'
            clear tn' tnF hrun
            go_frame
            obtain ⟨w', hrun, f34, tnF, tn'⟩ := st_ins cA (.func (.func 5) #[] #[]) f34 tn (.inr ⟨_, _, rfl, by omega⟩)
            have f35 := f35.turned tnF (Ne.symm hne)
            refine only_skip none (i := 3) rfl rfl (by kernel_rfl) rfl (exec_ins rfl rfl rfl rfl hrun) trivial ?_
            have tn := tn'
            clear tn' tnF hrun
            go_frame
            refine takes (some 86) (.map (some mw)) (i := 6) rfl rfl (by kernel_rfl) (by kernel_rfl) (by kernel_rfl) (fun _ _ _ h => h) rfl (fun W hW => by simp [execOp, Act.eval]) trivial ?_
            go_frame
            refine takes (some 88) _ (i := 8) rfl rfl (by kernel_rfl) (by kernel_rfl) (by kernel_rfl) (fun _ _ _ h => h) rfl (fun W hW => exec_build44 rfl rfl rfl rfl) trivial ?_
            go_frame
            refine only_value (some 89) _ (i := 9) rfl rfl (by kernel_rfl) rfl (exec_box44 rfl rfl) trivial ?_
            go_frame
            refine takes (some 22) _ (i := 10) rfl rfl (by kernel_rfl) (by kernel_rfl) (by kernel_rfl) (fun _ _ _ h => h) rfl (fun W hW => exec_assign rfl rfl) trivial ?_
            go_frame
            refine wpAnyH_done (by kernel_rfl) ?_ _
            have hfin := fin27 ((P.length : Int) + 1) re hB hA f34 f35 tn
            generalize w'.alloc (.cells #[.int .i32 0, .int .u32 0, .int .i64 ((P.length : Int) + 1), .map (some mw), .map (some ml), .bool false] 44) = w6 at hfin ⊢
            have hbl := tn.size
            generalize w'.heap.size = b at hfin hbl ⊢

            go_wp2
            go_meet
            exact ⟨b, mw, ml, _, _, _, _, rfl, .inr ⟨rfl, rfl, rfl, rfl⟩, hfin.1, by omega, by have := f34.2; omega, by have := f35.2; omega, tX.then (hfin.2.mono (fun k hk => by omega))⟩
      case rest =>
        obtain ⟨b, mw, ml, c1, c2, LA, LB, rfl, hor, hst', hbb, hmw, hml, tn6'⟩ := hcut.out
        clear hcut
        have hst6 : Hid (St b 0 ((P.length : Int) + 1) mw ml c1 c2 (P.length + 1) none re LA LB wc) := hst'
        have r6 : Hid (RngAt g16 rs re wc) := r5.out.same (tn6'.block g16 r5.out.lt (by have := r5.out.lt; omega))
        have hown6 : Hid (Own W1.heap.size (.slice av P.length capv) P wc) := hown5.out.turned tn6' (fun g _ hg e => by have := (hown5.out.base e).2; omega)
        have hbel6 : Hid (Below W1.heap.size W1 wc) := hbel5.out.trans (tn6'.below hbel5.out.size (fun k hk => by have := hbel5.out.size; omega))
        have hc0 := hcB5.out.lt
        have hor : Hid _ := hor
        clear hst' tn6' hcA5 hcB5 hown5 r5 hbel5
        go_upto_region 28 with fail
        refine wp_region_at ?_
        refine regAt_to (some 23) _ rfl rfl rfl (exec_alloc29 rfl) ?_
        refine regAt_done ?_
        have tn7' : Tn (fun _ => False) wc (wc.alloc (.cells zero40 29)) := Tn.alloc _ _ _
        have hst7 : Hid (St b 0 ((P.length : Int) + 1) mw ml c1 c2 (P.length + 1) none re LA LB (wc.alloc (.cells zero40 29))) := hst6.out.fresh tn7'
        have hz7 : Hid ((wc.alloc (.cells zero40 29)).heap[wc.heap.size]? = some (.cells zero40 29 (0, 0))) := Deep.blk_alloc_new wc _
        have r7 : Hid (RngAt g16 rs re (wc.alloc (.cells zero40 29))) := r6.out.same (tn7'.block g16 r6.out.lt (by simp))
        have hown7 : Hid (Own W1.heap.size (.slice av P.length capv) P (wc.alloc (.cells zero40 29))) := hown6.out.turned tn7' (by simp)
        have hbel7 : Hid (Below W1.heap.size W1 (wc.alloc (.cells zero40 29))) := hbel6.out.trans (tn7'.below hbel6.out.size (by simp))
        have hl6 := hst6.out.lt
        have hg6 := r6.out.lt
        have hob6 : ∀ k, (Value.slice av P.length capv).ownBlock = some k → k < wc.heap.size := fun k hk => (hown6.out.base hk).2
        have hW16 : W1.heap.size ≤ wc.heap.size := hbel6.out.size
        generalize wc.alloc (.cells zero40 29) = w7 at hst7 hz7 r7 hown7 hbel7 ⊢
        generalize wc.heap.size = g23 at hl6 hg6 hob6 hz7 hW16 ⊢
        have hob6 : Hid _ := hob6
        clear tn7' hst6 r6 hown6 hbel6
        go_frame
        have hm : Yba.prog.follows .mixedOrders = true := by kernel_rfl
        go_upto_if 90 with fail
        obtain ⟨o, ho⟩ : ∃ o, Hid (o = (if lh then some ls else none)) := ⟨_, rfl⟩
        go_cut [91] from 91 to 102 (fun _ wx => Hid (St b 0 ((P.length : Int) + 1) mw ml c1 c2 (P.length + 1) o re LA LB wx ∧ wx.heap[g23]? = some (.cells (lookA o re) 29 (0, 0)) ∧ RngAt g16 rs re wx ∧ Own W1.heap.size (.slice av P.length capv) P wx ∧ Below W1.heap.size W1 wx))
        case first =>
          cases lh
          · obtain rfl : o = none := ho.out
            go_wp2
            go_meet
            exact ⟨hst7.out, hz7.out, r7.out, hown7.out, hbel7.out⟩
          · go_upto_region 30 with fail
            refine wp_region_held (S := fun W' => RngAt g16 rs re W') hm ?_
            have S0 : RngAt g16 rs re w7.drew := r7.out
            refine takes (some 91) (.int .u8 ls) (i := 0) rfl rfl (by kernel_rfl) (by kernel_rfl) (by kernel_rfl) (fun _ _ _ h => h) rfl (fun W hW => by simp [execOp, Act.eval]) S0 ?_
            go_frame
            refine takes (some 93) (.pointer (some ⟨g16, 20, none⟩)) (i := 2) rfl rfl (by kernel_rfl) (by kernel_rfl) (by kernel_rfl) (fun _ _ _ h => h) rfl (fun W hW => by simp [execOp, go_sem, Act.eval]) S0 ?_
            go_frame
            refine takes (some 94) (.agg (idA re)) (i := 3) rfl rfl (by kernel_rfl) (by kernel_rfl) (by kernel_rfl) (fun _ _ _ h => h) rfl (fun W hW => exec_load27 rfl rfl hW) S0 ?_
            go_frame
            change wpAnyH _ _ _ _ _ _ _ _ w7.drew
            refine only_call (some 92) (.agg (idA ls)) (i := 1) (w' := w7.drew) (f := 7) (args := #[.int .u8 ls]) rfl rfl (by kernel_rfl) rfl (by simp [execOp, go_sem, Act.eval]) (id7 ls w7.drew) fun w8 hb8 => ?_
            have tn8 : Tn (fun _ => False) w7 w8 := (Tn.drew _ _).then (Tn.of_below hb8)
            have r8 : RngAt g16 rs re w8 := r7.out.same (tn8.block g16 r7.out.lt (by simp))
            refine ⟨r8, ?_⟩
            go_frame
            refine takes (some 95) (.agg (rngA ls re)) (i := 4) rfl rfl (by kernel_rfl) (by kernel_rfl) (by kernel_rfl) (fun _ _ _ h => h) rfl (fun W _ => exec_build rfl #[(0, .agg (idA ls)), (1, .agg (idA re))] rfl (build29 ls re W)) r8 ?_
            go_frame
            have hz8 : w8.heap[g23]? = some (.cells zero40 29 (0, 0)) := (tn8.block g23 ((Array.getElem?_eq_some_iff.1 hz7.out).1) (by simp)).trans hz7.out
            have tn9 : Tn (· = g23) w8 (w8.setRow g23 (rngA ls re)) := setRow_tn _ _ _
            have r9 : RngAt g16 rs re (w8.setRow g23 (rngA ls re)) := r8.same (tn9.block g16 r8.lt (by omega))
            have hz9 : RngAt g23 ls re (w8.setRow g23 (rngA ls re)) := setRow_same _ _ _ _ _ hz8
            have tn79 : Tn (· = g23) w7 (w8.setRow g23 (rngA ls re)) := (tn8.mono (by simp)).then tn9
            refine only_skip none (i := 5) rfl rfl (by kernel_rfl) rfl (exec_store_to rfl rfl rfl (rngA_size _ _) (rngA_one _ _) hz8 zero40_size) r9 ?_
            have hst9 : Hid (St b 0 ((P.length : Int) + 1) mw ml c1 c2 (P.length + 1) none re LA LB (w8.setRow g23 (rngA ls re))) := hst7.out.turned tn79 (by omega) (by omega) (by omega) (by omega) (by omega)
            have hown9 : Hid (Own W1.heap.size (.slice av P.length capv) P (w8.setRow g23 (rngA ls re))) := hown7.out.turned tn79 (fun g _ hg e => by have := hob6.out g e; omega)
            have hbel9 : Hid (Below W1.heap.size W1 (w8.setRow g23 (rngA ls re))) := hbel7.out.trans (tn79.below hbel7.out.size (fun k hk => by omega))
            have r9 : Hid _ := r9
            have hz9 : Hid _ := hz9
            generalize w8.setRow g23 (rngA ls re) = w9 at r9 hz9 hst9 hown9 hbel9 ⊢
            clear tn8 tn9 tn79 hz8 r8 S0 hst7 hown7 hbel7 r7 hz7 hb8
            go_frame
            refine wpAnyH_done (by kernel_rfl) ?_ _
            go_upto_region 31 with fail
            obtain rfl : o = some ls := ho.out
            have S5 : St b 0 ((P.length : Int) + 1) mw ml c1 c2 (P.length + 1) none re LA LB w9.drew ∧ RngAt g16 rs re w9.drew ∧ RngAt g23 ls re w9.drew := ⟨hst9.out.fresh (Tn.drew _ w9), r9.out, hz9.out⟩
            have S0 : (St b 0 ((P.length : Int) + 1) mw ml c1 c2 (P.length + 1) none re LA LB w9.drew ∨ St b 0 ((P.length : Int) + 1) mw ml c1 c2 (P.length + 1) (some ls) re LA LB w9.drew) ∧ RngAt g16 rs re w9.drew ∧ RngAt g23 ls re w9.drew := ⟨.inl S5.1, S5.2⟩
            refine wp_region_held (S := fun W' => (St b 0 ((P.length : Int) + 1) mw ml c1 c2 (P.length + 1) none re LA LB W' ∨ St b 0 ((P.length : Int) + 1) mw ml c1 c2 (P.length + 1) (some ls) re LA LB W') ∧ RngAt g16 rs re W' ∧ RngAt g23 ls re W') hm ?_
            refine takes (some 96) (.pointer (some ⟨b, 0, none⟩)) (i := 0) rfl rfl (by kernel_rfl) (by kernel_rfl) (by kernel_rfl) (fun _ _ _ h => h) rfl (fun W hW => by simp [execOp, Act.eval]) S0 ?_
            go_frame
            refine takes (some 97) (.pointer (some ⟨b, 0, none⟩)) (i := 1) rfl rfl (by kernel_rfl) (by kernel_rfl) (by kernel_rfl) (fun _ _ _ h => h) rfl (fun W hW => by simp [execOp, Act.eval]) S0 ?_
            go_frame
            refine takes (some 98) (.pointer (some ⟨b, 4, none⟩)) (i := 2) rfl rfl (by kernel_rfl) (by kernel_rfl) (by kernel_rfl) (fun _ _ _ h => h) rfl (fun W hW => by simp [execOp, go_sem, Act.eval]) S0 ?_
            go_frame
            refine takes (some 99) (.map (some ml)) (i := 3) rfl rfl (by kernel_rfl) (by kernel_rfl) (by kernel_rfl) (fun _ _ _ h => h) rfl (fun W hW => by
              have : W.cell? ⟨b, 4, none⟩ = some (.map (some ml)) := by rcases hW.1 with h | h <;> exact h.cell.2.2.1
              simp [execOp, go_sem, Act.eval, this]) S0 ?_
            go_frame
            refine takes (some 100) (.pointer (some ⟨g16, 20, none⟩)) (i := 4) rfl rfl (by kernel_rfl) (by kernel_rfl) (by kernel_rfl) (fun _ _ _ h => h) rfl (fun W hW => by simp [execOp, go_sem, Act.eval]) S0 ?_
            go_frame
            refine takes (some 101) (.agg (idA re)) (i := 5) rfl rfl (by kernel_rfl) (by kernel_rfl) (by kernel_rfl) (fun _ _ _ h => h) rfl (fun W hW => exec_load27 rfl rfl hW.2.1) S0 ?_
            go_frame
            refine takes (some 102) (.agg (rngA ls re)) (i := 6) rfl rfl (by kernel_rfl) (by kernel_rfl) (by kernel_rfl) (fun _ _ _ h => h) rfl (fun W hW => exec_load29 rfl rfl hW.2.2) S0 ?_
            go_frame
            obtain ⟨w10, hput, hl10, tn10⟩ := put_last (s := ls) S5.1.last
            have st10 : Hid (St b 0 ((P.length : Int) + 1) mw ml c1 c2 (P.length + 1) (some ls) re LA LB w10) := by
              have hn := S5.1.ne
              have hl := S5.1.lt
              exact ⟨by rw [tn10.block b hl.1 (by omega)]; exact S5.1.box, S5.1.wat.same (tn10.block mw hl.2.1 (by omega)), hl10, S5.1.ch1.turned tn10 (by omega), S5.1.ch2.turned tn10 (by omega)⟩
            have r10 : Hid (RngAt g16 rs re w10) := S5.2.1.same (tn10.block g16 S5.2.1.lt (by omega))
            have z10 : Hid (RngAt g23 ls re w10) := S5.2.2.same (tn10.block g23 S5.2.2.lt (by omega))
            have tn9' : Tn (· = ml) w9 w10 := (Tn.drew _ w9).then tn10
            have hown10 : Hid (Own W1.heap.size (.slice av P.length capv) P w10) := hown9.out.turned tn9' (fun g _ hg e => by have := (hob.out g e).2; omega)
            have hbel10 : Hid (Below W1.heap.size W1 w10) := hbel9.out.trans (tn9'.below hbel9.out.size (fun k hk => by omega))
            refine only_skip none (i := 7) rfl rfl (by kernel_rfl) rfl (exec_put rfl rfl rfl rfl hput) ⟨.inr st10.out, r10.out, z10.out⟩ ?_
            go_frame
            refine wpAnyH_done (by kernel_rfl) ?_ _
            clear S0 S5 hput hl10 tn10 tn9' hst9 r9 hz9 hown9 hbel9
            go_wp2
            go_meet
            exact ⟨st10.out, z10.out, r10.out, hown10.out, hbel10.out⟩
        case rest =>
          obtain ⟨hst8', hz8', r8', hown8', hbel8'⟩ := hcut.out
          clear hcut
          have hst8 : Hid (St b 0 ((P.length : Int) + 1) mw ml c1 c2 (P.length + 1) o re LA LB wc) := hst8'
          have hz8 : Hid (wc.heap[g23]? = some (.cells (lookA o re) 29 (0, 0))) := hz8'
          have r8 : Hid (RngAt g16 rs re wc) := r8'
          have hown8 : Hid (Own W1.heap.size (.slice av P.length capv) P wc) := hown8'
          have hbel8 : Hid (Below W1.heap.size W1 wc) := hbel8'
          clear hst8' hz8' r8' hown8' hbel8' hst7 hz7 r7 hown7 hbel7
          have hn12 : c1 ≠ c2 := by rcases hor.out with h | h <;> omega
          have hL1 : LA.length < P.length + 1 := by rcases hor.out with ⟨_, _, h, _⟩ | ⟨_, _, h, _⟩ <;> rw [h] <;> simp
          have hL2 : LB.length < P.length + 1 := by rcases hor.out with ⟨_, _, _, h⟩ | ⟨_, _, _, h⟩ <;> rw [h] <;> simp
          go_upto_region 33 with (first
            | (go_at_call 8; refine (send8 b mw ml c1 c2 (P.length + 1) ((P.length : Int) + 1) rs re o LA LB wc hst8.out hn12 hL1 hL2 (by omega)).mono ?_; rintro x w9 ⟨rfl, tn9', hpost'⟩)
            | (refine wpList_value rfl (exec_load29 rfl rfl r8.out) ?_; go_frame))
          have hl8 := hst8.out.lt
          obtain ⟨GA, GB, hG, hA9, hB9, hbox9, hwat9, hlast9⟩ : ∃ GA GB, ((o = some rs ∧ GA = P ∧ GB = []) ∨ (o ≠ some rs ∧ GA = repl rs re P ∧ GB = [(rs, re)])) ∧ ChanAt cA (P.length + 1) GA w9 ∧ ChanAt (cA + 1) (P.length + 1) GB w9 ∧
              w9.heap[b]? = some (.cells #[.int .i32 0, .int .u32 0, .int .i64 ((P.length : Int) + 1), .map (some mw), .map (some ml), .bool false] 44 (0, 0)) ∧ WatAt mw c1 c2 w9 ∧ LastAt ml (some rs) re w9 := by
            rcases hpost' with ⟨h1, h2⟩ | ⟨h1, h2⟩
            · rcases hor.out with ⟨rfl, rfl, rfl, rfl⟩ | ⟨rfl, rfl, rfl, rfl⟩
              · exact ⟨_, _, .inl ⟨h1, rfl, rfl⟩, h2.ch1, h2.ch2, h2.box, h2.wat, h2.last⟩
              · exact ⟨_, _, .inl ⟨h1, rfl, rfl⟩, h2.ch2, h2.ch1, h2.box, h2.wat, h2.last⟩
            · rcases hor.out with ⟨rfl, rfl, rfl, rfl⟩ | ⟨rfl, rfl, rfl, rfl⟩
              · exact ⟨_, _, .inr ⟨h1, rfl, rfl⟩, h2.ch1, h2.ch2, h2.box, h2.wat, h2.last⟩
              · exact ⟨_, _, .inr ⟨h1, rfl, rfl⟩, h2.ch2, h2.ch1, h2.box, h2.wat, h2.last⟩
          have hne8 := hst8.out.ne
          have hcc : (c1 = cA ∧ c2 = cA + 1) ∨ (c1 = cA + 1 ∧ c2 = cA) := by rcases hor.out with h | h <;> omega
          have hGlen : GA.length ≤ 1025 ∧ GB.length ≤ 1 := by
            have := repl_length rs re P
            rcases hG with ⟨_, rfl, rfl⟩ | ⟨_, rfl, rfl⟩ <;> simp <;> omega
          have hg16o : g16 ≠ b ∧ g16 ≠ ml ∧ g16 ≠ c1 ∧ g16 ≠ c2 := by omega
          have r9 : RngAt g16 rs re w9 := r8.out.same (tn9'.block g16 r8.out.lt (by omega))
          have z9 : w9.heap[g23]? = some (.cells (lookA o re) 29 (0, 0)) := (tn9'.block g23 ((Array.getElem?_eq_some_iff.1 hz8.out).1) (by omega)).trans hz8.out
          have hown9 : Own W1.heap.size (.slice av P.length capv) P w9 := hown8.out.turned tn9' (fun g _ hg e => by have := (hob.out g e).2; omega)
          have hbel9 : Below W1.heap.size W1 w9 := hbel8.out.trans (tn9'.below hbel8.out.size (fun k hk => by omega))
          have hw89 := tn9'.size
          have hA9 : Hid (ChanAt cA (P.length + 1) GA w9) := hA9
          have hB9 : Hid (ChanAt (cA + 1) (P.length + 1) GB w9) := hB9
          have hbox9 : Hid _ := hbox9
          have hwat9 : Hid (WatAt mw c1 c2 w9) := hwat9
          have hlast9 : Hid (LastAt ml (some rs) re w9) := hlast9
          have r9 : Hid (RngAt g16 rs re w9) := r9
          have z9 : Hid _ := z9
          have hown9 : Hid (Own W1.heap.size (.slice av P.length capv) P w9) := hown9
          have hbel9 : Hid (Below W1.heap.size W1 w9) := hbel9
          have hG : Hid _ := hG
          have hz8l : g23 < wc.heap.size := (Array.getElem?_eq_some_iff.1 hz8.out).1
          clear hpost' tn9' hst8 hz8 r8 hown8 hbel8
          go_upto_region 34 with (go_at_call 9; refine (take9 cA (P.length + 1) GA w9 hA9.out (by omega)).mono ?_; rintro x w10 ⟨vA, rfl, hvA', tn10'⟩)
          have hB10 : Hid (ChanAt (cA + 1) (P.length + 1) GB w10) := hB9.out.turned tn10' (by omega)
          go_upto_region 35 with (go_at_call 9; refine (take9 (cA + 1) (P.length + 1) GB w10 hB10.out (by omega)).mono ?_; rintro x w11 ⟨vB, rfl, hvB', tn11'⟩)
          have tn : Tn (fun k => k = cA ∨ k = cA + 1) w9 w11 := (tn10'.mono (fun _ h => .inl h)).then (tn11'.mono (fun _ h => .inr h))
          have hA9l := hA9.out.lt
          have hB9l := hB9.out.lt
          have hvA : Hid (Own w9.heap.size vA GA w11) := hvA'.turned tn11' (fun g hg h e => by omega)
          have hvB : Hid (Own w10.heap.size vB GB w11) := hvB'
          have hbox : Hid (w11.heap[b]? = some (.cells #[.int .i32 0, .int .u32 0, .int .i64 ((P.length : Int) + 1), .map (some mw), .map (some ml), .bool false] 44 (0, 0))) := (tn.block b ((Array.getElem?_eq_some_iff.1 hbox9.out).1) (by omega)).trans hbox9.out
          have hwat : Hid (WatAt mw c1 c2 w11) := hwat9.out.same (tn.block mw hwat9.out.lt (by omega))
          have hlast : Hid (LastAt ml (some rs) re w11) := hlast9.out.same (tn.block ml hlast9.out.lt (by omega))
          have rr : Hid (RngAt g16 rs re w11) := r9.out.same (tn.block g16 r9.out.lt (by omega))
          have zz : Hid (w11.heap[g23]? = some (.cells (lookA o re) 29 (0, 0))) := (tn.block g23 ((Array.getElem?_eq_some_iff.1 z9.out).1) (by omega)).trans z9.out
          have hpre : Hid (Own W1.heap.size (.slice av P.length capv) P w11) := hown9.out.turned tn (fun g _ hg e => by have := (hob.out g e).2; omega)
          have hbel : Hid (Below W1.heap.size W1 w11) := hbel9.out.trans (tn.below hbel9.out.size (fun k hk => by omega))
          clear hvA' hvB' tn10' tn11' tn hA9 hB9 hB10 hbox9 hwat9 hlast9 r9 z9 hown9 hbel9 hob hob6 hor
          go_cut [26] from 110 to 115 (fun v wx => v = .bool (decide (o = some rs)) ∧ wx = w11)
          case first =>
            refine wp_region_at ?_
            refine regAt_move (some 110) (.bool lh) rfl rfl rfl (.inl rfl) rfl ?_
            go_frame
            refine regAt_move (some 111) (.bool lh) rfl rfl rfl (.inl rfl) rfl ?_
            go_frame
            cases lh
            · obtain rfl : o = none := ho.out
              refine regAt_not (some 112) rfl rfl rfl ?_
              go_frame
              refine regAt_not (some 113) rfl rfl rfl ?_
              go_frame
              refine regAt_not (some 114) rfl rfl rfl ?_
              go_frame
              refine regAt_pure (some 115) (.bool false) rfl rfl rfl (exec_pickTo (c := false) rfl rfl rfl) ?_
              go_frame
              refine regAt_move (some 26) (.bool false) rfl rfl rfl (.inr rfl) rfl ?_
              refine regAt_done ?_
              go_frame
              go_wp2
              go_meet
              exact ⟨by simp, rfl⟩
            · obtain rfl : o = some ls := ho.out
              refine regAt_load (some 112) ls re g23 rfl rfl rfl rfl rfl zz.out ?_
              go_frame
              refine regAt_load (some 113) rs re g16 rfl rfl rfl rfl rfl rr.out ?_
              go_frame
              refine regAt_pure (some 114) (.bool (decide (ls = rs))) rfl rfl rfl (exec_eqlTo _ (by simp) rfl rfl rfl) ?_
              go_frame
              refine regAt_pure (some 115) (.bool (decide (ls = rs))) rfl rfl rfl (exec_pickTo (c := true) rfl rfl rfl) ?_
              go_frame
              refine regAt_move (some 26) (.bool (decide (ls = rs))) rfl rfl rfl (.inr rfl) rfl ?_
              refine regAt_done ?_
              go_frame
              go_wp2
              go_meet
              exact ⟨by simp, rfl⟩
          case rest =>
            generalize hsk' : decide (o = some rs) = sk at hcut
            have hsk : Hid (decide (o = some rs) = sk) := hsk'
            clear hsk'
            obtain ⟨rfl, rfl⟩ := hcut
            obtain ⟨w11, ew⟩ : ∃ w11, w11 = wc := ⟨_, rfl⟩
            subst ew
            go_upto_if 116 with fail
            go_cut [27, 28] from 117 to 149 (fun v u wx => Hid ((∃ a cap, v = .slice a GA.length cap ∧ RngSl a GA.length (fun i => GA.getD i (0, 0)) wx) ∧ (∃ a cap, u = .slice a GB.length cap ∧ RngSl a GB.length (fun i => GB.getD i (0, 0)) wx) ∧ Below w11.heap.size w11 wx))
            case first =>
              cases sk
              · have hno : o ≠ some rs := of_decide_eq_false hsk.out
                obtain ⟨hGA', rfl⟩ : GA = repl rs re P ∧ GB = [(rs, re)] := by rcases hG.out with ⟨h, _⟩ | ⟨_, h⟩; exact absurd h hno; exact h
                have hGA : Hid (GA = repl rs re P) := hGA'
                clear hGA'
                go_upto_block 6 with fail
                go_cut [27, 29] from 118 to 141 (fun v f wx => Hid (∃ fd M, f = .bool fd ∧ Own w11.heap.size v M wx ∧ (if fd then M = repl rs re P else M ++ [(rs, re)] = repl rs re P) ∧ Below w11.heap.size w11 wx))
                case first =>
                  obtain ⟨_, _, hsv, hsl'⟩ := hpre.out.sl
                  cases hsv
                  have hsl : Hid (RngSl av P.length (fun i => P.getD i (0, 0)) w11) := hsl'
                  clear hsl'
                  go_wp2
                  go_loopw [27, 29, 120] (fun v f vi wr => Hid (∃ (i : Nat) (fd : Bool) (M : List (Int × Int)), vi = .int .i64 i ∧ i ≤ P.length ∧ f = .bool fd ∧ Own w11.heap.size v M wr ∧ M ++ (if fd then P.drop i else repl rs re (P.drop i)) = repl rs re P ∧ Below w11.heap.size w11 wr)) (fun _ _ vi _ => P.length - (intOf vi).toNat)
                  case atStart => exact ⟨0, false, [], rfl, Nat.zero_le _, rfl, .nil _ _, rfl, Below.refl _ _⟩
                  case round =>
                    obtain ⟨i, fd, M, rfl, hi, rfl, hM', hinv', hbw'⟩ := hrel.out
                    clear hrel
                    have hM : Hid (Own w11.heap.size u27 M wr) := hM'
                    have hinv : Hid (M ++ (if fd then P.drop i else repl rs re (P.drop i)) = repl rs re P) := hinv'
                    have hbw : Hid (Below w11.heap.size w11 wr) := hbw'
                    have hMl : M.length ≤ 1025 := by
                      have h1 := congrArg List.length hinv'
                      have h2 := repl_length rs re P
                      rw [List.length_append] at h1
                      omega
                    clear hM' hinv' hbw'
                    by_cases hlt : i < P.length
                    · have hi64 : (i : Int) < (P.length : Int) := by omega
                      obtain ⟨G, rfl, hGl, hrw⟩ := hsl.out (by omega)
                      go_upto_region 42 with fail
                      refine wp_region_at ?_
                      refine regAt_pure (some 122) _ rfl rfl rfl (exec_index rfl rfl rfl hlt) ?_
                      go_frame
                      generalize hp : P.getD i (0, 0) = p
                      have hdrop : P.drop i = p :: P.drop (i + 1) := by
                        rw [← hp, List.drop_eq_getElem_cons hlt]; simp [hlt]
                      have hrd : wr.rangeAt G (i * 40) (rngA p.1 p.2).toList := by rw [← hp]; exact (hrw.kept hbw.out hGl) i hlt
                      refine regAt_pure (some 123) (.agg (rngA p.1 p.2)) rfl rfl rfl (exec_load_mid rfl rfl _ hrd Yba.underlying29 rfl (list29 _ _)) ?_
                      go_frame
                      refine regAt_fresh (some 31) p.1 p.2 rfl rfl rfl rfl rfl rfl rfl rfl (by go_frame <;> rfl) (by go_frame <;> rfl) ?_
                      refine regAt_done ?_
                      have hat : RngAt wr.heap.size p.1 p.2 (wr.alloc (.cells (rngA p.1 p.2) 29)) := Deep.blk_alloc_new wr _
                      have hbw1 : Below w11.heap.size w11 (wr.alloc (.cells (rngA p.1 p.2) 29)) := hbw.out.alloc hbw.out.size _
                      have hM1 : Own w11.heap.size u27 M (wr.alloc (.cells (rngA p.1 p.2) 29)) := hM.out.turned (Tn.alloc (fun _ => False) wr _) (by simp)
                      have r12 : RngAt g16 rs re (wr.alloc (.cells (rngA p.1 p.2) 29)) := rr.out.kept hbw1 rr.out.lt
                      generalize wr.alloc (.cells (rngA p.1 p.2) 29) = w12 at hat hbw1 hM1 r12 ⊢
                      generalize wr.heap.size = g31 at hat ⊢
                      clear hrd hM hbw
                      go_frame
                      go_upto_region 43 with fail
                      go_cut [132] from 124 to 132 (fun v wx => v = .bool (decide (p.2 = re) && !fd) ∧ wx = w12)
                      case first =>
                        refine wp_region_at ?_
                        refine regAt_pure (some 124) (.pointer (some ⟨g31, 20, none⟩)) rfl rfl rfl (by simp [execOp, go_sem, Act.eval]) ?_
                        go_frame
                        refine regAt_pure (some 125) _ rfl rfl rfl (exec_load27 rfl rfl hat) ?_
                        go_frame
                        refine regAt_pure (some 126) (.pointer (some ⟨g16, 20, none⟩)) rfl rfl rfl (by simp [execOp, go_sem, Act.eval]) ?_
                        go_frame
                        refine regAt_pure (some 127) _ rfl rfl rfl (exec_load27 rfl rfl r12) ?_
                        go_frame
                        by_cases heq : p.2 = re
                        · refine regAt_pure (some 128) (.bool true) rfl rfl rfl (exec_eql27To true (by simp [heq]) rfl rfl rfl) ?_
                          go_frame
                          refine regAt_move (some 129) (.bool true) rfl rfl rfl (.inl rfl) rfl ?_
                          go_frame
                          refine regAt_move (some 130) (.bool fd) rfl rfl rfl (.inl rfl) rfl ?_
                          go_frame
                          refine regAt_pure (some 131) (.bool (!fd)) rfl rfl rfl (exec_not rfl rfl) ?_
                          go_frame
                          refine regAt_pure (some 132) (.bool (!fd)) rfl rfl rfl (exec_pickTo (c := true) rfl rfl rfl) ?_
                          refine regAt_done ?_
                          go_frame
                          go_wp2
                          go_meet
                          exact ⟨by simp [heq], rfl⟩
                        · refine regAt_pure (some 128) (.bool false) rfl rfl rfl (exec_eql27To false (by simp [heq]) rfl rfl rfl) ?_
                          go_frame
                          refine regAt_move (some 129) (.bool false) rfl rfl rfl (.inl rfl) rfl ?_
                          go_frame
                          refine regAt_not (some 130) rfl rfl rfl ?_
                          go_frame
                          refine regAt_not (some 131) rfl rfl rfl ?_
                          go_frame
                          refine regAt_pure (some 132) (.bool false) rfl rfl rfl (exec_pickTo (c := false) rfl rfl rfl) ?_
                          refine regAt_done ?_
                          go_frame
                          go_wp2
                          go_meet
                          exact ⟨by simp [heq], rfl⟩
                      case rest =>
                        obtain ⟨rfl, rfl⟩ := hcut
                        have hM1' : Hid (Own w11.heap.size u27 M wc) := hM1
                        cases htb : (decide (p.2 = re) && !fd)
                        · go_upto_region 46 with fail
                          refine wp_region_at ?_
                          refine regAt_move (some 137) u27 rfl rfl rfl (.inl rfl) rfl ?_
                          go_frame
                          refine regAt_load (some 138) p.1 p.2 g31 rfl rfl rfl rfl rfl hat ?_
                          go_frame
                          refine regAt_app (some 139) (some 140) (v := u27) (L := M) (base := w11.heap.size) p.1 p.2 rfl rfl rfl rfl rfl rfl rfl rfl rfl (by go_frame <;> rfl) (by go_frame <;> rfl) hM1'.out (by omega) hbw1.size ?_
                          intro v' w13 hown13 hg13 _
                          go_frame
                          refine regAt_move (some 27) v' rfl rfl rfl (.inr rfl) rfl ?_
                          refine regAt_done ?_
                          go_frame
                          have tn13 : Tn (fun k => u27.ownBlock = some k) wc w13 := .of_grown hg13 (fun k h => h)
                          have hbw13 : Below w11.heap.size w11 w13 := hbw1.trans (tn13.below hbw1.size (fun k hk => (hM1'.out.base hk).1))
                          have hinv13 : M ++ [(p.1, p.2)] ++ (if fd then P.drop (i + 1) else repl rs re (P.drop (i + 1))) = repl rs re P := by
                            rw [← hinv.out, hdrop]
                            cases fd
                            · have hne : p.2 ≠ re := by simpa using htb
                              simp [repl, hne]
                            · simp
                          go_wp2
                          refine ⟨⟨i + 1, fd, _, by simp, hlt, rfl, hown13, hinv13, hbw13⟩, ?_⟩
                          simp [intOf]; omega
                        · have htb' := htb
                          simp only [Bool.and_eq_true, decide_eq_true_eq, Bool.not_eq_true'] at htb'
                          obtain ⟨hpe, rfl⟩ := htb'
                          go_upto_region 44 with fail
                          refine wp_region_at ?_
                          refine regAt_move (some 133) u27 rfl rfl rfl (.inl rfl) rfl ?_
                          go_frame
                          refine regAt_load (some 134) rs re g16 rfl rfl rfl rfl rfl r12 ?_
                          go_frame
                          refine regAt_app (some 135) (some 136) (v := u27) (L := M) (base := w11.heap.size) rs re rfl rfl rfl rfl rfl rfl rfl rfl rfl (by go_frame <;> rfl) (by go_frame <;> rfl) hM1'.out (by omega) hbw1.size ?_
                          intro v' w13 hown13 hg13 _
                          go_frame
                          refine regAt_move (some 27) v' rfl rfl rfl (.inr rfl) rfl ?_
                          refine regAt_done ?_
                          go_frame
                          have tn13 : Tn (fun k => u27.ownBlock = some k) wc w13 := .of_grown hg13 (fun k h => h)
                          have hbw13 : Below w11.heap.size w11 w13 := hbw1.trans (tn13.below hbw1.size (fun k hk => (hM1'.out.base hk).1))
                          have hinv13 : M ++ [(rs, re)] ++ (if true then P.drop (i + 1) else repl rs re (P.drop (i + 1))) = repl rs re P := by
                            rw [← hinv.out, hdrop]
                            simp [repl, hpe]
                          go_wp2
                          refine ⟨⟨i + 1, true, _, by simp, hlt, rfl, hown13, hinv13, hbw13⟩, ?_⟩
                          simp [intOf]; omega
                    · have hi64 : ¬ (i : Int) < (P.length : Int) := by omega
                      obtain rfl : i = P.length := by omega
                      go_wp2
                      go_meet
                      refine ⟨fd, M, rfl, hM.out, ?_, hbw.out⟩
                      have := hinv.out
                      rw [List.drop_length] at this
                      cases fd
                      · simpa [repl] using this
                      · simpa using this
                case rest =>
                  obtain ⟨fd, M, rfl, hM', hMr, hbw'⟩ := hcut.out
                  clear hcut
                  have hMl : M.length ≤ 1025 := by
                    have h2 := repl_length rs re P
                    cases fd
                    · have := congrArg List.length (show M ++ [(rs, re)] = repl rs re P from hMr)
                      rw [List.length_append] at this
                      omega
                    · rw [show M = repl rs re P from hMr]; omega
                  cases fd
                  · have hM : Hid (Own w11.heap.size u27 M wc) := hM'
                    have r13 : Hid (RngAt g16 rs re wc) := rr.out.kept hbw' rr.out.lt
                    have hbw : Hid (Below w11.heap.size w11 wc) := hbw'
                    have hMr' : Hid (M ++ [(rs, re)] = repl rs re P) := hMr
                    clear hM' hbw' hMr
                    go_upto_region 49 with fail
                    refine wp_region_at ?_
                    refine regAt_move (some 144) u27 rfl rfl rfl (.inl rfl) rfl ?_
                    go_frame
                    refine regAt_load (some 145) rs re g16 rfl rfl rfl rfl rfl r13.out ?_
                    go_frame
                    refine regAt_app (some 146) (some 147) (v := u27) (L := M) (base := w11.heap.size) rs re rfl rfl rfl rfl rfl rfl rfl rfl rfl (by go_frame <;> rfl) (by go_frame <;> rfl) hM.out (by omega) hbw.out.size ?_
                    intro v' WW hown14 hg14 _
                    go_frame
                    refine regAt_move (some 27) v' rfl rfl rfl (.inr rfl) rfl ?_
                    refine regAt_done ?_
                    go_frame
                    rw [hMr'.out, ← hGA.out] at hown14
                    have tn14 : Tn (fun k => u27.ownBlock = some k) wc WW := .of_grown hg14 (fun k h => h)
                    have hbwY : Below w11.heap.size w11 WW := hbw.out.trans (tn14.below hbw.out.size (fun k hk => (hM.out.base hk).1))
                    have r14 : RngAt g16 rs re WW := rr.out.kept hbwY rr.out.lt
                    obtain ⟨a27, cap27, rfl, hslY⟩ := hown14.sl
                    clear hown14 hg14 tn14 hM
                    go_upto_region 50 with fail
                    refine wp_region_at ?_
                    refine regAt_load (some 148) rs re g16 rfl rfl rfl rfl rfl r14 ?_
                    go_frame
                    refine regAt_to (some 149) _ rfl rfl rfl (exec_build1 rfl rfl) ?_
                    go_frame
                    refine regAt_move (some 28) _ rfl rfl rfl (.inr rfl) rfl ?_
                    refine regAt_done ?_
                    have hone := rngSl_one (show RngAt WW.heap.size rs re (WW.alloc (.cells (rngA rs re) 29)) from Deep.blk_alloc_new WW _)
                    have hbwz : Below w11.heap.size w11 (WW.alloc (.cells (rngA rs re) 29)) := hbwY.alloc hbwY.size _
                    have hslz := hslY.kept ((Below.refl _ WW).alloc (Nat.le_refl _) (.cells (rngA rs re) 29)) (Nat.le_refl _)
                    generalize WW.alloc (.cells (rngA rs re) 29) = w15 at hone hbwz hslz ⊢
                    generalize WW.heap.size = g15 at hone ⊢
                    go_frame
                    go_wp2
                    go_meet
                    exact ⟨⟨_, _, rfl, hslz⟩, ⟨_, _, rfl, hone⟩, hbwz⟩
                  · obtain ⟨WW, ew⟩ : ∃ WW, WW = wc := ⟨_, rfl⟩
                    subst ew
                    have hMr' : M = repl rs re P := hMr
                    rw [← hGA.out] at hMr'
                    subst hMr'
                    have hbwY := hbw'
                    have r14 : RngAt g16 rs re WW := rr.out.kept hbwY rr.out.lt
                    obtain ⟨a27, cap27, rfl, hslY⟩ := hM'.sl
                    clear hM' hMr hbw'
                    go_upto_region 50 with fail
                    refine wp_region_at ?_
                    refine regAt_load (some 148) rs re g16 rfl rfl rfl rfl rfl r14 ?_
                    go_frame
                    refine regAt_to (some 149) _ rfl rfl rfl (exec_build1 rfl rfl) ?_
                    go_frame
                    refine regAt_move (some 28) _ rfl rfl rfl (.inr rfl) rfl ?_
                    refine regAt_done ?_
                    have hone := rngSl_one (show RngAt WW.heap.size rs re (WW.alloc (.cells (rngA rs re) 29)) from Deep.blk_alloc_new WW _)
                    have hbwz : Below w11.heap.size w11 (WW.alloc (.cells (rngA rs re) 29)) := hbwY.alloc hbwY.size _
                    have hslz := hslY.kept ((Below.refl _ WW).alloc (Nat.le_refl _) (.cells (rngA rs re) 29)) (Nat.le_refl _)
                    generalize WW.alloc (.cells (rngA rs re) 29) = w15 at hone hbwz hslz ⊢
                    generalize WW.heap.size = g15 at hone ⊢
                    go_frame
                    go_wp2
                    go_meet
                    exact ⟨⟨_, _, rfl, hslz⟩, ⟨_, _, rfl, hone⟩, hbwz⟩
              · have hyes : o = some rs := of_decide_eq_true hsk.out
                obtain ⟨rfl, rfl⟩ : GA = P ∧ GB = [] := by rcases hG.out with ⟨_, h⟩ | ⟨h, _⟩; exact h; exact absurd hyes h
                obtain ⟨_, _, hsv, hsl'⟩ := hpre.out.sl
                cases hsv
                go_wp2
                go_meet
                exact ⟨⟨_, _, rfl, hsl'⟩, ⟨_, _, rfl, fun h => by simp at h⟩, Below.refl _ _⟩
            case rest =>
              obtain ⟨⟨a27, cap27, rfl, hs27'⟩, ⟨a28, cap28, rfl, hs28'⟩, hbz'⟩ := hcut.out
              clear hcut
              have hs27 : Hid (RngSl a27 GA.length (fun i => GA.getD i (0, 0)) wc) := hs27'
              have hs28 : Hid (RngSl a28 GB.length (fun i => GB.getD i (0, 0)) wc) := hs28'
              obtain ⟨aA, capA, rfl, hsA'⟩ := hvA.out.sl
              obtain ⟨aB, capB, rfl, hsB'⟩ := hvB.out.sl
              have hsA : Hid (RngSl aA GA.length (fun i => GA.getD i (0, 0)) wc) := hsA'.kept hbz' (Nat.le_refl _)
              have hsB : Hid (RngSl aB GB.length (fun i => GB.getD i (0, 0)) wc) := hsB'.kept hbz' (Nat.le_refl _)
              have hfz : Hid (Fz b mw ml c1 c2 g16 ((P.length : Int) + 1) rs re wc) := Fz.fresh ⟨hbox.out, hwat.out, hlast.out, rr.out⟩ (Tn.of_below hbz')
              have hbelz : Hid (Below W1.heap.size W1 wc) := hbel.out.trans (hbz'.mono hbel.out.size)
              clear hs27' hs28' hsA' hsB' hbz' hvA hvB hbox hwat hlast rr zz hpre hbel
              go_upto_region 53 with (first
                | (go_at_call 10; have hx1 := hsA; clear hsA; refine (eq10 aA a27 GA.length capA cap27 _ wc hx1.out hs27.out (by omega)).mono ?_; rintro x w16 ⟨rfl, q1, rfl⟩)
                | (go_at_call 10; refine (eq10 aB a28 GB.length capB cap28 _ (wc.drewN q1) hsB.out hs28.out (by omega)).mono ?_; rintro x w17 ⟨rfl, q2, rfl⟩))
              have hfq : Hid (Fz b mw ml c1 c2 g16 ((P.length : Int) + 1) rs re (wc.drewN (q1 + q2))) := hfz.out.fresh ⟨rfl, rfl, rfl, Nat.le_refl _, fun _ _ _ => rfl⟩
              have hbq : Hid (Below W1.heap.size W1 (wc.drewN (q1 + q2))) := ⟨hbelz.out.os, hbelz.out.tape, hbelz.out.output, hbelz.out.size, hbelz.out.block⟩
              generalize wc.drewN (q1 + q2) = wq at hfq hbq ⊢
              clear hfz hbelz hsB hs27 hs28
              refine wp_region_at ?_
              refine regAt_move (some 160) (.pointer (some ⟨b, 0, none⟩)) rfl rfl rfl (.inl rfl) rfl ?_
              go_frame
              refine regAt_pure (some 161) (.pointer (some ⟨b, 0, none⟩)) rfl rfl rfl (by simp [execOp, Act.eval]) ?_
              go_frame
              refine regAt_pure (some 162) (.pointer (some ⟨b, 4, none⟩)) rfl rfl rfl (by simp [execOp, go_sem, Act.eval]) ?_
              go_frame
              refine regAt_pure (some 163) (.map (some ml)) rfl rfl rfl (by have := hfq.out.cell.2.1; simp [execOp, go_sem, Act.eval, this]) ?_
              go_frame
              obtain ⟨nl, kl, hml9⟩ := hfq.out.last
              refine regAt_pure (some 164) (.int .i64 1) rfl rfl rfl (exec_lenMap rfl under35 rfl hml9) ?_
              go_frame
              refine regAt_pure (some 165) (.bool false) rfl rfl rfl (by simp [execOp, go_sem, Act.eval]) ?_
              refine regAt_done ?_
              go_frame
              go_upto_region 55 with fail
              refine wp_region_held (S := fun W' => Fz b mw ml c1 c2 g16 ((P.length : Int) + 1) rs re W') hm ?_
              have S0 : Fz b mw ml c1 c2 g16 ((P.length : Int) + 1) rs re wq.drew := hfq.out.fresh (Tn.drew _ _)
              have hbd : Below W1.heap.size W1 wq.drew := hbq.out.drew
              refine takes (some 167) (.pointer (some ⟨b, 0, none⟩)) (i := 0) rfl rfl (by kernel_rfl) (by kernel_rfl) (by kernel_rfl) (fun _ _ _ h => h) rfl (fun W hW => by simp [execOp, go_sem, Act.eval]) S0 ?_
              go_frame
              refine takes (some 168) (.pointer (some ⟨b, 0, none⟩)) (i := 1) rfl rfl (by kernel_rfl) (by kernel_rfl) (by kernel_rfl) (fun _ _ _ h => h) rfl (fun W hW => by simp [execOp, go_sem, Act.eval]) S0 ?_
              go_frame
              refine takes (some 169) (.pointer (some ⟨b, 4, none⟩)) (i := 2) rfl rfl (by kernel_rfl) (by kernel_rfl) (by kernel_rfl) (fun _ _ _ h => h) rfl (fun W hW => by simp [execOp, go_sem, Act.eval]) S0 ?_
              go_frame
              refine takes (some 170) (.map (some ml)) (i := 3) rfl rfl (by kernel_rfl) (by kernel_rfl) (by kernel_rfl) (fun _ _ _ h => h) rfl (fun W hW => by have := hW.cell.2.1; simp [execOp, go_sem, Act.eval, this]) S0 ?_
              go_frame
              refine takes (some 171) (.pointer (some ⟨g16, 20, none⟩)) (i := 4) rfl rfl (by kernel_rfl) (by kernel_rfl) (by kernel_rfl) (fun _ _ _ h => h) rfl (fun W hW => by simp [execOp, go_sem, Act.eval]) S0 ?_
              go_frame
              refine takes (some 172) (.agg (idA re)) (i := 5) rfl rfl (by kernel_rfl) (by kernel_rfl) (by kernel_rfl) (fun _ _ _ h => h) rfl (fun W hW => exec_load27 rfl rfl hW.rr) S0 ?_
              go_frame
              refine takes (some 173) (.tuple #[.agg (lookA (some rs) re), .bool (some rs).isSome]) (i := 6) rfl rfl (by kernel_rfl) (by kernel_rfl) (by kernel_rfl) (fun _ _ _ h => h) rfl (fun W hW => exec_look rfl rfl rfl hW.last) S0 ?_
              go_frame
              refine takes (some 166) (.tuple #[.agg (lookA (some rs) re), .bool (some rs).isSome]) (i := 7) rfl rfl (by kernel_rfl) (by kernel_rfl) (by kernel_rfl) (fun _ _ _ h => h) rfl (fun W hW => by simp [execOp, Act.eval]) S0 ?_
              go_frame
              refine takes (some 174) (.agg (lookA (some rs) re)) (i := 8) rfl rfl (by kernel_rfl) (by kernel_rfl) (by kernel_rfl) (fun _ _ _ h => h) rfl (fun W hW => by simp [execOp, go_sem, Act.eval]) S0 ?_
              go_frame
              refine takes (some 175) (.bool (some rs).isSome) (i := 9) rfl rfl (by kernel_rfl) (by kernel_rfl) (by kernel_rfl) (fun _ _ _ h => h) rfl (fun W hW => by simp [execOp, go_sem, Act.eval]) S0 ?_
              go_frame
              change wpAnyH _ _ _ _ _ _ _ _ wq.drew
              generalize wq.drew = X at S0 hbd ⊢
              have hz : (X.alloc (.cells zero40 29)).heap[X.heap.size]? = some (.cells zero40 29 (0, 0)) := Deep.blk_alloc_new X _
              have t4 : Tn (fun _ => False) X (X.alloc (.cells zero40 29)) := Tn.alloc _ _ _
              refine only_value (some 32) (.pointer (some ⟨X.heap.size, 0, none⟩)) (i := 10) rfl rfl (by kernel_rfl) rfl (exec_alloc29 rfl) (S0.fresh t4) ?_
              go_frame
              have tz : Tn (fun _ => False) X ((X.alloc (.cells zero40 29)).setRow X.heap.size (lookA (some rs) re)) := t4.trans (setRow_tn _ _ _) (fun k hk => .inr (by omega))
              refine only_skip none (i := 11) rfl rfl (by kernel_rfl) rfl (exec_store_to rfl rfl rfl (lookA_size _ _) (lookA_one _ _) hz zero40_size) (S0.fresh tz) ?_
              have hlk : RngAt X.heap.size rs re ((X.alloc (.cells zero40 29)).setRow X.heap.size (lookA (some rs) re)) := setRow_same _ _ _ _ _ hz
              have hf4 : Fz b mw ml c1 c2 g16 ((P.length : Int) + 1) rs re ((X.alloc (.cells zero40 29)).setRow X.heap.size (lookA (some rs) re)) := S0.fresh tz
              have hb4 : Below W1.heap.size W1 ((X.alloc (.cells zero40 29)).setRow X.heap.size (lookA (some rs) re)) := hbd.trans (tz.below hbd.size (by simp))
              generalize (X.alloc (.cells zero40 29)).setRow X.heap.size (lookA (some rs) re) = w18 at hlk hf4 hb4 ⊢
              go_frame
              refine takes (some 33) (.bool (some rs).isSome) (i := 12) rfl rfl (by kernel_rfl) (by kernel_rfl) (by kernel_rfl) (fun _ _ _ h => h) rfl (fun W hW => by simp [execOp, Act.eval]) hf4 ?_
              go_frame
              refine wpAnyH_done (by kernel_rfl) ?_ _
              generalize X.heap.size = g32 at hlk ⊢
              have hlk' : Hid (RngAt g32 rs re w18) := hlk
              have hf4' : Hid (Fz b mw ml c1 c2 g16 ((P.length : Int) + 1) rs re w18) := hf4
              have hb4' : Hid (Below W1.heap.size W1 w18) := hb4
              clear S0 hbd tz t4 hz hlk hf4 hb4 hfq hbq hml9
              go_upto_region 56 with fail
              refine wp_region_at ?_
              refine regAt_move (some 176) (.bool true) rfl rfl rfl (.inl rfl) rfl ?_
              go_frame
              refine regAt_pure (some 177) (.bool false) rfl rfl rfl (exec_not (c := true) rfl rfl) ?_
              go_frame
              refine regAt_move (some 178) (.bool false) rfl rfl rfl (.inl rfl) rfl ?_
              go_frame
              refine regAt_load (some 179) rs re g32 rfl rfl rfl rfl rfl hlk'.out ?_
              go_frame
              refine regAt_load (some 180) rs re g16 rfl rfl rfl rfl rfl hf4'.out.rr ?_
              go_frame
              refine regAt_pure (some 181) (.bool false) rfl rfl rfl (exec_neqTo false (by simp) rfl rfl rfl) ?_
              go_frame
              refine regAt_pure (some 182) (.bool false) rfl rfl rfl (exec_pickTo (c := false) rfl rfl rfl) ?_
              refine regAt_done ?_
              go_frame
              go_upto_region 58 with fail
              refine wp_region_at ?_
              refine regAt_move (some 183) (.pointer (some ⟨b, 0, none⟩)) rfl rfl rfl (.inl rfl) rfl ?_
              go_frame
              refine regAt_pure (some 184) (.pointer (some ⟨b, 0, none⟩)) rfl rfl rfl (by simp [execOp, Act.eval]) ?_
              go_frame
              refine regAt_pure (some 185) (.pointer (some ⟨b, 5, none⟩)) rfl rfl rfl (by simp [execOp, go_sem, Act.eval]) ?_
              go_frame
              refine regAt_pure (some 186) (.bool false) rfl rfl rfl (by have := hf4'.out.cell.2.2; simp [execOp, go_sem, Act.eval, this]) ?_
              go_frame
              refine regAt_pure (some 187) (.bool true) rfl rfl rfl (exec_not (c := false) rfl rfl) ?_
              go_frame
              refine regAt_move (some 188) (.bool true) rfl rfl rfl (.inl rfl) rfl ?_
              go_frame
              refine regAt_move (some 189) (.pointer (some ⟨b, 0, none⟩)) rfl rfl rfl (.inl rfl) rfl ?_
              go_frame
              refine regAt_pure (some 190) (.pointer (some ⟨b, 0, none⟩)) rfl rfl rfl (by simp [execOp, Act.eval]) ?_
              go_frame
              refine regAt_pure (some 191) (.pointer (some ⟨b, 3, none⟩)) rfl rfl rfl (by simp [execOp, go_sem, Act.eval]) ?_
              go_frame
              refine regAt_pure (some 192) (.map (some mw)) rfl rfl rfl (by have := hf4'.out.cell.1; simp [execOp, go_sem, Act.eval, this]) ?_
              go_frame
              obtain ⟨f1, f2, hmw9⟩ := hf4'.out.wat
              refine regAt_pure (some 193) (.int .i64 2) rfl rfl rfl (exec_lenMap rfl under34 rfl hmw9) ?_
              go_frame
              refine regAt_pure (some 194) (.bool true) rfl rfl rfl (by simp [execOp, go_sem, Act.eval]) ?_
              go_frame
              refine regAt_pure (some 195) (.bool true) rfl rfl rfl (exec_pickTo (c := true) rfl rfl rfl) ?_
              go_frame
              refine regAt_move (some 8) (.bool true) rfl rfl rfl (.inr rfl) rfl ?_
              refine regAt_done ?_
              go_frame
              go_wp2
              go_ret
              exact ⟨rfl, hW1.out.trans (hb4'.out.mono (by omega))⟩
end Go.Proofs.Ybulkahii
