/-
  LawS1662BRootHalves: the walk.
-/
import Derived.Test.YbulkahjyKept
import Derived.Laws.CopyOwn
import Derived.Deep.QuietTactic
import Derived.BigQuiet
import Derived.WalkSmall
namespace Go.Proofs.Ybulkahjy
open Go.RowKit Forest

section
variable {P : Program}
/-- 'copy(dst, src)' between two rows of one length. -/
theorem wpList_copy_rows {w : World} {ops : Array Oper} {rest : List Oper} {o : Oper} {a : Act} {Q : Exit → Act → World → Prop} (hgd : o.guard = none) (d s : Operand) (dT sT : TypeId)
    (ho : o.op = .call { callee := .builtin .copy, args := #[d, s], argTypes := #[dT, sT] }) (elem : TypeId) (hu : P.underlying dT = some (.slice elem)) (hsz : (P.info? elem).map (·.size) = some 1)
    (gd gs n : Nat) (hd : a.eval d = .slice (some ⟨gd, 0, none⟩) n n) (hs : a.eval s = .slice (some ⟨gs, 0, none⟩) n n) (t t' : TypeId) (f h : Nat → Value)
    (rd : w.rowIs gd t n f) (rs : w.rowIs gs t' n h) (h1 : ∀ i, (h i).oneCell' = true)
    (hK : ∀ w', w'.rowIs gd t n h → Turn gd w w' → wpList P ops Q rest (a.put o.dst (goInt n)) w') : wpList P ops Q (o :: rest) a w := by
  refine wpList_plain hgd fun K hK' => ?_
  obtain ⟨cur, hb, hn, _⟩ := rd
  have hrun := run_copy_row (P := P) w dT sT o.type elem gd 0 n n ⟨gs, 0, none⟩ n n cur t ((List.range n).map h) hu hsz hb (by simp) (fun j v hv => by
    have hj : j < n := by simpa using (List.getElem?_eq_some_iff.1 hv).1
    have e : v = h j := by simpa [hj] using hv.symm
    subst e
    have := rs.cell hj
    have ha : (⟨gs, 0, none⟩ : Addr).add j = ⟨gs, j, none⟩ := by unfold Addr.add; split <;> simp_all
    rw [ha]; exact this) (by simp [hn]) (fun v hv => by
      obtain ⟨i, _, rfl⟩ := List.mem_map.1 hv
      exact h1 i)
  have e1 : (cur.toList.take 0 ++ (List.range n).map h ++ cur.toList.drop (0 + ((List.range n).map h).length)).toArray = ((List.range n).map h).toArray := by
    rw [List.drop_eq_nil_of_le (by simp [hn])]; simp
  rw [e1] at hrun
  unfold Oper.wp
  simp [execOp, ho, resolve, invoke, builtin, hd, hs, hrun, Result.andThen]
  refine hK' _ _ (hK (w.setRow gd ((List.range n).map h).toArray) ⟨((List.range n).map h).toArray, ?_, by simp, fun i hi => by simp [hi]⟩ ⟨rfl, rfl, rfl, by simp, fun k hk => ?_⟩)
  · simp [World.setRow, Array.getElem?_modify, hb]
  · simp [World.setRow, Array.getElem?_modify, Ne.symm hk]
end

theorem size3 : (Yba.prog.info? 3).map (·.size) = some 1 := by kernel_rfl

theorem gap_next (G : Nat) (q : Nat → Int) (c : Nat) : gapAt G q (c * 3) = .pointer none := by
  unfold gapAt
  rw [if_neg (by omega), if_pos (by omega)]
theorem gap_rank (G : Nat) (q : Nat → Int) (c : Nat) : gapAt G q (c * 3 + 2) = .int .u8 ((c : Int) % 256) := by
  unfold gapAt
  rw [if_neg (by omega), if_neg (by omega), show (c * 3 + 2) / 3 = c by omega]

theorem row_upd {w : World} {G n c : Nat} {np : Nat → Int} (h : w.rowIs G 3 n (fun j => .int .i64 (np j))) (v : Int) :
    (w.setCell ⟨G, c, none⟩ (.int .i64 v)).rowIs G 3 n (fun j => .int .i64 (upd np c v j)) :=
  (h.set c _).congr (fun j _ => by simp only [upd]; split <;> rfl)

set_option maxRecDepth 100000 in
set_option maxHeartbeats 1600000 in
theorem halves_walk (b off n cap : Nat) (z : Nat → Int) (st : Int) (w : World) (hn : 1 ≤ n) (hn2 : n ≤ 512) (hb : b < w.heap.size) (hst : 0 ≤ st)
    (hc : Hid (∀ j, j < n → w.cell? ⟨b, off + j, none⟩ = some (.int .u8 (z j)))) (hz : Hid (∀ j, j < n → 0 ≤ z j ∧ z j ≤ 255)) :
    Calls Yba.prog 3 #[.slice (some ⟨b, off, none⟩) n cap, .int .u64 st] w fun e w' => e = .returned (.bool true) ∧ Below w.heap.size w w' := by
  have hsame := neq_same
  have hne0 : ((n : Int) == 0) = false := by simp; omega
  have hng : ¬ (512 : Int) < (n : Int) := by omega
  have m0 := Int.emod_nonneg st (show (n : Int) ≠ 0 by omega)
  have m1 := Int.emod_lt_of_pos st (show (0 : Int) < (n : Int) by omega)
  have hmk := fun w => run_make_row' (P := Yba.prog) 24 3 (.int .i64 0) 8 Yba.underlying24 info3 rfl .i64 .i64 n (by omega) (by omega) w
  obtain ⟨P, hP⟩ : ∃ P, P = par n z := ⟨_, rfl⟩
  have hok : Hid (Ok n P) := by rw [hP]; exact par_ok n z
  have HP : Hid (P = par n z) := hP
  clear hP
  go_enter Yba.func3, Yba.ntmps3
  go_wp2_with fail
  refine (parents_walk b off n cap z _ hn hn2 hb hc hz).mono ?_
  rintro e w1 ⟨rfl, hr1, hs1, hb1⟩
  rw [← HP.out] at hr1
  go_wp2_with fail
  refine (build_walk w.heap.size n P _ hn hn2 hok hr1).mono ?_
  rintro e w2 ⟨rfl, hr2, hs2, hb2⟩
  rw [hs1] at hr2 hs2 hb2 ⊢
  have HR1 : Hid (w2.rowIs w.heap.size 3 n (fun j => .int .i64 (P j))) := hr1.of_block (hb2.block _ (by omega))
  have HR2 : Hid (w2.rowIs (w.heap.size + 1) 31 (3 * n) (gapAt (w.heap.size + 1) P)) := hr2
  have HB : Hid (Below w.heap.size w w2) := hb1.trans (hb2.mono (by omega))
  have HS : Hid (w2.heap.size = w.heap.size + 1 + 1) := hs2
  have RD : w2.heap.size = w.heap.size + 1 + 1 := hs2
  have hmade : Hid ((w2.alloc (.cells (madeCells #[.int .i64 0] n) 3)).rowIs (w.heap.size + 1 + 1) 3 n (fun _ => .int .i64 0)) := by
    rw [← HS.out]; exact World.rowIs_made w2 _ n 3
  clear hr1 hr2 hb1 hb2 hs1 hs2
  go_wp2_with (refine wpList_copy_rows rfl (.tmp 33) (.tmp 34) 24 24 rfl 3 Yba.underlying24 size3 (w.heap.size + 1 + 1) w.heap.size n rfl rfl 3 3 (fun _ => .int .i64 0) (fun j => .int .i64 (P j)) hmade.out (HR1.out.alloc _) (fun _ => rfl) ?_; intro w3 hr3 ht3)
  have hsn : (st % (n : Int)).toNat < n := by omega
  have R1 : Hid (w3.rowIs w.heap.size 3 n (fun j => .int .i64 (P j))) := ht3.row (by omega) (HR1.out.alloc _)
  have R2 : Hid (w3.rowIs (w.heap.size + 1) 31 (3 * n) (gapAt (w.heap.size + 1) P)) := ht3.row (by omega) (HR2.out.alloc _)
  have R3 : Hid (w3.rowIs (w.heap.size + 1 + 1) 3 n (fun j => .int .i64 (P j))) := hr3
  have RB : Hid (Below w.heap.size w w3) := (HB.out.alloc (by rw [HS.out]; omega) _).trans (ht3.below (by omega))
  clear hr3 ht3 RD
  go_loopw [10] (fun cur wr => ∃ (c f : Nat) (np : Nat → Int), c < n ∧ cur = .int .i64 c ∧ n ≤ f + c ∧ Hid (trail f P np c = trail n P P (st % (n : Int)).toNat) ∧ Hid (wr.rowIs (w.heap.size + 1 + 1) 3 n (fun j => .int .i64 (np j))) ∧ Hid (Turn (w.heap.size + 1 + 1) w3 wr))
    (fun cur _ => n - (intOf cur).toNat)
  case atStart => exact ⟨(st % (n : Int)).toNat, n, P, hsn, by go_num, by omega, rfl, R3, Turn.refl _ _⟩
  case round =>
    obtain ⟨c, f, np, hcn, rfl, hf, htr, h3, ht⟩ := hrel
    have r1 : Hid (wr.rowIs w.heap.size 3 n (fun j => .int .i64 (P j))) := ht.out.row (by omega) R1.out
    have hpc := r1.out.cell hcn
    by_cases h0 : P c < 0
    · have h0' : ¬ 0 ≤ P c := by omega
      have e := trail_done (f := f) (np := np) h0
      rw [htr.out, trail_eq hok.out n P _ hsn (fun _ _ => rfl)] at e
      have e1 : Hid ((halve n P (st % (n : Int)).toNat).1 = np) := by rw [e]; exact rfl
      have e2 : Hid ((halve n P (st % (n : Int)).toNat).2 = c) := by rw [e]; exact rfl
      have r2 : Hid (wr.rowIs (w.heap.size + 1) 31 (3 * n) (gapAt (w.heap.size + 1) P)) := ht.out.row (by omega) R2.out
      have hbw : Hid (Below w.heap.size w wr) := RB.out.trans (ht.out.below (by omega))
      have hoknp : Hid (Ok n np) := by rw [← e1.out]; exact (halve_ok n P _ hok.out hsn).1
      clear e
      go_wp2_with fail
      refine (root_walk (w.heap.size + 1) n (st % (n : Int)).toNat P wr hsn hok r2).mono ?_
      rintro e w4 ⟨rfl, h4, t4⟩
      rw [e2.out]
      rw [e1.out] at h4
      have H4 : Hid (w4.rowIs (w.heap.size + 1) 31 (3 * n) (gapAt (w.heap.size + 1) np)) := h4
      have H3 : Hid (w4.rowIs (w.heap.size + 1 + 1) 3 n (fun j => .int .i64 (np j))) := t4.row (by omega) h3.out
      have HW : Hid (Below w.heap.size w w4) := hbw.out.trans (t4.below (by omega))
      clear h4 t4
      go_wp2
      go_loopw [13] (fun i wr => ∃ k : Nat, k ≤ n ∧ i = .int .i64 k ∧ Hid (wr.rowIs (w.heap.size + 1) 31 (3 * n) (gapAt (w.heap.size + 1) np)) ∧ Hid (wr.rowIs (w.heap.size + 1 + 1) 3 n (fun j => .int .i64 (np j))) ∧ Hid (Below w.heap.size w wr))
        (fun i _ => n - (intOf i).toNat)
      case atStart => exact ⟨0, Nat.zero_le _, rfl, H4, H3, HW⟩
      case round =>
        obtain ⟨k, hk, rfl, g2, g3, gb⟩ := hrel
        by_cases hlt : k < n
        · have q0 := g2.out.cell (i := k * 3) (by omega)
          have q1 := g2.out.cell (i := k * 3 + 1) (by omega)
          have q2 := g2.out.cell (i := k * 3 + 2) (by omega)
          have q3 := g3.out.cell hlt
          rw [gap_next] at q0
          rw [gap_into] at q1
          rw [gap_rank] at q2
          have hnp := hoknp.out k hlt
          clear hpc h0 h0'
          by_cases h5 : np k < 0
          · rw [ptr, if_pos h5] at q1
            clear hnp
            go_wp2
            go_roundw
            case rel => exact ⟨k + 1, by omega, by go_num, g2, g3, gb⟩
            case measure => simp [intOf]; omega
          · rw [ptr, if_neg h5] at q1
            have h6 : 0 ≤ np k := by omega
            have h7 : np k < (n : Int) := by omega
            have h8 : (k : Int) < (n : Int) := by omega
            clear hnp
            go_wp2
            go_quiet (fail)
            go_wp2
            go_roundw
            case rel => exact ⟨k + 1, by omega, by go_num, g2.out, g3.out, below_drewN gb.out _⟩
            case measure => simp [intOf]; omega
        · go_wp2
          go_ret
          exact ⟨rfl, gb.out⟩
    · obtain ⟨s1, s2⟩ := hok.out.step hcn h0
      have h0' : 0 ≤ P c := by omega
      have h1' : P c < (n : Int) := by omega
      have hpd := r1.out.cell s2
      by_cases h2 : P (P c).toNat < 0
      · have h2' : ¬ 0 ≤ P (P c).toNat := by omega
        obtain ⟨f, rfl⟩ : ∃ g, f = g + 1 := ⟨f - 1, by omega⟩
        have HT : Hid (trail f P np (P c).toNat = trail n P P (st % (n : Int)).toNat) := by rw [← htr.out]; exact (trail_one h0 h2).symm
        clear h0 h2
        go_wp2
        go_roundw
        case rel => exact ⟨(P c).toNat, f, np, s2, by go_num, by omega, HT, h3, ht⟩
        case measure => simp [intOf]; omega
      · obtain ⟨t1, t2⟩ := hok.out.step s2 h2
        have h2' : 0 ≤ P (P c).toNat := by omega
        have h3' : P (P c).toNat < (n : Int) := by omega
        obtain ⟨f, rfl⟩ : ∃ g, f = g + 1 := ⟨f - 1, by omega⟩
        have HT : Hid (trail f P (upd np c (P (P c).toNat)) (P (P c).toNat).toNat = trail n P P (st % (n : Int)).toNat) := by rw [← htr.out]; exact (trail_two h0 h2).symm
        have hc3 := h3.out.cell hcn
        have hf3 := h3.out.frozen c
        have HR : Hid ((wr.setCell ⟨w.heap.size + 1 + 1, c, none⟩ (.int .i64 (P (P c).toNat))).rowIs (w.heap.size + 1 + 1) 3 n (fun j => .int .i64 (upd np c (P (P c).toNat) j))) := row_upd h3.out _
        have HTn : Hid (Turn (w.heap.size + 1 + 1) w3 (wr.setCell ⟨w.heap.size + 1 + 1, c, none⟩ (.int .i64 (P (P c).toNat)))) := ht.out.setCell _ _
        clear h0 h2
        go_wp2
        go_roundw
        case rel => exact ⟨(P (P c).toNat).toNat, f, upd np c (P (P c).toNat), t2, by go_num, by omega, HT, HR, HTn⟩
        case measure => simp [intOf]; omega
end Go.Proofs.Ybulkahjy
