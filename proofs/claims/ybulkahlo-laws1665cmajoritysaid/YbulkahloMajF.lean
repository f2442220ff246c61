/-
  LawS1665CMajority: the walk.
-/
import Derived.Test.YbulkahloMajG
import Derived.Maps.AppendAt
namespace Go.Proofs.Ybulkahlo
open Go.RowKit Go.Maps

theorem me_range (s : Int) (k : Nat) (hk : k ≤ 512) : ∃ me : Int, IntKind.u64.wrap (IntKind.u64.wrap (s % ((k : Int) + 1)) + 1) = me ∧ 1 ≤ me ∧ me ≤ (k : Int) + 1 := by
  have h1 := Int.emod_nonneg s (show (k : Int) + 1 ≠ 0 by omega)
  have h2 := Int.emod_lt_of_pos s (show 0 < (k : Int) + 1 by omega)
  generalize s % ((k : Int) + 1) = y at h1 h2
  rw [IntWalk.u64_in y ⟨by omega, by omega⟩, IntWalk.u64_in _ ⟨by omega, by omega⟩]
  exact ⟨y + 1, rfl, by omega, by omega⟩

theorem make40 (n : Int) (w : World) : (Instr.makeMap 40 (some (.int .i64 n))).run Yba.prog w = .ok (.map (some w.heap.size)) (w.alloc (.map #[] 0)) := by
  have h : (underlying 40).run Yba.prog w = .ok (.map 22 41) w := by simp [go_sem]
  simp [Instr.makeMap, go_sem, h, asInt]

set_option maxRecDepth 100000 in
set_option maxHeartbeats 3200000 in
theorem majWalk (a0 : Option Addr) (k c0 : Nat) (z : Nat → Int) (a1 : Option Addr) (m c1 : Nat) (x : Nat → Int) (s led tk : Int) (w : World) (hk : k ≤ 512) (hm : m ≤ 512) (hs : 0 ≤ s) (hs2 : s ≤ 65535) (h0 : Hid (Ids w.heap.size a0 k z w)) (h1 : Hid (Ids w.heap.size a1 m x w))
    (hz : Hid (∀ t, t < k → 0 ≤ z t)) (hx : Hid (∀ t, t < m → 0 ≤ x t ∧ x t ≤ 18446744073709551615)) (hled : Hid (0 ≤ led)) :
    Calls Yba.prog 4 #[.slice a0 k c0, .slice a1 m c1, .int .u16 s, .int .u64 led, .int .i64 tk] w fun e w' => e = .returned (.bool true) ∧ Below w.heap.size w w' := by
  have hmk := fun w => run_make_row' (P := Yba.prog) 23 22 (.int .u64 0) 8 Yba.underlying23 info22 rfl .i64 .i64 k (by omega) (by omega) w
  have hmm := make40
  have hk1 : ¬ (512 : Int) < (k : Int) := by omega
  have hm1 : ¬ (512 : Int) < (m : Int) := by omega
  go_enter Yba.func4, Yba.ntmps4
  go_wp2
  clear hmk hmm
  obtain ⟨me, eme, hme1, hme2⟩ := me_range s k hk
  rw [eme]
  clear eme
  have hr0 : Hid (Row w.heap.size 0 k (votTo 0) ((w.alloc (.cells (madeCells #[.int .u64 0] k) 22)).alloc (.map #[] 0))) :=
    ⟨rfl, ((World.rowIs_made w (.int .u64 0) k 22).congr fun t _ => by unfold votTo; rw [if_neg (by omega)]).alloc _⟩
  have hsz : (w.alloc (.cells (madeCells #[.int .u64 0] k) 22)).heap.size = w.heap.size + 1 := by show (w.heap.push _).size = _; simp
  have hp0 : Hid (Peers (w.heap.size + 1) 0 me z (w.heap.size + 2) ((w.alloc (.cells (madeCells #[.int .u64 0] k) 22)).alloc (.map #[] 0))) :=
    ⟨0, _, Nat.le_refl _, by rw [← hsz]; exact World.ownsMap_made _ _ _ _, fun j hj => by omega⟩
  have hb0 : Hid (Below w.heap.size w ((w.alloc (.cells (madeCells #[.int .u64 0] k) 22)).alloc (.map #[] 0))) := ((Below.refl _ w).alloc (Nat.le_refl _) _).alloc (by rw [hsz]; omega) _
  have hs0 : Hid (w.heap.size + 2 ≤ ((w.alloc (.cells (madeCells #[.int .u64 0] k) 22)).alloc (.map #[] 0)).heap.size) := by show _ ≤ (Array.push _ _).size; simp
  clear hsz
  go_loopw [15] (fun vi wr => ∃ i : Nat, vi = .int .i64 i ∧ i ≤ k ∧ Hid (Row w.heap.size 0 k (votTo i) wr) ∧ Hid (Peers (w.heap.size + 1) i me z (w.heap.size + 2) wr) ∧ Hid (Below w.heap.size w wr) ∧ Hid (w.heap.size + 2 ≤ wr.heap.size)) (fun vi _ => k - (intOf vi).toNat)
  case atStart => exact ⟨0, rfl, Nat.zero_le _, hr0, hp0, hb0, hs0⟩
  case round =>
    clear hr0 hp0 hb0 hs0
    obtain ⟨i, rfl, hi, hr, hp, hbl, hsz⟩ := hrel
    by_cases hlt : i < k
    · obtain ⟨b0, o0, rfl, hb0, hc0⟩ := h0.out (by omega)
      have hci : wr.cell? ⟨b0, o0 + i, none⟩ = some (.int .u64 (z i)) := by rw [below_cell hbl.out hb0]; exact hc0 i hlt
      have hne : w.heap.size ≠ b0 := by omega
      have hcV : wr.cell? ⟨w.heap.size, i, none⟩ = some _ := World.rowIs.cell hr.out.is hlt
      have hfV : wr.frozen? ⟨w.heap.size, i, none⟩ = false := World.rowIs.frozen hr.out.is i
      clear hc0
      have hp2 := hp.out.set (V := w.heap.size) (o := i) (by omega) (by omega) (.int .u64 ((i : Int) + 1))
      have hr2 : Hid (Row w.heap.size 0 k (votTo (i + 1)) (wr.setCell ⟨w.heap.size, i, none⟩ (.int .u64 ((i : Int) + 1)))) := ⟨rfl, (World.rowIs.set hr.out.is i _).congr fun t _ => by
        unfold votTo
        by_cases e : t = i
        · rw [if_pos e, if_pos (by omega), e]
        · rw [if_neg e]
          by_cases e2 : t < i
          · rw [if_pos e2, if_pos (by omega)]
          · rw [if_neg e2, if_neg (by omega)]⟩
      have hb2 : Hid (Below w.heap.size w (wr.setCell ⟨w.heap.size, i, none⟩ (.int .u64 ((i : Int) + 1)))) := hbl.out.setCell (Nat.le_refl _) _
      have hs2 : Hid (w.heap.size + 2 ≤ (wr.setCell ⟨w.heap.size, i, none⟩ (.int .u64 ((i : Int) + 1))).heap.size) := by rw [Deep.nblk_setCell]; exact hsz
      have HP2 : Hid (Peers (w.heap.size + 1) i me z (w.heap.size + 2) (wr.setCell ⟨w.heap.size, i, none⟩ (.int .u64 ((i : Int) + 1)))) := hp2
      clear hp2
      by_cases hme : (i : Int) + 1 = me
      · have tme : ((i : Int) + 1 != me) = false := by simp [hme]
        have HME : Hid _ := hme
        clear hme
        go_wp2
        go_roundw
        case rel => exact ⟨i + 1, by congr 1, by omega, hr2, HP2.out.skip HME.out, hb2, hs2⟩
        case measure => simp [intOf]; omega
      · have tme : ((i : Int) + 1 != me) = true := by simp [hme]
        obtain ⟨n, D, hn, hown, hq⟩ := HP2.out
        obtain ⟨w1, hrun, hown1, hgrow1⟩ := (hown.alloc (.cells #[.int .u64 0, .int .u64 1, .int .u64 (z i)] 43)).update law22 Yba.underlying40 (by unfold maxLen; omega) (key := .int .u64 ((i : Int) + 1)) (val := .pointer (some ⟨wr.heap.size, 0, none⟩)) (kl := .int .u64 ((i : Int) + 1)) (d := .lit (.int .u64 wr.heap.size)) (ps := [])
          (keyOf_int_mk Yba.underlying22 (WalkArith.wf_u64 (by omega))) rfl
        have hszw : (wr.setCell ⟨w.heap.size, i, none⟩ (.int .u64 ((i : Int) + 1))).heap.size = wr.heap.size := Deep.nblk_setCell _ _ _
        have hp3 : Hid (Peers (w.heap.size + 1) (i + 1) me z (w.heap.size + 2) w1) := peers_add hn (by omega) hown hq (by omega) hs2.out (by rw [hszw]; exact hown1) hgrow1
        have hb3 : Hid (Below w.heap.size w w1) := (hb2.out.alloc (by have := hs2.out; omega) _).grown hgrow1 (by show _ ≤ (Array.push _ _).size; simp; have := hs2.out; omega) (fun k hk => by simp at hk; omega)
        have hr3 : Hid (Row w.heap.size 0 k (votTo (i + 1)) w1) := ⟨rfl, World.rowIs.of_block (hr2.out.is.alloc _) (hgrow1.block _ (by show _ < (Array.push _ _).size; simp; have := hs2.out; omega) (by simp))⟩
        have hs3 : Hid (w.heap.size + 2 ≤ w1.heap.size) := Nat.le_trans (by show _ ≤ (Array.push _ _).size; simp; have := hs2.out; omega) hgrow1.size
        clear hown hq hown1 hgrow1 hszw
        go_wp2
        go_roundw
        case rel => exact ⟨i + 1, by congr 1, by omega, hr3, hp3, hb3, hs3⟩
        case measure => simp [intOf]; omega
    · have hik : i = k := by omega
      subst hik
      obtain ⟨i0, hinf, hzz⟩ := Option.map_eq_some_iff.1 info22
      simp only [Prod.mk.injEq] at hzz
      obtain ⟨hz0, hz1, hz2⟩ := hzz
      have HZ : Hid _ := And.intro hinf (And.intro hz0 (And.intro hz1 hz2))
      clear hinf hz0 hz1 hz2
      obtain ⟨W2, eW⟩ : ∃ W2, W2 = wr := ⟨_, rfl⟩
      subst eW
      go_wp2
      go_loopw [17, 72] (fun v vj wq => ∃ j : Nat, vj = .int .i64 j ∧ j ≤ m ∧ Hid (wq.ownsRow W2.heap.size 22 1 v j ((List.range j).map fun t => .int .u64 (oldOf i me (x t)))) ∧ Hid (Below W2.heap.size W2 wq)) (fun _ vj _ => m - (intOf vj).toNat)
      case atStart => exact ⟨0, rfl, Nat.zero_le _, World.ownsRow_nil _ _ _ _, Below.refl _ _⟩
      case round =>
        obtain ⟨j, rfl, hj, hown, hbq⟩ := hrel
        by_cases hjm : j < m
        · obtain ⟨b1, o1, rfl, hb1, hc1⟩ := h1.out (by omega)
          have hb2 : b1 < W2.heap.size := by have := hsz.out; omega
          have hcj : wr.cell? ⟨b1, o1 + j, none⟩ = some (.int .u64 (x j)) := by rw [below_cell hbq.out hb2, below_cell hbl.out hb1]; exact hc1 j hjm
          obtain ⟨hx1, hx2⟩ := hx.out j hjm
          have hy0 := Int.emod_nonneg (x j) (show (i : Int) + 1 ≠ 0 by omega)
          have hy1 := Int.emod_lt_of_pos (x j) (show 0 < (i : Int) + 1 by omega)
          obtain ⟨y, ey⟩ : ∃ y, x j % ((i : Int) + 1) = y := ⟨_, rfl⟩
          rw [ey] at hy0 hy1
          have hbw : W2.heap.size ≤ wr.heap.size := hbq.out.size
          clear hc1
          have one : ∀ id : Int, ∀ u ∈ [Value.int .u64 id], u.oneCell' = true := by intro id u hu; simp at hu; subst hu; rfl
          have stp : ∀ id : Int, id = oldOf i me (x j) → ((List.range j).map fun t => Value.int .u64 (oldOf i me (x t))) ++ [.int .u64 id] = (List.range (j + 1)).map fun t => Value.int .u64 (oldOf i me (x t)) := by
            intro id e; rw [List.range_succ, List.map_append, e]; rfl
          have ONE : Hid _ := one
          have STP : Hid _ := stp
          clear one stp
          by_cases hyk : y = (i : Int)
          · have ty : (y + 1 == (i : Int) + 1) = true := by simp [hyk]
            have eold : Hid (me = oldOf i me (x j)) := by show me = oldOf i me (x j); unfold oldOf; rw [ey, if_pos (by omega)]
            have HYK : Hid _ := hyk
            clear hyk
            go_wp2_with (at_builtin; refine wpList_append_own _ rfl _ _ 23 rfl W2.heap.size 22 i0 (.int .u64 0) 1 8 Yba.underlying23 HZ.out.1 HZ.out.2.1 HZ.out.2.2.1 HZ.out.2.2.2 rfl (by decide) u17 j _ rfl (hown.out.alloc _) ⟨wr.heap.size, 0, none⟩ 1 1 [.int .u64 me] rfl rfl (cell_one_new _ _ _) (ONE.out me) (by unfold maxLen; omega) (by omega) (by show _ ≤ (Array.push _ _).size; simp; omega) ?_; intro v' w1 hown1 hgrow1 _)
            go_roundw
            case rel => exact ⟨j + 1, by congr 1, by omega, by rw [← STP.out (me) eold.out]; exact hown1, (hbq.out.alloc hbw _).grown hgrow1 (by show _ ≤ (Array.push _ _).size; simp; omega) (fun k hk => (hown.out.lt k hk).1)⟩
            case measure => simp [intOf]; omega
          · have ty : (y + 1 == (i : Int) + 1) = false := by simp; omega
            have eold : Hid (y + 1 = oldOf i me (x j)) := by show y + 1 = oldOf i me (x j); unfold oldOf; rw [ey, if_neg (by omega)]
            go_wp2_with (at_builtin; refine wpList_append_own _ rfl _ _ 23 rfl W2.heap.size 22 i0 (.int .u64 0) 1 8 Yba.underlying23 HZ.out.1 HZ.out.2.1 HZ.out.2.2.1 HZ.out.2.2.2 rfl (by decide) u17 j _ rfl (hown.out.alloc _) ⟨wr.heap.size, 0, none⟩ 1 1 [.int .u64 (y + 1)] rfl rfl (cell_one_new _ _ _) (ONE.out (y + 1)) (by unfold maxLen; omega) (by omega) (by show _ ≤ (Array.push _ _).size; simp; omega) ?_; intro v' w1 hown1 hgrow1 _)
            go_roundw
            case rel => exact ⟨j + 1, by congr 1, by omega, by rw [← STP.out (y + 1) eold.out]; exact hown1, (hbq.out.alloc hbw _).grown hgrow1 (by show _ ≤ (Array.push _ _).size; simp; omega) (fun k hk => (hown.out.lt k hk).1)⟩
            case measure => simp [intOf]; omega
        · have hjm2 : j = m := by omega
          subst hjm2
          obtain ⟨a2, c2, e17, hv2⟩ := ids_of_owns hown.out
          have HV2 : Hid _ := hv2
          clear hv2 hown
          subst e17
          have hbC : Hid (Below wr.heap.size wr (wr.alloc (.cells (coreOf me w.heap.size i a2 j c2 tk led (w.heap.size + 1)) 52))) := (Below.refl _ _).alloc (Nat.le_refl _) _
          have hszC : Hid ((wr.alloc (.cells (coreOf me w.heap.size i a2 j c2 tk led (w.heap.size + 1)) 52)).heap.size = wr.heap.size + 1) := by show (wr.heap.push _).size = _; simp
          have hLead : Hid (Lead (wr.alloc (.cells (coreOf me w.heap.size i a2 j c2 tk led (w.heap.size + 1)) 52)).heap.size wr.heap.size (w.heap.size + 1) i me led z (wr.alloc (.cells (coreOf me w.heap.size i a2 j c2 tk led (w.heap.size + 1)) 52))) :=
            (lead_core (hp.out.kept hbq.out) _ rfl rfl rfl).mono (Nat.le_of_eq hszC.out.symm)
          have hConf : Hid (Conf wr.heap.size (some ⟨w.heap.size, 0, none⟩) i i a2 j c2 (wr.alloc (.cells (coreOf me w.heap.size i a2 j c2 tk led (w.heap.size + 1)) 52))) :=
            ⟨core_cell _ _ _ _ rfl, core_cell _ _ _ _ rfl, core_cell _ _ _ _ rfl, core_cell _ _ _ _ rfl⟩
          have hrw : Hid (Row w.heap.size 0 i (votTo i) wr) := hr.out.kept hbq.out
          have hI1 : Hid (Ids wr.heap.size (some ⟨w.heap.size, 0, none⟩) i (votTo i) (wr.alloc (.cells (coreOf me w.heap.size i a2 j c2 tk led (w.heap.size + 1)) 52))) :=
            fun _ => ⟨_, 0, rfl, hrw.out.is.lt, (hrw.out.kept hbC.out).cell⟩
          have hI2 : Hid (Ids wr.heap.size a2 j (fun t => oldOf i me (x t)) (wr.alloc (.cells (coreOf me w.heap.size i a2 j c2 tk led (w.heap.size + 1)) 52))) := Ids.kept HV2.out hbC.out
          have hwC : Hid (Below w.heap.size w (wr.alloc (.cells (coreOf me w.heap.size i a2 j c2 tk led (w.heap.size + 1)) 52))) :=
            (hbl.out.trans (hbq.out.mono (by have := hsz.out; omega))).trans (hbC.out.mono (Nat.le_trans (by have := hsz.out; omega) hbq.out.size))
          go_wp2_with fail
          refine (hears (w := wr.alloc (.cells (coreOf me w.heap.size i a2 j c2 tk led (w.heap.size + 1)) 52)) (tk := tk) hLead hk hk hm hConf (hI1.out.mono (by rw [hszC.out]; omega)) (votTo_ids i me) (hI2.out.mono (by rw [hszC.out]; omega)) (fun t _ => oldOf_ids i me (x t)) (core_cell _ _ _ _ rfl) ⟨0, core_cell _ _ _ _ rfl⟩ (core_frozen _ _ _)).mono ?_
          rintro e w6 ⟨r1, r2, rfl, hr1, hr2, hst, hc31, hc30⟩
          have HB6 : Hid (Below wr.heap.size (wr.alloc (.cells (coreOf me w.heap.size i a2 j c2 tk led (w.heap.size + 1)) 52)) w6) := hst.below (Nat.le_refl _) (by rw [hszC.out]; omega)
          have HW6 : Hid (Below w.heap.size w w6) := hwC.out.trans (HB6.out.mono (Nat.le_trans (by have := hsz.out; omega) hbq.out.size))
          have HI1 : Hid (Ids wr.heap.size (some ⟨w.heap.size, 0, none⟩) i (votTo i) w6) := hI1.out.kept HB6.out
          have HI2 : Hid (Ids wr.heap.size a2 j (fun t => oldOf i me (x t)) w6) := hI2.out.kept HB6.out
          have HH : Hid (Heard a0 i z w6) := heard_of_ids (h0.out.kept HW6.out)
          have HR1 : Hid (MajR (fun t => valOf me led z (votTo i t)) i r1) := hr1
          have HR2 : Hid (MajR (fun t => valOf me led z (oldOf i me (x t))) j r2) := hr2
          obtain ⟨un, hun⟩ : ∃ un, Hid (un = untilOf (joinR j r1 r2) tk) := ⟨_, rfl⟩
          rw [← hun.out]
          rw [← hun.out] at hc31
          clear hr1 hr2 hst hI1 hI2 hConf hLead hbC hszC hwC HB6 hrw
          go_wp2_with fail
          refine (maj8All HH hk hk HI1 (votTo_ids i me)).mono ?_
          rintro e w7 ⟨b1, rfl, hb1, rfl⟩
          have eb1 : b1 = r1 := best_majR hb1 HR1.out (fun t ht => valOf_nonneg (votTo_ids i me t ht) hled.out hz.out)
          subst eb1
          clear hb1
          by_cases hj0 : 0 < j
          · have tj : decide ((0 : Int) < (j : Int)) = true := decide_eq_true (by omega)
            go_wp2_with fail
            refine (maj8All HH hk hm HI2 (fun t _ => oldOf_ids i me (x t))).mono ?_
            rintro e w8 ⟨b2, rfl, hb2, rfl⟩
            have eb2 : b2 = r2 := best_majR hb2 HR2.out (fun t _ => valOf_nonneg (oldOf_ids i me (x t)) hled.out hz.out)
            subst eb2
            clear hb2
            by_cases hlt2 : b2 < b1
            · have eun : IntKind.u64.wrap (b2 + IntKind.u64.wrap tk) = un := by rw [hun.out]; unfold untilOf joinR; rw [if_pos hj0, Int.min_eq_right (by omega)]
              clear hun
              go_wp2
              go_ret
              exact ⟨by simp, HW6.out⟩
            · have eun : IntKind.u64.wrap (b1 + IntKind.u64.wrap tk) = un := by rw [hun.out]; unfold untilOf joinR; rw [if_pos hj0, Int.min_eq_left (by omega)]
              clear hun
              go_wp2
              go_ret
              exact ⟨by simp, HW6.out⟩
          · have tj : decide ((0 : Int) < (j : Int)) = false := decide_eq_false (by omega)
            have eun : IntKind.u64.wrap (b1 + IntKind.u64.wrap tk) = un := by rw [hun.out]; unfold untilOf joinR; rw [if_neg hj0]
            clear hun
            go_wp2
            go_ret
            exact ⟨by simp, HW6.out⟩
end Go.Proofs.Ybulkahlo
