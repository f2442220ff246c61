/-
  LawS1659BSend: equality of ids, of ranges.
-/
import Derived.Test.YbulkahiiRng
namespace Go.Proofs.Ybulkahii
open Go.RowKit Go.Conc

theorem part5 (xs : List Int) (i : Nat) (h : i < xs.length) (w : World) : (part 5 (xs.map (Value.int .u8)).toArray i).run Yba.prog w = .ok (.int .u8 (xs.getD i 0)) w := by
  have hg : (xs.map (Value.int .u8)).toArray[i]? = some (.int .u8 (xs.getD i 0)) := by
    simp [h, List.getD]
  exact run_part_plain w (by kernel_rfl) hg

theorem items5 (d : Nat) (xs ys : List Int) (w : World) : ∀ is : List Nat, (∀ i ∈ is, i < xs.length ∧ i < ys.length) →
    (Op.eqItems (d + 1) 5 1 (xs.map (Value.int .u8)).toArray (ys.map (Value.int .u8)).toArray is).run Yba.prog w = .ok (is.all fun i => xs.getD i 0 == ys.getD i 0) w
  | [], _ => by simp [Op.eqItems]
  | i :: is, h => by
    have ih := items5 d xs ys w is (fun j hj => h j (by simp [hj]))
    obtain ⟨h1, h2⟩ := h i (by simp)
    simp only [Op.eqItems, Nat.mul_one, Sem.run_bind, part5 xs i h1, part5 ys i h2, Result.andThen_ok, run_equalIn_int w d 5 .u8 .u8 _ _ Yba.underlying5]
    cases hb : (xs.getD i 0 == ys.getD i 0)
    · simp only [Bool.not_false, if_true, List.all_cons, hb, Bool.false_and, Sem.run_pure]
    · simp only [Bool.not_true, Bool.false_eq_true, if_false, List.all_cons, hb, Bool.true_and]
      exact ih

theorem all_ids (a b : Int) : ((List.range 20).all fun i => (idL a).getD i 0 == (idL b).getD i 0) = decide (a = b) := by
  rw [Bool.eq_iff_iff]
  simp only [List.all_eq_true, List.mem_range, beq_iff_eq, decide_eq_true_eq]
  constructor
  · intro h
    have := h 0 (by omega)
    simpa [idL] using this
  · rintro rfl i _
    rfl

theorem eqId (d : Nat) (a b : Int) (w : World) : (Op.equalIn (d + 2) 27 (.agg (idA a)) (.agg (idA b))).run Yba.prog w = .ok (decide (a = b)) w := by
  obtain ⟨i, hi⟩ := Option.isSome_iff_exists.1 (show (Yba.prog.info? 5).isSome = true from by kernel_rfl)
  unfold idA
  rw [show d + 2 = (d + 1) + 1 from rfl, run_equalIn_array w (d + 1) _ _ under27 hi, show Yba.prog.cellsOf 5 = 1 from by kernel_rfl,
    items5 d (idL a) (idL b) w _ (fun j hj => by have := List.mem_range.1 hj; simp [idL]; omega), all_ids]

theorem part27v (s x e y : Int) (w : World) : (part 27 #[.int .u8 s, .int .u8 0, .int .u8 0, .int .u8 0, .int .u8 0, .int .u8 0, .int .u8 0, .int .u8 0, .int .u8 0, .int .u8 0, .int .u8 0, .int .u8 0, .int .u8 0, .int .u8 0, .int .u8 0, .int .u8 0, .int .u8 0, .int .u8 0, .int .u8 0, .int .u8 x, .int .u8 e, .int .u8 0, .int .u8 0, .int .u8 0, .int .u8 0, .int .u8 0, .int .u8 0, .int .u8 0, .int .u8 0, .int .u8 0, .int .u8 0, .int .u8 0, .int .u8 0, .int .u8 0, .int .u8 0, .int .u8 0, .int .u8 0, .int .u8 0, .int .u8 0, .int .u8 y] 0).run Yba.prog w = .ok (.agg #[.int .u8 s, .int .u8 0, .int .u8 0, .int .u8 0, .int .u8 0, .int .u8 0, .int .u8 0, .int .u8 0, .int .u8 0, .int .u8 0, .int .u8 0, .int .u8 0, .int .u8 0, .int .u8 0, .int .u8 0, .int .u8 0, .int .u8 0, .int .u8 0, .int .u8 0, .int .u8 x]) w ∧ (part 27 #[.int .u8 s, .int .u8 0, .int .u8 0, .int .u8 0, .int .u8 0, .int .u8 0, .int .u8 0, .int .u8 0, .int .u8 0, .int .u8 0, .int .u8 0, .int .u8 0, .int .u8 0, .int .u8 0, .int .u8 0, .int .u8 0, .int .u8 0, .int .u8 0, .int .u8 0, .int .u8 x, .int .u8 e, .int .u8 0, .int .u8 0, .int .u8 0, .int .u8 0, .int .u8 0, .int .u8 0, .int .u8 0, .int .u8 0, .int .u8 0, .int .u8 0, .int .u8 0, .int .u8 0, .int .u8 0, .int .u8 0, .int .u8 0, .int .u8 0, .int .u8 0, .int .u8 0, .int .u8 y] 20).run Yba.prog w = .ok (.agg #[.int .u8 e, .int .u8 0, .int .u8 0, .int .u8 0, .int .u8 0, .int .u8 0, .int .u8 0, .int .u8 0, .int .u8 0, .int .u8 0, .int .u8 0, .int .u8 0, .int .u8 0, .int .u8 0, .int .u8 0, .int .u8 0, .int .u8 0, .int .u8 0, .int .u8 0, .int .u8 y]) w := by
  constructor <;> kernel_rfl
theorem part27 (s e : Int) (w : World) : (part 27 (rngA s e) 0).run Yba.prog w = .ok (.agg (idA s)) w ∧ (part 27 (rngA s e) 20).run Yba.prog w = .ok (.agg (idA e)) w := by
  have h := part27v s (bits .xor .u8 s 90) e (bits .xor .u8 e 90) w
  simpa [idA, idL, rngA] using h

theorem fields29 : (Yba.prog.fieldsOf 29).toList.map (fun f => (f.type, f.offset)) = [(27, 0), (27, 20)] := by kernel_rfl
theorem names29 : (Yba.prog.fieldsOf 29).toList.all (fun f => f.name != "_") = true := by kernel_rfl
theorem str29 : Yba.prog.underlying 29 = some (.struct (Yba.prog.fieldsOf 29)) := by kernel_rfl
theorem held29 : Yba.prog.stoodInHeld 29 = false := by kernel_rfl
/-- Two fields of the type t, at 0 and at 20. -/
theorem eqFields_two {P : Program} (d : Nat) (X Y : Array Value) (t : TypeId) (X0 X1 Y0 Y1 : Value) (p q : Bool) (w : World) (hx0 : (part t X 0).run P w = .ok X0 w) (hx1 : (part t X 20).run P w = .ok X1 w) (hy0 : (part t Y 0).run P w = .ok Y0 w) (hy1 : (part t Y 20).run P w = .ok Y1 w)
    (e0 : (Op.equalIn d t X0 Y0).run P w = .ok p w) (e1 : (Op.equalIn d t X1 Y1).run P w = .ok q w) (fs : List Field) (h : fs.map (fun f => (f.type, f.offset)) = [(t, 0), (t, 20)]) (hn : fs.all (fun f => f.name != "_") = true) :
    (Op.eqFields d X Y fs).run P w = .ok (p && q) w := by
  obtain _ | ⟨f, _ | ⟨g, _ | ⟨y, l⟩⟩⟩ := fs
  · simp at h
  · simp at h
  · simp only [List.map_cons, List.map_nil, List.cons.injEq, Prod.mk.injEq, and_true] at h
    obtain ⟨⟨h2, h3⟩, h5, h6⟩ := h
    simp only [List.all_cons, List.all_nil, Bool.and_true, Bool.and_eq_true, bne_iff_ne] at hn
    rw [Op.eqFields, if_pos hn.1]
    simp only [h2, h3, Sem.run_bind, hx0, hy0, Result.andThen_ok, e0]
    cases p
    · simp
    · simp only [Bool.not_true, Bool.false_eq_true, if_false, Bool.true_and]
      rw [Op.eqFields, if_pos hn.2]
      simp only [h5, h6, Sem.run_bind, hx1, hy1, Result.andThen_ok, e1]
      cases q <;> simp [Op.eqFields]
  · simp at h
theorem eqRng (d : Nat) (s e s' e' : Int) (w : World) : (Op.equalIn (d + 2 + 1) 29 (.agg (rngA s e)) (.agg (rngA s' e'))).run Yba.prog w = .ok (decide (s = s') && decide (e = e')) w := by
  rw [run_equalIn_struct w (d + 2) 29 _ _ str29 held29]
  exact eqFields_two (d + 2) _ _ 27 _ _ _ _ _ _ w (part27 s e w).1 (part27 s e w).2 (part27 s' e' w).1 (part27 s' e' w).2 (eqId d s s' w) (eqId d e e' w) _ fields29 names29
end Go.Proofs.Ybulkahii
