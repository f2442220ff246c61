/-
  The plain laws of a forest of gaps: no Go in sight.
-/
namespace Go.Proofs.Ybulkahjy.Forest

/-- Each of the first n names none (-1) or a later one. -/
def Ok (n : Nat) (q : Nat → Int) : Prop := ∀ i, i < n → q i = -1 ∨ ((i : Int) < q i ∧ q i < (n : Int))

def upd (q : Nat → Int) (c : Nat) (v : Int) : Nat → Int := fun j => if j = c then v else q j

/-- What 'root' leaves, and where it ends. -/
def halve : Nat → (Nat → Int) → Nat → (Nat → Int) × Nat
  | 0, q, c => (q, c)
  | f + 1, q, c => if q c < 0 then (q, c) else if q (q c).toNat < 0 then halve f q (q c).toNat else halve f (upd q c (q (q c).toNat)) (q (q c).toNat).toNat

/-- The root of c: the end of the way. -/
def rootOf : Nat → (Nat → Int) → Nat → Nat
  | 0, _, c => c
  | f + 1, q, c => if q c < 0 then c else rootOf f q (q c).toNat

/-- What the law itself reckons. -/
def trail : Nat → (Nat → Int) → (Nat → Int) → Nat → (Nat → Int) × Nat
  | 0, _, np, c => (np, c)
  | f + 1, p, np, c => if p c < 0 then (np, c) else if p (p c).toNat < 0 then trail f p np (p c).toNat else trail f p (upd np c (p (p c).toNat)) (p (p c).toNat).toNat

theorem Ok.step {n : Nat} {q : Nat → Int} (h : Ok n q) {c : Nat} (hc : c < n) (hq : ¬ q c < 0) : c < (q c).toNat ∧ (q c).toNat < n := by
  rcases h c hc with h | h <;> omega

theorem Ok.upd {n : Nat} {q : Nat → Int} (h : Ok n q) {c : Nat} {v : Int} (hv : (c : Int) < v) (hn : v < (n : Int)) : Ok n (upd q c v) := fun i hi => by
  by_cases e : i = c
  · subst e; right; simp [Forest.upd]; omega
  · have := h i hi
    simpa [Forest.upd, e] using this

theorem halve_done {f : Nat} {q : Nat → Int} {c : Nat} (h : q c < 0) : halve f q c = (q, c) := by
  cases f <;> simp [halve, h]

theorem halve_one {f : Nat} {q : Nat → Int} {c : Nat} (h : ¬ q c < 0) (h2 : q (q c).toNat < 0) : halve (f + 1) q c = halve f q (q c).toNat := by
  simp [halve, h, h2]

theorem halve_two {f : Nat} {q : Nat → Int} {c : Nat} (h : ¬ q c < 0) (h2 : ¬ q (q c).toNat < 0) : halve (f + 1) q c = halve f (upd q c (q (q c).toNat)) (q (q c).toNat).toNat := by
  simp [halve, h, h2]

theorem trail_done {f : Nat} {p np : Nat → Int} {c : Nat} (h : p c < 0) : trail f p np c = (np, c) := by
  cases f <;> simp [trail, h]

theorem trail_one {f : Nat} {p np : Nat → Int} {c : Nat} (h : ¬ p c < 0) (h2 : p (p c).toNat < 0) : trail (f + 1) p np c = trail f p np (p c).toNat := by
  simp [trail, h, h2]

theorem trail_two {f : Nat} {p np : Nat → Int} {c : Nat} (h : ¬ p c < 0) (h2 : ¬ p (p c).toNat < 0) : trail (f + 1) p np c = trail f p (upd np c (p (p c).toNat)) (p (p c).toNat).toNat := by
  simp [trail, h, h2]

theorem trail_eq {n : Nat} {p : Nat → Int} (hp : Ok n p) : ∀ (f : Nat) (np : Nat → Int) (c : Nat), c < n → (∀ j, c ≤ j → np j = p j) → trail f p np c = halve f np c
  | 0, _, _, _, _ => rfl
  | f + 1, np, c, hc, h => by
    have e := h c (Nat.le_refl _)
    by_cases h1 : p c < 0
    · rw [trail_done h1, halve_done (by rw [e]; exact h1)]
    · obtain ⟨s1, s2⟩ := hp.step hc h1
      have e2 := h (p c).toNat (by omega)
      by_cases h2 : p (p c).toNat < 0
      · rw [trail_one h1 h2, halve_one (by rw [e]; exact h1) (by rw [e, e2]; exact h2), e]
        exact trail_eq hp f np _ s2 (fun j hj => h j (by omega))
      · obtain ⟨t1, t2⟩ := hp.step s2 h2
        rw [trail_two h1 h2, halve_two (by rw [e]; exact h1) (by rw [e, e2]; exact h2), e, e2]
        exact trail_eq hp f _ _ t2 (fun j hj => by rw [← h j (by omega)]; simp [Forest.upd, show j ≠ c by omega])

theorem halve_ok {n : Nat} : ∀ (f : Nat) (q : Nat → Int) (c : Nat), Ok n q → c < n → Ok n (halve f q c).1 ∧ (halve f q c).2 < n
  | 0, _, _, h, hc => ⟨h, hc⟩
  | f + 1, q, c, h, hc => by
    by_cases h1 : q c < 0
    · rw [halve_done h1]; exact ⟨h, hc⟩
    · obtain ⟨s1, s2⟩ := h.step hc h1
      by_cases h2 : q (q c).toNat < 0
      · rw [halve_one h1 h2]; exact halve_ok f q _ h s2
      · obtain ⟨t1, t2⟩ := h.step s2 h2
        rw [halve_two h1 h2]
        exact halve_ok f _ _ (h.upd (by omega) (by omega)) t2

theorem rootOf_fuel {n : Nat} {q : Nat → Int} (hq : Ok n q) : ∀ (f g c : Nat), c < n → n ≤ f + c → n ≤ g + c → rootOf f q c = rootOf g q c
  | 0, _, _, hc, hf, _ => by omega
  | f + 1, 0, _, hc, _, hg => by omega
  | f + 1, g + 1, c, hc, hf, hg => by
    unfold rootOf
    by_cases h1 : q c < 0
    · rw [if_pos h1, if_pos h1]
    · obtain ⟨s1, s2⟩ := hq.step hc h1
      rw [if_neg h1, if_neg h1]
      exact rootOf_fuel hq f g _ s2 (by omega) (by omega)

theorem rootOf_done {n : Nat} {q : Nat → Int} {c : Nat} (h : q c < 0) : rootOf n q c = c := by
  cases n <;> simp [rootOf, h]

theorem rootOf_step {n : Nat} {q : Nat → Int} (hq : Ok n q) {c : Nat} (hc : c < n) (h : ¬ q c < 0) : rootOf n q c = rootOf n q (q c).toNat := by
  obtain ⟨s1, s2⟩ := hq.step hc h
  rw [rootOf_fuel hq n (n + 1) c hc (by omega) (by omega)]
  conv => lhs; unfold rootOf
  rw [if_neg h]

theorem rootOf_upd {n : Nat} {q : Nat → Int} (hq : Ok n q) {c : Nat} (hc : c < n) (h1 : ¬ q c < 0) (h2 : ¬ q (q c).toNat < 0) :
    ∀ (k j : Nat), j < n → n - j ≤ k → rootOf n (upd q c (q (q c).toNat)) j = rootOf n q j := by
  obtain ⟨s1, s2⟩ := hq.step hc h1
  obtain ⟨t1, t2⟩ := hq.step s2 h2
  have hu : Ok n (upd q c (q (q c).toNat)) := hq.upd (by omega) (by omega)
  intro k
  induction k with
  | zero => intro j hj hk; omega
  | succ k ih =>
    intro j hj hk
    by_cases e : j = c
    · subst e
      have hv : upd q j (q (q j).toNat) j = q (q j).toNat := by simp [Forest.upd]
      rw [rootOf_step hu hj (by rw [hv]; exact h2), hv, ih _ t2 (by omega), ← rootOf_step hq s2 h2, ← rootOf_step hq hj h1]
    · have hv : upd q c (q (q c).toNat) j = q j := by simp [Forest.upd, e]
      by_cases hj2 : q j < 0
      · rw [rootOf_done (by rw [hv]; exact hj2), rootOf_done hj2]
      · obtain ⟨u1, u2⟩ := hq.step hj hj2
        rw [rootOf_step hu hj (by rw [hv]; exact hj2), hv, ih _ u2 (by omega), ← rootOf_step hq hj hj2]

theorem halve_kept {n : Nat} : ∀ (f : Nat) (q : Nat → Int) (c : Nat), Ok n q → c < n → n ≤ f + c →
    (∀ j, j < n → rootOf n (halve f q c).1 j = rootOf n q j) ∧ (halve f q c).2 = rootOf n q c ∧ (halve f q c).1 (halve f q c).2 < 0
  | 0, _, _, _, hc, hf => by omega
  | f + 1, q, c, h, hc, hf => by
    by_cases h1 : q c < 0
    · rw [halve_done h1]; exact ⟨fun _ _ => rfl, (rootOf_done h1).symm, h1⟩
    · obtain ⟨s1, s2⟩ := h.step hc h1
      by_cases h2 : q (q c).toNat < 0
      · rw [halve_one h1 h2]
        obtain ⟨a, b, d⟩ := halve_kept f q _ h s2 (by omega)
        exact ⟨a, by rw [b, ← rootOf_step h hc h1], d⟩
      · obtain ⟨t1, t2⟩ := h.step s2 h2
        rw [halve_two h1 h2]
        obtain ⟨a, b, d⟩ := halve_kept f (upd q c (q (q c).toNat)) _ (h.upd (by omega) (by omega)) t2 (by omega)
        refine ⟨fun j hj => by rw [a j hj, rootOf_upd h hc h1 h2 n j hj (by omega)], ?_, d⟩
        rw [b, rootOf_upd h hc h1 h2 n _ t2 (by omega), ← rootOf_step h s2 h2, ← rootOf_step h hc h1]

theorem rootOf_lt {n : Nat} {q : Nat → Int} (hq : Ok n q) : ∀ (f c : Nat), c < n → rootOf f q c < n
  | 0, _, hc => hc
  | f + 1, c, hc => by
    unfold rootOf
    by_cases h1 : q c < 0
    · rw [if_pos h1]; exact hc
    · rw [if_neg h1]; exact rootOf_lt hq f _ (hq.step hc h1).2

/-- The forest that the law draws from its bytes. -/
def par (n : Nat) (z : Nat → Int) (i : Nat) : Int := if i = n - 1 ∨ z i % 4 = 0 then -1 else (i : Int) + 1 + z i % ((n : Int) - 1 - i)

theorem par_ok (n : Nat) (z : Nat → Int) : Ok n (par n z) := fun i hi => by
  unfold par
  by_cases h : i = n - 1 ∨ z i % 4 = 0
  · rw [if_pos h]; left; rfl
  · rw [if_neg h]
    right
    have hp : (0 : Int) < (n : Int) - 1 - i := by omega
    have h0 := Int.emod_nonneg (z i) (show (n : Int) - 1 - i ≠ 0 by omega)
    have h1 := Int.emod_lt_of_pos (z i) hp
    omega
end Go.Proofs.Ybulkahjy.Forest
