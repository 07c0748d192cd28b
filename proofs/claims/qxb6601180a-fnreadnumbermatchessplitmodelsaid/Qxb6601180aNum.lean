namespace Go.Proofs.Qxb6601180a.Rd

/-- A byte is a digit; an exponent's letter; a sign. -/
def Dg (c : Int) : Prop := 48 ≤ c ∧ c ≤ 57
def IsE (c : Int) : Prop := c = 101 ∨ c = 69
def IsS (c : Int) : Prop := c = 43 ∨ c = 45
/-- All bytes from a up to b are digits. -/
def Al (F : Nat → Int) (a b : Nat) : Prop := ∀ j, a ≤ j → j < b → Dg (F j)
/-- j is where the digits that begin at i end. -/
def Run (F : Nat → Int) (n i j : Nat) : Prop := i ≤ j ∧ j ≤ n ∧ Al F i j ∧ (j = n ∨ ¬ Dg (F j))
/-- y is behind the sign, if there is one at x. -/
def Sg (F : Nat → Int) (n x y : Nat) : Prop := (y = x ∧ ¬ (x < n ∧ IsS (F x))) ∨ (y = x + 1 ∧ x < n ∧ IsS (F x))
/-- An exponent that begins at x and ends at n. -/
def ExpOK (F : Nat → Int) (n x : Nat) : Prop := ∃ y, Sg F n x y ∧ y < n ∧ Al F y n

/-- A number from s to n: the whole part [s, a), the fraction [a + 1, b) if hf, the exponent [b + 1, n) if hx. -/
structure NumIs (F : Nat → Int) (n s a : Nat) (hf : Bool) (b : Nat) (hx : Bool) : Prop where
  lt : s < a
  al : Al F s a
  zero : ¬ (1 < a - s ∧ F s = 48)
  yesF : hf = true → F a = 46 ∧ a + 1 < b ∧ Al F (a + 1) b
  noF : hf = false → b = a
  ble : b ≤ n
  yesE : hx = true → b < n ∧ IsE (F b) ∧ ExpOK F n (b + 1)
  noE : hx = false → b = n

section
variable {F : Nat → Int} {n s a b : Nat} {hf hx : Bool}

theorem NumIs.ale (h : NumIs F n s a hf b hx) : a ≤ b := by
  cases hf with
  | true => have := (h.yesF rfl).2.1; omega
  | false => have := h.noF rfl; omega

theorem run_unique {i j k : Nat} (h : Run F n i j) (g : Run F n i k) : j = k := by
  obtain ⟨h1, h2, h3, h4⟩ := h
  obtain ⟨g1, g2, g3, g4⟩ := g
  rcases Nat.lt_trichotomy j k with q | q | q
  · exfalso
    rcases h4 with h4 | h4
    · omega
    · exact h4 (g3 j h1 q)
  · exact q
  · exfalso
    rcases g4 with g4 | g4
    · omega
    · exact g4 (h3 k g1 q)

/-- The byte behind the whole part is no digit, nor is the one behind the mantissa. -/
theorem NumIs.runA (h : NumIs F n s a hf b hx) : Run F n s a := by
  refine ⟨Nat.le_of_lt h.lt, Nat.le_trans h.ale h.ble, h.al, ?_⟩
  cases hf with
  | true =>
    refine .inr fun q => ?_
    have := (h.yesF rfl).1
    unfold Dg at q; omega
  | false =>
    have e := h.noF rfl
    cases hx with
    | true =>
      refine .inr fun q => ?_
      have := (h.yesE rfl).2.1
      rw [e] at this
      unfold Dg at q; unfold IsE at this; omega
    | false => left; have := h.noE rfl; omega

theorem NumIs.runB (h : NumIs F n s a true b hx) : Run F n (a + 1) b := by
  obtain ⟨f1, f2, f3⟩ := h.yesF rfl
  refine ⟨by omega, h.ble, f3, ?_⟩
  cases hx with
  | true =>
    refine .inr fun q => ?_
    have := (h.yesE rfl).2.1
    unfold Dg at q; unfold IsE at this; omega
  | false => left; exact h.noE rfl

theorem NumIs.unique {a' b' : Nat} {hf' hx' : Bool} (h : NumIs F n s a hf b hx) (g : NumIs F n s a' hf' b' hx') : a = a' ∧ hf = hf' ∧ b = b' ∧ hx = hx' := by
  have ea : a = a' := run_unique h.runA g.runA
  subst ea
  have point : ∀ {b₁ b₂ : Nat} {x₁ x₂ : Bool}, NumIs F n s a true b₁ x₁ → NumIs F n s a false b₂ x₂ → False := by
    intro b₁ b₂ x₁ x₂ p q
    obtain ⟨f1, f2, f3⟩ := p.yesF rfl
    have e := q.noF rfl
    have hb := p.ble
    cases x₂ with
    | true =>
      have := (q.yesE rfl).2.1
      rw [e] at this
      unfold IsE at this; omega
    | false => have := q.noE rfl; omega
  have ef : hf = hf' := by
    cases hf with
    | true =>
      cases hf' with
      | true => rfl
      | false => exact (point h g).elim
    | false =>
      cases hf' with
      | true => exact (point g h).elim
      | false => rfl
  subst ef
  have eb : b = b' := by
    cases hf with
    | true => exact run_unique h.runB g.runB
    | false => rw [h.noF rfl, g.noF rfl]
  subst eb
  refine ⟨rfl, rfl, rfl, ?_⟩
  cases hx with
  | true =>
    cases hx' with
    | true => rfl
    | false => have := g.noE rfl; have := (h.yesE rfl).1; omega
  | false =>
    cases hx' with
    | true => have := h.noE rfl; have := (g.yesE rfl).1; omega
    | false => rfl
end

/-- No number from s to n. -/
def NoNum (F : Nat → Int) (n s : Nat) : Prop := ∀ a hf b hx, ¬ NumIs F n s a hf b hx

section
variable {F : Nat → Int} {n s a b : Nat}

/-! ### readNumber: by scanning -/
theorem no_whole (h : Run F n s s) : NoNum F n s := fun a' hf' b' hx' g => by
  have e := run_unique h g.runA
  have := g.lt
  omega
theorem no_zero (h : Run F n s a) (hz : 1 < a - s ∧ F s = 48) : NoNum F n s := fun a' hf' b' hx' g => by
  have e := run_unique h g.runA
  subst e
  exact g.zero hz
/-- The mantissa as it was scanned: [s, a), and [a + 1, b) behind a point. -/
def Mant (F : Nat → Int) (n s a : Nat) (hf : Bool) (b : Nat) : Prop :=
  Run F n s a ∧ s < a ∧ ¬ (1 < a - s ∧ F s = 48) ∧ (hf = true → a < n ∧ F a = 46 ∧ a + 1 < b ∧ Run F n (a + 1) b) ∧ (hf = false → b = a ∧ ¬ (a < n ∧ F a = 46))

theorem Mant.ble {hf : Bool} (h : Mant F n s a hf b) : b ≤ n := by
  obtain ⟨h1, _, _, h4, h5⟩ := h
  cases hf with
  | true => exact (h4 rfl).2.2.2.2.1
  | false => rw [(h5 rfl).1]; exact h1.2.1
theorem Mant.sle {hf : Bool} (h : Mant F n s a hf b) : s < b := by
  obtain ⟨h1, h2, _, h4, h5⟩ := h
  cases hf with
  | true => have := (h4 rfl).2.2.1; omega
  | false => rw [(h5 rfl).1]; exact h2

theorem no_frac (h : Run F n s a) (hn : a < n) (hp : F a = 46) (hb : Run F n (a + 1) (a + 1)) : NoNum F n s := fun a' hf' b' hx' g => by
  have e := run_unique h g.runA
  subst e
  cases hf' with
  | true =>
    have := run_unique hb g.runB
    have := (g.yesF rfl).2.1
    omega
  | false =>
    have e := g.noF rfl
    cases hx' with
    | true =>
      have := (g.yesE rfl).2.1
      rw [e] at this
      unfold IsE at this; omega
    | false => have := g.noE rfl; omega

theorem Mant.same {hf : Bool} (h : Mant F n s a hf b) {a' b' : Nat} {hf' hx' : Bool} (g : NumIs F n s a' hf' b' hx') : a = a' ∧ hf = hf' ∧ b = b' := by
  obtain ⟨h1, h2, h3, h4, h5⟩ := h
  have e := run_unique h1 g.runA
  subst e
  cases hf with
  | true =>
    obtain ⟨p1, p2, p3, p4⟩ := h4 rfl
    cases hf' with
    | true => exact ⟨rfl, rfl, run_unique p4 g.runB⟩
    | false =>
      exfalso
      have e := g.noF rfl
      cases hx' with
      | true =>
        have := (g.yesE rfl).2.1
        rw [e] at this
        unfold IsE at this; omega
      | false => have := g.noE rfl; omega
  | false =>
    obtain ⟨p1, p2⟩ := h5 rfl
    cases hf' with
    | true =>
      exfalso
      obtain ⟨q1, q2, _⟩ := g.yesF rfl
      have := g.ble
      exact p2 ⟨by omega, q1⟩
    | false => exact ⟨rfl, rfl, by rw [p1, g.noF rfl]⟩

theorem num_plain {hf : Bool} (h : Mant F n s a hf b) (hn : b = n) : NumIs F n s a hf b false := by
  have hb := h.ble
  obtain ⟨h1, h2, h3, h4, h5⟩ := h
  exact ⟨h2, h1.2.2.1, h3, fun e => ⟨(h4 e).2.1, (h4 e).2.2.1, (h4 e).2.2.2.2.2.1⟩, fun e => (h5 e).1, hb, by simp, fun _ => hn⟩
theorem no_tail {hf : Bool} (h : Mant F n s a hf b) (hn : b ≠ n) (he : ¬ (b < n ∧ IsE (F b))) : NoNum F n s := fun a' hf' b' hx' g => by
  obtain ⟨rfl, rfl, rfl⟩ := h.same g
  cases hx' with
  | true => exact he ⟨(g.yesE rfl).1, (g.yesE rfl).2.1⟩
  | false => exact hn (g.noE rfl)
theorem sg_unique {x y z : Nat} (h : Sg F n x y) (g : Sg F n x z) : y = z := by
  rcases h with ⟨h1, h2⟩ | ⟨h1, h2⟩
  · rcases g with ⟨g1, _⟩ | ⟨g1, g2⟩
    · omega
    · exact (h2 g2).elim
  · rcases g with ⟨g1, g2⟩ | ⟨g1, _⟩
    · exact (g2 h2).elim
    · omega
theorem no_exp {hf : Bool} {y z : Nat} (h : Mant F n s a hf b) (hn : b < n) (hs : Sg F n (b + 1) y) (hr : Run F n y z) (hz : z = y ∨ z ≠ n) : NoNum F n s := fun a' hf' b' hx' g => by
  obtain ⟨rfl, rfl, rfl⟩ := h.same g
  cases hx' with
  | true =>
    obtain ⟨_, _, y', hs', hy, hal⟩ := g.yesE rfl
    have e := sg_unique hs hs'
    subst e
    have : z = n := run_unique hr ⟨by omega, Nat.le_refl _, hal, .inl rfl⟩
    omega
  | false => have := g.noE rfl; omega
theorem num_exp {hf : Bool} {y : Nat} (h : Mant F n s a hf b) (hn : b < n) (he : IsE (F b)) (hs : Sg F n (b + 1) y) (hr : Run F n y n) (hy : y < n) : NumIs F n s a hf b true := by
  have hb := h.ble
  obtain ⟨h1, h2, h3, h4, h5⟩ := h
  exact ⟨h2, h1.2.2.1, h3, fun e => ⟨(h4 e).2.1, (h4 e).2.2.1, (h4 e).2.2.2.2.2.1⟩, fun e => (h5 e).1, hb, fun _ => ⟨hn, he, y, hs, hy, hr.2.2.1⟩, by simp⟩

/-! ### the model: by cutting -/
/-- The first place from a up to b where P holds: found and where; else b. -/
def FirstIn (P : Int → Prop) (F : Nat → Int) (a b : Nat) (found : Bool) (k : Nat) : Prop :=
  (found = true → a ≤ k ∧ k < b ∧ P (F k) ∧ ∀ j, a ≤ j → j < k → ¬ P (F j)) ∧ (found = false → k = b ∧ ∀ j, a ≤ j → j < b → ¬ P (F j))

theorem dg_not_e {c : Int} (h : Dg c) : ¬ IsE c := by unfold Dg at h; unfold IsE; omega
theorem dg_not_p {c : Int} (h : Dg c) : ¬ c = 46 := by unfold Dg at h; omega

variable {m : Nat} {hf hx : Bool}
theorem cut_same (h1 : FirstIn IsE F s n hx m) (h2 : FirstIn (· = 46) F s m hf a) {a' b' : Nat} {hf' hx' : Bool} (g : NumIs F n s a' hf' b' hx') : a = a' ∧ hf = hf' ∧ m = b' ∧ hx = hx' := by
  -- ahead of the mantissa's end there is no exponent's letter
  have pre : ∀ j, s ≤ j → j < b' → ¬ IsE (F j) := by
    intro j j1 j2
    rcases Nat.lt_trichotomy j a' with q | q | q
    · exact dg_not_e (g.al j j1 q)
    · subst q
      cases hf' with
      | true => have := (g.yesF rfl).1; unfold IsE; omega
      | false => have := g.noF rfl; omega
    · cases hf' with
      | true => exact dg_not_e ((g.yesF rfl).2.2 j (by omega) j2)
      | false => have := g.noF rfl; omega
  have hsb : s < b' := Nat.lt_of_lt_of_le g.lt g.ale
  have hm : m = b' ∧ hx = hx' := by
    cases hx' with
    | true =>
      obtain ⟨e1, e2, _⟩ := g.yesE rfl
      cases hx with
      | true =>
        obtain ⟨k1, k2, k3, k4⟩ := h1.1 rfl
        refine ⟨?_, rfl⟩
        rcases Nat.lt_trichotomy m b' with q | q | q
        · exact (pre m k1 q k3).elim
        · exact q
        · exact (k4 b' (by omega) q e2).elim
      | false => exact ((h1.2 rfl).2 b' (by omega) e1 e2).elim
    | false =>
      have e := g.noE rfl
      cases hx with
      | true =>
        obtain ⟨k1, k2, k3, k4⟩ := h1.1 rfl
        exact (pre m k1 (by omega) k3).elim
      | false => exact ⟨by rw [(h1.2 rfl).1, e], rfl⟩
  obtain ⟨rfl, rfl⟩ := hm
  have ha : a = a' ∧ hf = hf' := by
    cases hf' with
    | true =>
      obtain ⟨f1, f2, f3⟩ := g.yesF rfl
      cases hf with
      | true =>
        obtain ⟨k1, k2, k3, k4⟩ := h2.1 rfl
        refine ⟨?_, rfl⟩
        rcases Nat.lt_trichotomy a a' with q | q | q
        · exact (dg_not_p (g.al a k1 q) k3).elim
        · exact q
        · exact (k4 a' (Nat.le_of_lt g.lt) q f1).elim
      | false => exact ((h2.2 rfl).2 a' (Nat.le_of_lt g.lt) (by omega) f1).elim
    | false =>
      have e := g.noF rfl
      cases hf with
      | true =>
        obtain ⟨k1, k2, k3, k4⟩ := h2.1 rfl
        exact (dg_not_p (g.al a k1 (by omega)) k3).elim
      | false => exact ⟨by rw [(h2.2 rfl).1, e], rfl⟩
  exact ⟨ha.1, ha.2, rfl, rfl⟩

/-- The model's answer: what it asks of each piece. -/
theorem cut_yes (h1 : FirstIn IsE F s n hx m) (h2 : FirstIn (· = 46) F s m hf a) (g1 : s < a) (g2 : Al F s a) (g3 : ¬ (1 < a - s ∧ F s = 48)) (g4 : hf = true → a + 1 < m ∧ Al F (a + 1) m) (g5 : hx = true → ExpOK F n (m + 1)) :
    NumIs F n s a hf m hx := by
  refine ⟨g1, g2, g3, fun e => ⟨(h2.1 e).2.2.1, (g4 e).1, (g4 e).2⟩, fun e => (h2.2 e).1.symm, ?_, fun e => ⟨(h1.1 e).2.1, (h1.1 e).2.2.1, g5 e⟩, fun e => (h1.2 e).1⟩
  cases hx with
  | true => exact Nat.le_of_lt (h1.1 rfl).2.1
  | false => exact Nat.le_of_eq (h1.2 rfl).1
theorem cut_no (h1 : FirstIn IsE F s n hx m) (h2 : FirstIn (· = 46) F s m hf a) (h : ¬ (s < a ∧ Al F s a) ∨ (1 < a - s ∧ F s = 48) ∨ (hf = true ∧ ¬ (a + 1 < m ∧ Al F (a + 1) m)) ∨ (hx = true ∧ ¬ ExpOK F n (m + 1))) : NoNum F n s := by
  intro a' hf' b' hx' g
  obtain ⟨rfl, rfl, rfl, rfl⟩ := cut_same h1 h2 g
  rcases h with h | h | ⟨h, k⟩ | ⟨h, k⟩
  · exact h ⟨g.lt, g.al⟩
  · exact g.zero h
  · exact k (g.yesF h).2
  · exact k (g.yesE h).2.2
end
end Go.Proofs.Qxb6601180a.Rd
