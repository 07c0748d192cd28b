namespace Go.Proofs.Qxb6601201a.Ins

/-- The bytes in order, a hyphen ahead of every byte whose place is a positive multiple of four; the list begins at place i. -/
def ins : Nat → List UInt8 → List UInt8
  | _, [] => []
  | i, c :: r => (if 0 < i ∧ i % 4 = 0 then [45, c] else [c]) ++ ins (i + 1) r

theorem ins_snoc (i : Nat) (a : List UInt8) (c : UInt8) : ins i (a ++ [c]) = ins i a ++ (if 0 < i + a.length ∧ (i + a.length) % 4 = 0 then [45, c] else [c]) := by
  induction a generalizing i with
  | nil => simp [ins]
  | cons x a ih =>
    simp only [List.cons_append, ins, ih, List.length_cons, List.append_assoc]
    rw [show i + 1 + a.length = i + (a.length + 1) from by omega]

theorem ins_shift (i : Nat) (h : 0 < i) (r : List UInt8) : ins (i + 4) r = ins i r := by
  induction r generalizing i with
  | nil => rfl
  | cons c r ih =>
    simp only [ins]
    rw [show i + 4 + 1 = (i + 1) + 4 from by omega, ih (i + 1) (by omega)]
    have e : (0 < i + 4 ∧ (i + 4) % 4 = 0) ↔ (0 < i ∧ i % 4 = 0) := by omega
    by_cases q : 0 < i ∧ i % 4 = 0
    · rw [if_pos q, if_pos (e.2 q)]
    · rw [if_neg q, if_neg (fun z => q (e.1 z))]

/-- Four bytes and more behind them: the four, a hyphen, and so on. -/
theorem ins_four (l : List UInt8) (h : 4 < l.length) : ins 0 l = l.take 4 ++ 45 :: ins 0 (l.drop 4) := by
  match l, h with
  | a :: b :: c :: d :: e :: r, _ =>
    simp [ins]
    rw [← ins_shift 1 (by omega) r]
/-- At most four bytes: as they are. -/
theorem ins_few (l : List UInt8) (h : l.length ≤ 4) : ins 0 l = l := by
  match l, h with
  | [], _ => rfl
  | [_], _ => rfl
  | [_, _], _ => rfl
  | [_, _, _], _ => rfl
  | [_, _, _, _], _ => rfl
  | _ :: _ :: _ :: _ :: _ :: _, h => simp at h

/-- The groups so far, each with its hyphen. -/
def pre (gs : List (List UInt8)) : List UInt8 := (gs.map (· ++ [45])).flatten
theorem pre_snoc (gs : List (List UInt8)) (g : List UInt8) : pre (gs ++ [g]) = pre gs ++ (g ++ [45]) := by simp [pre]
theorem inter_snoc (gs : List (List UInt8)) (x : List UInt8) : [45].intercalate (gs ++ [x]) = pre gs ++ x := by
  induction gs with
  | nil => simp [pre, List.intercalate]
  | cons g gs ih =>
    cases gs with
    | nil => simp [pre, List.intercalate]
    | cons h gs =>
      have : [45].intercalate (g :: (h :: gs ++ [x])) = g ++ ([45] ++ [45].intercalate (h :: gs ++ [x])) := by simp [List.intercalate]
      rw [List.cons_append, this, ih]
      simp [pre]

theorem ins_len (i : Nat) (l : List UInt8) : l.length ≤ (ins i l).length ∧ (ins i l).length ≤ 2 * l.length := by
  induction l generalizing i with
  | nil => simp [ins]
  | cons c l ih =>
    have := ih (i + 1)
    simp only [ins, List.length_append, List.length_cons]
    split <;> simp <;> omega

/-! ### the closed form -/
/-- The length of what is shown. -/
theorem ins_length (l : List UInt8) : (ins 0 l).length = if 0 < l.length then l.length + (l.length - 1) / 4 else 0 := by
  have key : ∀ n, ∀ l : List UInt8, l.length ≤ n → (ins 0 l).length = if 0 < l.length then l.length + (l.length - 1) / 4 else 0 := by
    intro n
    induction n with
    | zero =>
      intro l h
      have : l = [] := List.length_eq_zero_iff.1 (by omega)
      subst this; rfl
    | succ n ih =>
      intro l h
      by_cases h4 : 4 < l.length
      · rw [ins_four l h4]
        have := ih (l.drop 4) (by simp; omega)
        simp only [List.length_append, List.length_take, List.length_cons, List.length_drop] at this ⊢
        rw [this, if_pos (by omega), if_pos (by omega)]
        omega
      · rw [ins_few l (by omega)]
        split
        · omega
        · omega
  exact key l.length l (Nat.le_refl _)

/-- Reading on from place j of what is shown, what is at hand of the text: every fifth place is a hyphen and is dropped. -/
def unsh : Nat → List UInt8 → List UInt8
  | _, [] => []
  | j, c :: r => if j % 5 = 4 then unsh (j + 1) r else c :: unsh (j + 1) r
/-- Every fifth place holds a hyphen. -/
def hyph : Nat → List UInt8 → Prop
  | _, [] => True
  | j, c :: r => (j % 5 = 4 → c = 45) ∧ hyph (j + 1) r

theorem unsh_snoc (j : Nat) (a : List UInt8) (c : UInt8) : unsh j (a ++ [c]) = unsh j a ++ (if (j + a.length) % 5 = 4 then [] else [c]) := by
  induction a generalizing j with
  | nil => simp only [List.nil_append, unsh, List.length_nil, Nat.add_zero]
  | cons x a ih =>
    simp only [List.cons_append, unsh, ih, List.length_cons]
    rw [show j + 1 + a.length = j + (a.length + 1) from by omega]
    split <;> simp

theorem unsh_shift (j : Nat) (l : List UInt8) : unsh (j + 5) l = unsh j l := by
  induction l generalizing j with
  | nil => rfl
  | cons c l ih =>
    simp only [unsh]
    rw [show j + 5 + 1 = (j + 1) + 5 from by omega, ih (j + 1), show (j + 5) % 5 = j % 5 from by omega]
theorem hyph_shift (j : Nat) (l : List UInt8) : hyph (j + 5) l ↔ hyph j l := by
  induction l generalizing j with
  | nil => exact Iff.rfl
  | cons c l ih =>
    simp only [hyph]
    rw [show j + 5 + 1 = (j + 1) + 5 from by omega, ih (j + 1), show (j + 5) % 5 = j % 5 from by omega]

theorem show_back (l : List UInt8) : unsh 0 (ins 0 l) = l ∧ hyph 0 (ins 0 l) := by
  have key : ∀ n, ∀ l : List UInt8, l.length ≤ n → unsh 0 (ins 0 l) = l ∧ hyph 0 (ins 0 l) := by
    intro n
    induction n with
    | zero =>
      intro l h
      have : l = [] := List.length_eq_zero_iff.1 (by omega)
      subst this; exact ⟨rfl, trivial⟩
    | succ n ih =>
      intro l h
      by_cases h4 : 4 < l.length
      · rw [ins_four l h4]
        have ⟨i1, i2⟩ := ih (l.drop 4) (by simp; omega)
        match l, h4 with
        | a :: b :: c :: d :: e :: r, _ =>
          simp only [List.drop_succ_cons, List.drop_zero] at i1 i2
          have u := unsh_shift 0 (ins 0 (e :: r))
          have v := hyph_shift 0 (ins 0 (e :: r))
          simp only [Nat.zero_add] at u v
          constructor
          · simp [unsh, u, i1]
          · simp [hyph, v, i2]
      · rw [ins_few l (by omega)]
        match l with
        | [] => exact ⟨rfl, trivial⟩
        | [a] => simp [unsh, hyph]
        | [a, b] => simp [unsh, hyph]
        | [a, b, c] => simp [unsh, hyph]
        | [a, b, c, d] => simp [unsh, hyph]
        | a :: b :: c :: d :: e :: r => simp at h4
  exact key l.length l (Nat.le_refl _)

theorem hyph_at (j : Nat) (l : List UInt8) (h : hyph j l) (k : Nat) (hk : k < l.length) (h5 : (j + k) % 5 = 4) : l[k] = 45 := by
  induction l generalizing j k with
  | nil => simp at hk
  | cons c l ih =>
    cases k with
    | zero => exact h.1 (by simpa using h5)
    | succ k =>
      simp only [List.getElem_cons_succ]
      exact ih (j + 1) h.2 k (by simpa using hk) (by rw [show j + 1 + k = j + (k + 1) from by omega]; exact h5)
end Go.Proofs.Qxb6601201a.Ins
