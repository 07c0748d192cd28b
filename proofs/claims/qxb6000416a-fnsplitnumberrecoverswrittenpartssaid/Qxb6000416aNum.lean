namespace Go.Proofs.Qxb6000416a.Num

/-- A byte is a decimal digit. -/
def isD (c : UInt8) : Bool := decide (48 ≤ (c.toNat : Int)) && decide ((c.toNat : Int) ≤ 57)

/-- One step of the state machine of RFC 8259's number grammar, over the byte's number. -/
def stepI (st : Nat) (n : Int) : Option Nat :=
  match st with
  | 0 => if n = 45 then some 1 else if n = 48 then some 2 else if 48 ≤ n ∧ n ≤ 57 then some 3 else none
  | 1 => if n = 48 then some 2 else if 48 ≤ n ∧ n ≤ 57 then some 3 else none
  | 2 => if n = 46 then some 4 else if n = 101 ∨ n = 69 then some 6 else none
  | 3 => if 48 ≤ n ∧ n ≤ 57 then some 3 else if n = 46 then some 4 else if n = 101 ∨ n = 69 then some 6 else none
  | 4 => if 48 ≤ n ∧ n ≤ 57 then some 5 else none
  | 5 => if 48 ≤ n ∧ n ≤ 57 then some 5 else if n = 101 ∨ n = 69 then some 6 else none
  | 6 => if n = 43 ∨ n = 45 then some 7 else if 48 ≤ n ∧ n ≤ 57 then some 8 else none
  | 7 => if 48 ≤ n ∧ n ≤ 57 then some 8 else none
  | _ => if 48 ≤ n ∧ n ≤ 57 then some 8 else none

def acc (st : Nat) : Bool := st == 2 || st == 3 || st == 5 || st == 8

/-- The machine, run over a list of bytes from a state on. -/
def go : Nat → List UInt8 → Bool
  | st, [] => acc st
  | st, c :: l => match stepI st (c.toNat : Int) with
    | none => false
    | some st' => go st' l

/-- What splitNumber hands back: sign, whole, fraction, exponent, ok. -/
structure Parts where
  sign : List UInt8
  whole : List UInt8
  fraction : List UInt8
  expo : List UInt8
  ok : Bool

def fail : Parts := ⟨[], [], [], [], false⟩
def tk (l : List UInt8) : List UInt8 := l.takeWhile isD
def dp (l : List UInt8) : List UInt8 := l.dropWhile isD

/-- Behind the letter of the exponent: one sign is passed over. -/
def unsigned : List UInt8 → List UInt8
  | [] => []
  | c :: r => if c = 43 ∨ c = 45 then r else c :: r

/-- From the exponent on. -/
def fromExpo (sg wh fr : List UInt8) : List UInt8 → Parts
  | [] => ⟨sg, wh, fr, [], true⟩
  | c :: written =>
    if c = 101 ∨ c = 69 then
      if tk (unsigned written) = [] then fail
      else ⟨sg, wh, fr, written.take (written.length - (dp (unsigned written)).length), (dp (unsigned written)).isEmpty⟩
    else ⟨sg, wh, fr, [], false⟩

/-- From the point on. -/
def fromPoint (sg wh : List UInt8) : List UInt8 → Parts
  | [] => fromExpo sg wh [] []
  | c :: after =>
    if c = 46 then
      if tk after = [] then fail else fromExpo sg wh (tk after) (dp after)
    else fromExpo sg wh [] (c :: after)

/-- A leading zero that is not the only digit, or no digit. -/
def badWhole : List UInt8 → Bool
  | [] => true
  | [_] => false
  | c :: _ :: _ => c == 48

def fromWhole (sg l : List UInt8) : Parts :=
  if badWhole (tk l) = true then fail else fromPoint sg (tk l) (dp l)

def splitL : List UInt8 → Parts
  | [] => fromWhole [] []
  | c :: r => if c = 45 then fromWhole [45] r else fromWhole [] (c :: r)

/-! ### small laws -/
theorem isD_iff (c : UInt8) : isD c = true ↔ (48 ≤ (c.toNat : Int) ∧ (c.toNat : Int) ≤ 57) := by simp [isD]
theorem isD_false (c : UInt8) : isD c = false ↔ ¬ (48 ≤ (c.toNat : Int) ∧ (c.toNat : Int) ≤ 57) := by
  rw [← isD_iff]; simp
theorem eq_num (c : UInt8) (k : Nat) (hk : k < 256) : c = UInt8.ofNat k ↔ (c.toNat : Int) = (k : Int) := by
  constructor
  · rintro rfl; simp; omega
  · intro h
    have h2 : c.toNat = k := by omega
    apply UInt8.toNat_inj.1
    simp [h2]; omega

theorem tk_nil : tk [] = [] := rfl
theorem dp_nil : dp [] = [] := rfl
theorem tk_cons (c : UInt8) (l) : tk (c :: l) = if isD c then c :: tk l else [] := by
  simp only [tk, List.takeWhile_cons]
theorem dp_cons (c : UInt8) (l) : dp (c :: l) = if isD c then dp l else c :: l := by
  simp only [dp, List.dropWhile_cons]
theorem tk_dp (l) : tk l ++ dp l = l := List.takeWhile_append_dropWhile

/-! ### the machine's loops -/
theorem go8 (l : List UInt8) : go 8 l = (dp l).isEmpty := by
  induction l with
  | nil => rfl
  | cons c l ih =>
    rw [dp_cons, go]
    by_cases h : isD c = true
    · have h' := (isD_iff c).1 h
      simp [stepI, h, h', ih]
    · have h' := (isD_false c).1 (by simpa using h)
      simp [stepI, h, h']

theorem go7 (l : List UInt8) : go 7 l = (!(tk l).isEmpty && (dp l).isEmpty) := by
  cases l with
  | nil => rfl
  | cons c l =>
    rw [dp_cons, tk_cons, go]
    by_cases h : isD c = true
    · have h' := (isD_iff c).1 h
      simp [stepI, h, h', go8]
    · have h' := (isD_false c).1 (by simpa using h)
      simp [stepI, h, h']

theorem go6 (l : List UInt8) : go 6 l = (!(tk (unsigned l)).isEmpty && (dp (unsigned l)).isEmpty) := by
  cases l with
  | nil => rfl
  | cons c l =>
    rw [unsigned]
    have e1 := eq_num c 43 (by omega)
    have e2 := eq_num c 45 (by omega)
    by_cases h : c = 43 ∨ c = 45
    · rw [if_pos h, go]
      have h2 : (c.toNat : Int) = 43 ∨ (c.toNat : Int) = 45 := by
        rcases h with h | h
        · exact .inl (e1.1 h)
        · exact .inr (e2.1 h)
      simp [stepI, h2, go7]
    · rw [if_neg h]
      have h2 : ¬ ((c.toNat : Int) = 43 ∨ (c.toNat : Int) = 45) := by
        intro hh
        rcases hh with hh | hh
        · exact h (.inl (e1.2 hh))
        · exact h (.inr (e2.2 hh))
      rw [dp_cons, tk_cons, go]
      by_cases hd : isD c = true
      · have h' := (isD_iff c).1 hd
        simp [stepI, hd, h', h2, go8]
      · have h' := (isD_false c).1 (by simpa using hd)
        simp [stepI, hd, h', h2]

/-- What the machine asks behind the digits of a fraction. -/
def tailE : List UInt8 → Bool
  | [] => true
  | c :: r => if c = 101 ∨ c = 69 then go 6 r else false

theorem isE_num (c : UInt8) : (c = 101 ∨ c = 69) ↔ ((c.toNat : Int) = 101 ∨ (c.toNat : Int) = 69) := by
  have e1 := eq_num c 101 (by omega)
  have e2 := eq_num c 69 (by omega)
  constructor
  · rintro (h | h)
    · exact .inl (e1.1 h)
    · exact .inr (e2.1 h)
  · rintro (h | h)
    · exact .inl (e1.2 h)
    · exact .inr (e2.2 h)

theorem go5 (l : List UInt8) : go 5 l = tailE (dp l) := by
  induction l with
  | nil => rfl
  | cons c l ih =>
    rw [dp_cons, go]
    by_cases h : isD c = true
    · have h' := (isD_iff c).1 h
      simp [stepI, h, h', ih]
    · have h' := (isD_false c).1 (by simpa using h)
      have he := isE_num c
      by_cases h3 : c = 101 ∨ c = 69
      · have h4 := he.1 h3
        simp [stepI, h, h', h3, h4, tailE]
      · have h4 : ¬ ((c.toNat : Int) = 101 ∨ (c.toNat : Int) = 69) := fun x => h3 (he.2 x)
        simp [stepI, h, h', h3, h4, tailE]

theorem go4 (l : List UInt8) : go 4 l = (!(tk l).isEmpty && tailE (dp l)) := by
  cases l with
  | nil => rfl
  | cons c l =>
    rw [dp_cons, tk_cons, go]
    by_cases h : isD c = true
    · have h' := (isD_iff c).1 h
      simp [stepI, h, h', go5]
    · have h' := (isD_false c).1 (by simpa using h)
      simp [stepI, h, h']

/-- What the machine asks behind the digits ahead of the point. -/
def tailP : List UInt8 → Bool
  | [] => true
  | c :: r => if c = 46 then go 4 r else if c = 101 ∨ c = 69 then go 6 r else false

theorem go2 (l : List UInt8) : go 2 l = tailP l := by
  cases l with
  | nil => rfl
  | cons c l =>
    rw [go, tailP]
    have ep := eq_num c 46 (by omega)
    have he := isE_num c
    by_cases h2 : c = 46
    · have := ep.1 h2
      rw [if_pos h2]; simp [stepI, this]
    · have h2' : ¬ (c.toNat : Int) = 46 := fun x => h2 (ep.2 x)
      rw [if_neg h2]
      by_cases h3 : c = 101 ∨ c = 69
      · have h4 := he.1 h3
        rw [if_pos h3]; simp [stepI, h2', h4]
      · have h4 : ¬ ((c.toNat : Int) = 101 ∨ (c.toNat : Int) = 69) := fun x => h3 (he.2 x)
        rw [if_neg h3]; simp [stepI, h2', h4]

theorem go3 (l : List UInt8) : go 3 l = tailP (dp l) := by
  induction l with
  | nil => rfl
  | cons c l ih =>
    rw [dp_cons]
    by_cases h : isD c = true
    · have h' := (isD_iff c).1 h
      rw [go]
      simp [stepI, h, h', ih]
    · have h' := (isD_false c).1 (by simpa using h)
      rw [if_neg h, ← go2, go, go]
      have e : stepI 3 (c.toNat : Int) = stepI 2 (c.toNat : Int) := by simp [stepI, h']
      rw [e]

theorem dig_neg (c : UInt8) (h : isD c = true) : c ≠ 46 ∧ ¬ (c = 101 ∨ c = 69) ∧ c ≠ 45 ∧ c ≠ 43 := by
  have h' := (isD_iff c).1 h
  refine ⟨?_, ?_, ?_, ?_⟩
  · rintro rfl; revert h'; decide
  · rintro (rfl | rfl) <;> (revert h'; decide)
  · rintro rfl; revert h'; decide
  · rintro rfl; revert h'; decide

/-- States 0 and 1 at what is no minus: the digits ahead of the point. -/
theorem go1 (l : List UInt8) : go 1 l = (!badWhole (tk l) && tailP (dp l)) := by
  cases l with
  | nil => rfl
  | cons c l =>
    rw [dp_cons, tk_cons, go]
    have ez := eq_num c 48 (by omega)
    by_cases h : isD c = true
    · have h' := (isD_iff c).1 h
      rw [if_pos h, if_pos h]
      by_cases hz : c = 48
      · have hz' := ez.1 hz
        have e : stepI 1 (c.toNat : Int) = some 2 := by simp [stepI, hz']
        rw [e]
        simp only
        rw [go2]
        cases l with
        | nil => simp [tk_nil, dp_nil, badWhole, tailP]
        | cons c2 l =>
          rw [tk_cons, dp_cons]
          by_cases h2 : isD c2 = true
          · have ⟨n1, n2, _⟩ := dig_neg c2 h2
            rw [if_pos h2, if_pos h2]
            simp [tailP, n1, n2, badWhole, hz]
          · rw [if_neg h2, if_neg h2]
            simp [badWhole]
      · have hz' : ¬ (c.toNat : Int) = 48 := fun x => hz (ez.2 x)
        have e : stepI 1 (c.toNat : Int) = some 3 := by simp [stepI, hz', h']
        rw [e]
        simp only
        rw [go3]
        have hb : badWhole (c :: tk l) = false := by
          cases tk l with
          | nil => rfl
          | cons d r => simp [badWhole, hz]
        simp [hb]
    · have h' := (isD_false c).1 (by simpa using h)
      have hz' : ¬ (c.toNat : Int) = 48 := by omega
      have e : stepI 1 (c.toNat : Int) = none := by simp [stepI, hz', h']
      rw [e, if_neg h, if_neg h]
      simp [badWhole]

theorem go0 (c : UInt8) (l : List UInt8) (h : c ≠ 45) : go 0 (c :: l) = go 1 (c :: l) := by
  have em := eq_num c 45 (by omega)
  have h' : ¬ (c.toNat : Int) = 45 := fun x => h (em.2 x)
  rw [go, go]
  have e : stepI 0 (c.toNat : Int) = stepI 1 (c.toNat : Int) := by simp [stepI, h']
  rw [e]

theorem go0m (l : List UInt8) : go 0 (45 :: l) = go 1 l := by
  rw [go]
  rfl

/-! ### splitNumber says ok just where the machine accepts -/
theorem fromExpo_ok (sg wh fr l) : (fromExpo sg wh fr l).ok = tailE l := by
  cases l with
  | nil => rfl
  | cons c l =>
    rw [fromExpo, tailE]
    by_cases h : c = 101 ∨ c = 69
    · rw [if_pos h, if_pos h, go6]
      by_cases h2 : tk (unsigned l) = []
      · rw [if_pos h2]; simp [fail, h2]
      · rw [if_neg h2]; simp [h2]
    · rw [if_neg h, if_neg h]

theorem fromPoint_ok (sg wh l) : (fromPoint sg wh l).ok = tailP l := by
  cases l with
  | nil => rfl
  | cons c l =>
    rw [fromPoint, tailP]
    by_cases h : c = 46
    · rw [if_pos h, if_pos h, go4]
      by_cases h2 : tk l = []
      · rw [if_pos h2]; simp [fail, h2]
      · rw [if_neg h2, fromExpo_ok]; simp [h2]
    · rw [if_neg h, if_neg h, fromExpo_ok, tailE]

theorem fromWhole_ok (sg l) : (fromWhole sg l).ok = go 1 l := by
  rw [fromWhole, go1]
  by_cases h : badWhole (tk l) = true
  · rw [if_pos h]; simp [fail, h]
  · rw [if_neg h, fromPoint_ok]; simp [h]

/-- THE PLAIN LAW OF FnSplitNumberAcceptsExactlyJSONNumbers. -/
theorem splitL_ok (l : List UInt8) : (splitL l).ok = go 0 l := by
  cases l with
  | nil => rfl
  | cons c l =>
    rw [splitL]
    by_cases h : c = 45
    · rw [if_pos h, fromWhole_ok, h, go0m]
    · rw [if_neg h, fromWhole_ok, go0 c l h]

/-! ### what was written is read back -/
theorem tk_all (a b : List UInt8) (ha : ∀ c ∈ a, isD c = true) (hb : ∀ c, b.head? = some c → isD c = false) : tk (a ++ b) = a ∧ dp (a ++ b) = b := by
  induction a with
  | nil =>
    cases b with
    | nil => exact ⟨rfl, rfl⟩
    | cons c b =>
      have := hb c rfl
      simp [tk_cons, dp_cons, this]
  | cons x a ih =>
    have hx := ha x (by simp)
    have ⟨i1, i2⟩ := ih (fun c hc => ha c (by simp [hc]))
    simp [tk_cons, dp_cons, hx, i1, i2]

/-- The exponent as it is written: a sign or none, then digits. -/
def expText (sg ds : List UInt8) : List UInt8 := sg ++ ds
/-- The text of a number. -/
def written (sg wh fr : List UInt8) (hasExp : Bool) (letter : UInt8) (ex : List UInt8) : List UInt8 :=
  sg ++ wh ++ (if fr = [] then [] else 46 :: fr) ++ (if hasExp = true then letter :: ex else [])

theorem unsigned_sign (sg ds : List UInt8) (hs : sg = [] ∨ sg = [43] ∨ sg = [45]) (hd : ∀ c ∈ ds, isD c = true) : unsigned (sg ++ ds) = ds := by
  rcases hs with rfl | rfl | rfl
  · cases ds with
    | nil => rfl
    | cons c ds =>
      have ⟨_, _, n1, n2⟩ := dig_neg c (hd c (by simp))
      simp [unsigned, n1, n2]
  · simp [unsigned]
  · simp [unsigned]

theorem fromExpo_written (sg wh fr : List UInt8) (hasExp : Bool) (letter : UInt8) (es ds : List UInt8) (hl : letter = 101 ∨ letter = 69)
    (hs : es = [] ∨ es = [43] ∨ es = [45]) (hd : ∀ c ∈ ds, isD c = true) (hne : hasExp = true → ds ≠ []) :
    fromExpo sg wh fr (if hasExp = true then letter :: (es ++ ds) else []) = ⟨sg, wh, fr, if hasExp = true then es ++ ds else [], true⟩ := by
  cases hasExp with
  | false => rfl
  | true =>
    simp only [if_true]
    rw [fromExpo, if_pos hl, unsigned_sign es ds hs hd]
    have h := tk_all ds [] hd (by simp)
    simp only [List.append_nil] at h
    rw [h.1, h.2, if_neg (hne rfl)]
    simp [List.take_of_length_le]

theorem fromPoint_written (sg wh fr : List UInt8) (hasExp : Bool) (letter : UInt8) (es ds : List UInt8) (hl : letter = 101 ∨ letter = 69)
    (hs : es = [] ∨ es = [43] ∨ es = [45]) (hd : ∀ c ∈ ds, isD c = true) (hne : hasExp = true → ds ≠ []) (hf : ∀ c ∈ fr, isD c = true) :
    fromPoint sg wh ((if fr = [] then [] else 46 :: fr) ++ (if hasExp = true then letter :: (es ++ ds) else [])) = ⟨sg, wh, fr, if hasExp = true then es ++ ds else [], true⟩ := by
  have hE := fromExpo_written sg wh fr hasExp letter es ds hl hs hd hne
  have hnd : ∀ c, (if hasExp = true then letter :: (es ++ ds) else []).head? = some c → isD c = false := by
    intro c hc
    cases hasExp with
    | false => simp at hc
    | true =>
      simp at hc
      subst hc
      rcases hl with rfl | rfl <;> decide
  by_cases h : fr = []
  · subst h
    simp only [if_true, List.nil_append]
    cases hasExp with
    | false => exact hE
    | true =>
      simp only [if_true] at hE ⊢
      rw [fromPoint, if_neg (by rcases hl with rfl | rfl <;> decide)]
      exact hE
  · rw [if_neg h]
    show fromPoint sg wh (46 :: (fr ++ _)) = _
    have ht := tk_all fr _ hf hnd
    rw [fromPoint, if_pos rfl, ht.1, ht.2, if_neg h]
    exact hE

/-- THE PLAIN LAW OF FnSplitNumberRecoversWrittenParts. -/
theorem splitL_written (neg : Bool) (wh fr : List UInt8) (hasExp : Bool) (letter : UInt8) (es ds : List UInt8) (hl : letter = 101 ∨ letter = 69)
    (hs : es = [] ∨ es = [43] ∨ es = [45]) (hd : hasExp = true → ∀ c ∈ ds, isD c = true) (hne : hasExp = true → ds ≠ []) (hf : ∀ c ∈ fr, isD c = true)
    (hw : ∀ c ∈ wh, isD c = true) (hb : badWhole wh = false) :
    splitL (written (if neg = true then [45] else []) wh fr hasExp letter (es ++ ds)) = ⟨if neg = true then [45] else [], wh, fr, if hasExp = true then es ++ ds else [], true⟩ := by
  have key : ∀ sg, fromWhole sg (wh ++ ((if fr = [] then [] else 46 :: fr) ++ (if hasExp = true then letter :: (es ++ ds) else []))) = ⟨sg, wh, fr, if hasExp = true then es ++ ds else [], true⟩ := by
    intro sg
    have hnd : ∀ c, ((if fr = [] then [] else 46 :: fr) ++ (if hasExp = true then letter :: (es ++ ds) else [])).head? = some c → isD c = false := by
      intro c hc
      by_cases h : fr = []
      · rw [if_pos h] at hc
        cases hasExp with
        | false => simp at hc
        | true =>
          simp at hc
          subst hc
          rcases hl with rfl | rfl <;> decide
      · rw [if_neg h] at hc
        simp at hc
        subst hc
        decide
    have ht := tk_all wh _ hw hnd
    rw [fromWhole, ht.1, ht.2, hb]
    simp only [Bool.false_eq_true, if_false]
    cases hasExp with
    | false => exact fromPoint_written sg wh fr false letter [] [] hl (.inl rfl) (by simp) (by simp) hf
    | true => exact fromPoint_written sg wh fr true letter es ds hl hs (hd rfl) hne hf
  unfold written
  cases neg with
  | true =>
    simp only [if_true, List.append_assoc, List.cons_append, List.nil_append]
    rw [splitL, if_pos rfl]
    exact key [45]
  | false =>
    simp only [Bool.false_eq_true, if_false, List.append_assoc, List.nil_append]
    cases wh with
    | nil => simp [badWhole] at hb
    | cons c wh =>
      have ⟨_, _, n1, _⟩ := dig_neg c (hw c (by simp))
      have := key []
      simp only [List.cons_append] at this ⊢
      rw [splitL, if_neg n1]
      exact this
end Go.Proofs.Qxb6000416a.Num
