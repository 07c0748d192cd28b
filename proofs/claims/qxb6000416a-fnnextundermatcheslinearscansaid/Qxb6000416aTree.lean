namespace Go.Proofs.Qxb6000416a.Tree

/-- 'pick' and '(*bandIndex).higher': of two slots (or -1) the one whose band ends higher, the earlier on a tie. -/
def pickI (H : Nat → Int) (a b : Int) : Int :=
  if a < 0 then b else if b < 0 then a else if H b.toNat < H a.toNat ∨ (H a.toNat = H b.toNat ∧ a < b) then a else b

/-- t is the valid slot of S whose band ends highest, the first on a tie, or -1 where none is valid. -/
def IsBest (H : Nat → Int) (V : Nat → Bool) (S : Nat → Prop) (t : Int) : Prop :=
  (t = -1 ∧ ∀ s, S s → V s = false) ∨ (∃ n : Nat, t = (n : Int) ∧ S n ∧ V n = true ∧ ∀ s, S s → V s = true → H s < H n ∨ (H s = H n ∧ n ≤ s))

/-- t is the first valid slot of S whose band reaches place, or -1. -/
def IsFirst (H : Nat → Int) (V : Nat → Bool) (place : Int) (S : Nat → Prop) (t : Int) : Prop :=
  (t = -1 ∧ ∀ s, S s → V s = true → H s < place) ∨ (∃ n : Nat, t = (n : Int) ∧ S n ∧ V n = true ∧ place ≤ H n ∧ ∀ s, S s → V s = true → place ≤ H s → n ≤ s)

variable {H : Nat → Int} {V : Nat → Bool} {S T : Nat → Prop} {a b t : Int}

theorem IsBest.congr (h : IsBest H V S t) (e : ∀ s, S s ↔ T s) : IsBest H V T t := by
  rcases h with ⟨h1, h2⟩ | ⟨n, h1, h2, h3, h4⟩
  · exact .inl ⟨h1, fun s hs => h2 s ((e s).2 hs)⟩
  · exact .inr ⟨n, h1, (e n).1 h2, h3, fun s hs => h4 s ((e s).2 hs)⟩

theorem IsFirst.congr {place : Int} (h : IsFirst H V place S t) (e : ∀ s, S s ↔ T s) : IsFirst H V place T t := by
  rcases h with ⟨h1, h2⟩ | ⟨n, h1, h2, h3, h5, h4⟩
  · exact .inl ⟨h1, fun s hs => h2 s ((e s).2 hs)⟩
  · exact .inr ⟨n, h1, (e n).1 h2, h3, h5, fun s hs => h4 s ((e s).2 hs)⟩

theorem IsBest.unique (h : IsBest H V S a) (g : IsBest H V S b) : a = b := by
  rcases h with ⟨h1, h2⟩ | ⟨n, h1, h2, h3, h4⟩
  · rcases g with ⟨g1, g2⟩ | ⟨m, g1, g2, g3, g4⟩
    · omega
    · have := h2 m g2; rw [g3] at this; simp at this
  · rcases g with ⟨g1, g2⟩ | ⟨m, g1, g2, g3, g4⟩
    · have := g2 n h2; rw [h3] at this; simp at this
    · have x1 := h4 m g2 g3
      have x2 := g4 n h2 h3
      omega

theorem IsFirst.unique {place : Int} (h : IsFirst H V place S a) (g : IsFirst H V place S b) : a = b := by
  rcases h with ⟨h1, h2⟩ | ⟨n, h1, h2, h3, h5, h4⟩
  · rcases g with ⟨g1, g2⟩ | ⟨m, g1, g2, g3, g5, g4⟩
    · omega
    · have := h2 m g2 g3; omega
  · rcases g with ⟨g1, g2⟩ | ⟨m, g1, g2, g3, g5, g4⟩
    · have := g2 n h2 h3; omega
    · have x1 := h4 m g2 g3 g5
      have x2 := g4 n h2 h3 h5
      omega

theorem IsBest.union (h : IsBest H V S a) (g : IsBest H V T b) : IsBest H V (fun s => S s ∨ T s) (pickI H a b) := by
  unfold pickI
  rcases h with ⟨h1, h2⟩ | ⟨n, h1, h2, h3, h4⟩
  · rw [if_pos (by omega)]
    rcases g with ⟨g1, g2⟩ | ⟨m, g1, g2, g3, g4⟩
    · exact .inl ⟨g1, fun s hs => hs.elim (h2 s) (g2 s)⟩
    · refine .inr ⟨m, g1, .inr g2, g3, fun s hs hv => ?_⟩
      rcases hs with hs | hs
      · have := h2 s hs; rw [hv] at this; simp at this
      · exact g4 s hs hv
  · rw [if_neg (by omega)]
    rcases g with ⟨g1, g2⟩ | ⟨m, g1, g2, g3, g4⟩
    · rw [if_pos (by omega)]
      refine .inr ⟨n, h1, .inl h2, h3, fun s hs hv => ?_⟩
      rcases hs with hs | hs
      · exact h4 s hs hv
      · have := g2 s hs; rw [hv] at this; simp at this
    · rw [if_neg (by omega)]
      subst h1 g1
      simp only [Int.toNat_natCast]
      by_cases hc : H m < H n ∨ (H n = H m ∧ (n : Int) < (m : Int))
      · rw [if_pos hc]
        refine .inr ⟨n, rfl, .inl h2, h3, fun s hs hv => ?_⟩
        rcases hs with hs | hs
        · exact h4 s hs hv
        · have := g4 s hs hv; omega
      · rw [if_neg hc]
        refine .inr ⟨m, rfl, .inr g2, g3, fun s hs hv => ?_⟩
        rcases hs with hs | hs
        · have := h4 s hs hv; omega
        · exact g4 s hs hv

theorem IsBest.bound (h : IsBest H V S t) (n : Nat) (hn : ∀ s, V s = true → s < n) : -1 ≤ t ∧ t < n := by
  rcases h with ⟨h1, h2⟩ | ⟨m, h1, h2, h3, h4⟩
  · omega
  · have := hn m h3; omega

theorem IsFirst.bound {place : Int} (h : IsFirst H V place S t) (n : Nat) (hn : ∀ s, V s = true → s < n) : -1 ≤ t ∧ t < n := by
  rcases h with ⟨h1, h2⟩ | ⟨m, h1, h2, h3, _⟩
  · omega
  · have := hn m h3; omega

theorem IsBest.empty (e : ∀ s, ¬ S s) : IsBest H V S (-1) := .inl ⟨rfl, fun s hs => absurd hs (e s)⟩

/-- One more slot. -/
theorem isBest_one (s : Nat) : IsBest H V (fun x => x = s) (if V s = true then (s : Int) else -1) := by
  by_cases h : V s = true
  · rw [if_pos h]
    exact .inr ⟨s, rfl, rfl, h, fun x hx _ => by subst hx; exact .inr ⟨rfl, Nat.le_refl _⟩⟩
  · rw [if_neg h]
    exact .inl ⟨rfl, fun x hx => by subst hx; simpa using h⟩

/-! ### the linear scan -/
theorem scan_keep {lo i : Nat} (h : IsBest H V (fun s => lo ≤ s ∧ s < i) t) (hv : V i = false ∨ (0 ≤ t ∧ H i ≤ H t.toNat)) : IsBest H V (fun s => lo ≤ s ∧ s < i + 1) t := by
  rcases h with ⟨h1, h2⟩ | ⟨n, h1, h2, h3, h4⟩
  · refine .inl ⟨h1, fun s hs => ?_⟩
    by_cases e : s = i
    · subst e
      rcases hv with hv | hv
      · exact hv
      · omega
    · exact h2 s ⟨hs.1, by omega⟩
  · refine .inr ⟨n, h1, ⟨h2.1, by omega⟩, h3, fun s hs hv' => ?_⟩
    by_cases e : s = i
    · subst e
      rcases hv with hv | hv
      · rw [hv'] at hv; simp at hv
      · subst h1; simp at hv; omega
    · exact h4 s ⟨hs.1, by omega⟩ hv'

theorem scan_take {lo i : Nat} (h : IsBest H V (fun s => lo ≤ s ∧ s < i) t) (hlo : lo ≤ i) (hv : V i = true) (ht : t < 0 ∨ H t.toNat < H i) : IsBest H V (fun s => lo ≤ s ∧ s < i + 1) (i : Int) := by
  refine .inr ⟨i, rfl, ⟨hlo, by omega⟩, hv, fun s hs hv' => ?_⟩
  rcases h with ⟨h1, h2⟩ | ⟨n, h1, h2, h3, h4⟩
  · by_cases e : s = i
    · subst e; exact .inr ⟨rfl, Nat.le_refl _⟩
    · have := h2 s ⟨hs.1, by omega⟩; rw [hv'] at this; simp at this
  · by_cases e : s = i
    · subst e; exact .inr ⟨rfl, Nat.le_refl _⟩
    · have := h4 s ⟨hs.1, by omega⟩ hv'
      subst h1; simp at ht; omega

theorem first_keep {place from_ to_ : Int} {i : Nat} (h : IsFirst H V place (fun s => s < i ∧ from_ ≤ (s : Int) ∧ (s : Int) < to_) (-1)) (hv : V i = false ∨ H i < place ∨ (i : Int) < from_ ∨ to_ ≤ (i : Int)) :
    IsFirst H V place (fun s => s < i + 1 ∧ from_ ≤ (s : Int) ∧ (s : Int) < to_) (-1) := by
  rcases h with ⟨_, h2⟩ | ⟨n, h1, _⟩
  · refine .inl ⟨rfl, fun s hs hv' => ?_⟩
    by_cases e : s = i
    · subst e
      rcases hv with hv | hv | hv | hv
      · rw [hv'] at hv; simp at hv
      · exact hv
      · omega
      · omega
    · exact h2 s ⟨by omega, hs.2⟩ hv'
  · omega

theorem first_take {place from_ to_ : Int} {i n : Nat} (h : IsFirst H V place (fun s => s < i ∧ from_ ≤ (s : Int) ∧ (s : Int) < to_) (-1)) (hn : i < n) (h1 : from_ ≤ (i : Int)) (h2 : (i : Int) < to_) (hv : V i = true) (hp : place ≤ H i) :
    IsFirst H V place (fun s => s < n ∧ from_ ≤ (s : Int) ∧ (s : Int) < to_) (i : Int) := by
  refine .inr ⟨i, rfl, ⟨hn, h1, h2⟩, hv, hp, fun s hs hv' hp' => ?_⟩
  rcases h with ⟨_, g⟩ | ⟨m, g1, _⟩
  · by_cases e : i ≤ s
    · exact e
    · have := g s ⟨by omega, hs.2⟩ hv'; omega
  · omega

/-! ### the tree -/
/-- N: the nodes over 2^k leaves: slot s's leaf at 2^k + s; each inner node the better of its children. -/
def IsTree (H : Nat → Int) (V : Nat → Bool) (k : Nat) (N : Nat → Int) : Prop :=
  (∀ s, s < 2 ^ k → N (2 ^ k + s) = if V s = true then (s : Int) else -1) ∧ ∀ i, 1 ≤ i → i < 2 ^ k → N i = pickI H (N (2 * i)) (N (2 * i + 1))

/-- The slots under node i, d levels above the leaves. -/
def Under (k d i : Nat) (s : Nat) : Prop := i * 2 ^ d ≤ 2 ^ k + s ∧ 2 ^ k + s < (i + 1) * 2 ^ d

theorem pow_pos2 (d : Nat) : 1 ≤ 2 ^ d := Nat.one_le_two_pow

theorem mul_two_pow (i d : Nat) : i * 2 ^ (d + 1) = (2 * i) * 2 ^ d := by
  rw [Nat.pow_succ, Nat.mul_comm (2 ^ d) 2, ← Nat.mul_assoc, Nat.mul_comm i 2]

theorem two_step (i d : Nat) : (2 * i + 1) * 2 ^ d = (2 * i) * 2 ^ d + 2 ^ d ∧ (2 * i + 1 + 1) * 2 ^ d = (2 * i) * 2 ^ d + 2 ^ d + 2 ^ d := by
  constructor
  · rw [Nat.add_mul, Nat.one_mul]
  · rw [Nat.add_mul, Nat.add_mul, Nat.one_mul]

theorem inner_lt {k d i : Nat} (h : i * 2 ^ (d + 1) < 2 * 2 ^ k) : i < 2 ^ k := by
  have h1 : i * 2 ^ (d + 1) = 2 * (i * 2 ^ d) := by rw [Nat.pow_succ]; rw [← Nat.mul_assoc]; omega
  have h2 : i ≤ i * 2 ^ d := Nat.le_mul_of_pos_right i (pow_pos2 d)
  omega

theorem node_pos {k d i : Nat} (h : 2 ^ k ≤ i * 2 ^ d) : 1 ≤ i := by
  rcases Nat.eq_zero_or_pos i with rfl | hi
  · have := pow_pos2 k; omega
  · exact hi

theorem node_lt {k d i : Nat} (h : i * 2 ^ d < 2 * 2 ^ k) : i < 2 * 2 ^ k := by
  have h2 : i ≤ i * 2 ^ d := Nat.le_mul_of_pos_right i (pow_pos2 d)
  omega

theorem under_split (k d i : Nat) (s : Nat) : (Under k d (2 * i) s ∨ Under k d (2 * i + 1) s) ↔ Under k (d + 1) i s := by
  unfold Under
  have e1 := mul_two_pow i d
  have e2 := mul_two_pow (i + 1) d
  have e3 := two_step i d
  have e4 : (2 * (i + 1)) * 2 ^ d = (2 * i) * 2 ^ d + 2 ^ d + 2 ^ d := by
    have : 2 * (i + 1) = 2 * i + 1 + 1 := by omega
    rw [this]; exact e3.2
  omega

theorem child_bounds {k d i : Nat} (h1 : 2 ^ k ≤ i * 2 ^ (d + 1)) (h2 : i * 2 ^ (d + 1) < 2 * 2 ^ k) :
    2 ^ k ≤ (2 * i) * 2 ^ d ∧ (2 * i) * 2 ^ d < 2 * 2 ^ k ∧ 2 ^ k ≤ (2 * i + 1) * 2 ^ d ∧ (2 * i + 1) * 2 ^ d < 2 * 2 ^ k := by
  have e1 := mul_two_pow i d
  have e3 := two_step i d
  have hp := pow_pos2 d
  refine ⟨by omega, by omega, by omega, ?_⟩
  -- i * 2^(d+1) is a multiple of 2^(d+1) below 2^(k+1)
  by_cases hd : d + 1 ≤ k + 1
  · have hm : 2 * 2 ^ k = 2 ^ (k - d) * 2 ^ (d + 1) := by
      rw [← Nat.pow_add, show k - d + (d + 1) = k + 1 from by omega, Nat.pow_succ]; omega
    have hi : i < 2 ^ (k - d) := by
      rw [hm] at h2
      exact Nat.lt_of_mul_lt_mul_right h2
    have h5 : (i + 1) * 2 ^ (d + 1) ≤ 2 ^ (k - d) * 2 ^ (d + 1) := Nat.mul_le_mul_right _ hi
    have e2 := mul_two_pow (i + 1) d
    have e4 : (2 * (i + 1)) * 2 ^ d = (2 * i) * 2 ^ d + 2 ^ d + 2 ^ d := by
      have : 2 * (i + 1) = 2 * i + 1 + 1 := by omega
      rw [this]; exact e3.2
    omega
  · have h6 : 2 ^ (k + 1) ≤ 2 ^ (d + 1) := Nat.pow_le_pow_right (by omega) (by omega)
    have h7 : 2 ^ (k + 1) = 2 * 2 ^ k := by rw [Nat.pow_succ]; omega
    have hi := node_pos h1
    have h8 : 2 ^ (d + 1) ≤ i * 2 ^ (d + 1) := Nat.le_mul_of_pos_left _ hi
    omega

theorem node_best {k : Nat} {N : Nat → Int} (hT : IsTree H V k N) : ∀ (d i : Nat), 2 ^ k ≤ i * 2 ^ d → i * 2 ^ d < 2 * 2 ^ k → IsBest H V (Under k d i) (N i) := by
  intro d
  induction d with
  | zero =>
    intro i h1 h2
    simp only [Nat.pow_zero, Nat.mul_one] at h1 h2
    have e : i = 2 ^ k + (i - 2 ^ k) := by omega
    have := hT.1 (i - 2 ^ k) (by omega)
    rw [← e] at this
    rw [this]
    refine (isBest_one (i - 2 ^ k)).congr fun s => ?_
    unfold Under
    simp only [Nat.pow_zero, Nat.mul_one]
    omega
  | succ d ih =>
    intro i h1 h2
    have ⟨c1, c2, c3, c4⟩ := child_bounds h1 h2
    rw [hT.2 i (node_pos h1) (inner_lt h2)]
    exact ((ih (2 * i) c1 c2).union (ih (2 * i + 1) c3 c4)).congr (under_split k d i)

/-! ### highest's loop -/
/-- What 'best' is good for at a round's head: the best of what lies outside [l, r) at level d. -/
def HiInv (H : Nat → Int) (V : Nat → Bool) (k : Nat) (lo hi : Nat) (d l r : Nat) (best : Int) : Prop :=
  2 ^ k + lo ≤ l * 2 ^ d ∧ r * 2 ^ d ≤ 2 ^ k + hi ∧ IsBest H V (fun s => lo ≤ s ∧ s < hi ∧ (2 ^ k + s < l * 2 ^ d ∨ r * 2 ^ d ≤ 2 ^ k + s)) best

theorem hi_start {k lo hi : Nat} : HiInv H V k lo hi 0 (2 ^ k + lo) (2 ^ k + hi) (-1) := by
  refine ⟨by simp, by simp, IsBest.empty fun s => ?_⟩
  simp only [Nat.pow_zero, Nat.mul_one]
  omega

theorem hi_end {k lo hi d l r : Nat} {best : Int} (h : HiInv H V k lo hi d l r best) (hlr : r ≤ l) : IsBest H V (fun s => lo ≤ s ∧ s < hi) best := by
  obtain ⟨h1, h2, h3⟩ := h
  refine h3.congr fun s => ?_
  have := Nat.mul_le_mul_right (2 ^ d) hlr
  omega

theorem hi_left {k lo hi d l r : Nat} {best : Int} {N : Nat → Int} (hT : IsTree H V k N) (h : HiInv H V k lo hi d l r best) (hlr : l < r) (hhi : hi ≤ 2 ^ k) :
    HiInv H V k lo hi d (l + 1) r (pickI H best (N l)) := by
  obtain ⟨h1, h2, h3⟩ := h
  have e := Nat.mul_le_mul_right (2 ^ d) (show l + 1 ≤ r from hlr)
  have e2 : (l + 1) * 2 ^ d = l * 2 ^ d + 2 ^ d := by rw [Nat.add_mul, Nat.one_mul]
  have hp := pow_pos2 d
  have hb := node_best hT d l (by omega) (by omega)
  refine ⟨by omega, h2, (h3.union hb).congr fun s => ?_⟩
  unfold Under
  omega

theorem hi_right {k lo hi d l r : Nat} {best : Int} {N : Nat → Int} (hT : IsTree H V k N) (h : HiInv H V k lo hi d l r best) (hlr : l < r) (hhi : hi ≤ 2 ^ k) :
    HiInv H V k lo hi d l (r - 1) (pickI H best (N (r - 1))) := by
  obtain ⟨h1, h2, h3⟩ := h
  have e := Nat.mul_le_mul_right (2 ^ d) (show l ≤ r - 1 from by omega)
  have e2 : r * 2 ^ d = (r - 1) * 2 ^ d + 2 ^ d := by
    have : r = (r - 1) + 1 := by omega
    rw [this, Nat.add_mul, Nat.one_mul]; simp
  have hp := pow_pos2 d
  have hb := node_best hT d (r - 1) (by omega) (by omega)
  refine ⟨h1, by omega, (h3.union hb).congr fun s => ?_⟩
  unfold Under
  have e3 : (r - 1 + 1) * 2 ^ d = (r - 1) * 2 ^ d + 2 ^ d := by rw [Nat.add_mul, Nat.one_mul]
  omega

theorem hi_up {k lo hi d l r : Nat} {best : Int} (h : HiInv H V k lo hi d l r best) (hl : l % 2 = 0) (hr : r % 2 = 0) : HiInv H V k lo hi (d + 1) (l / 2) (r / 2) best := by
  unfold HiInv at *
  rw [mul_two_pow (l / 2) d, mul_two_pow (r / 2) d, show 2 * (l / 2) = l from by omega, show 2 * (r / 2) = r from by omega]
  exact h

theorem hi_bounds {k lo hi d l r : Nat} {best : Int} (h : HiInv H V k lo hi d l r best) (hlr : l < r) (hhi : hi ≤ 2 ^ k) : 1 ≤ l ∧ l < 2 * 2 ^ k ∧ r ≤ 2 * 2 ^ k := by
  obtain ⟨h1, h2, h3⟩ := h
  have a := node_pos (k := k) (d := d) (i := l) (by omega)
  have hr : r ≤ r * 2 ^ d := Nat.le_mul_of_pos_right r (pow_pos2 d)
  omega

/-! ### nextUnder -/
/-- The slots under node i that lie in [from, to). -/
def Asked (k d i : Nat) (from_ to_ : Int) (s : Nat) : Prop := Under k d i s ∧ from_ ≤ (s : Int) ∧ (s : Int) < to_

theorem nu_none {k d i : Nat} {N : Nat → Int} {from_ to_ place : Int} (hb : IsBest H V (Under k d i) (N i))
    (h : N i < 0 ∨ ((i + 1) * 2 ^ d : Nat) - ((2 ^ k : Nat) : Int) ≤ from_ ∨ to_ ≤ ((i * 2 ^ d : Nat) : Int) - ((2 ^ k : Nat) : Int) ∨ H (N i).toNat < place) :
    IsFirst H V place (Asked k d i from_ to_) (-1) := by
  refine .inl ⟨rfl, fun s hs hv => ?_⟩
  obtain ⟨⟨u1, u2⟩, f1, f2⟩ := hs
  rcases h with h | h | h | h
  · rcases hb with ⟨b1, b2⟩ | ⟨n, b1, _⟩
    · have := b2 s ⟨u1, u2⟩; rw [hv] at this; simp at this
    · omega
  · omega
  · omega
  · rcases hb with ⟨b1, b2⟩ | ⟨n, b1, b2, b3, b4⟩
    · have := b2 s ⟨u1, u2⟩; rw [hv] at this; simp at this
    · rw [b1] at h
      simp at h
      have := b4 s ⟨u1, u2⟩ hv
      omega

theorem nu_leaf {k i : Nat} {N : Nat → Int} {from_ to_ place : Int} (hb : IsBest H V (Under k 0 i) (N i))
    (h0 : 0 ≤ N i) (h1 : from_ < ((i + 1 : Nat) : Int) - ((2 ^ k : Nat) : Int)) (h2 : ((i : Nat) : Int) - ((2 ^ k : Nat) : Int) < to_) (h3 : place ≤ H (N i).toNat) :
    IsFirst H V place (Asked k 0 i from_ to_) (N i) := by
  rcases hb with ⟨b1, b2⟩ | ⟨n, b1, b2, b3, b4⟩
  · omega
  · rw [b1] at h3 ⊢
    simp at h3
    have hu := b2
    unfold Under at b2
    simp only [Nat.pow_zero, Nat.mul_one] at b2
    refine .inr ⟨n, rfl, ⟨hu, by omega, by omega⟩, b3, h3, fun s hs _ _ => ?_⟩
    have hs1 := hs.1
    unfold Under at hs1
    simp only [Nat.pow_zero, Nat.mul_one] at hs1
    omega

theorem asked_split (k d i : Nat) (from_ to_ : Int) (s : Nat) : Asked k (d + 1) i from_ to_ s ↔ (Asked k d (2 * i) from_ to_ s ∨ Asked k d (2 * i + 1) from_ to_ s) := by
  unfold Asked
  rw [← under_split]
  constructor
  · rintro ⟨h | h, g⟩
    · exact .inl ⟨h, g⟩
    · exact .inr ⟨h, g⟩
  · rintro (⟨h, g⟩ | ⟨h, g⟩)
    · exact ⟨.inl h, g⟩
    · exact ⟨.inr h, g⟩

theorem nu_left {k d i : Nat} {from_ to_ place t : Int} (hl : IsFirst H V place (Asked k d (2 * i) from_ to_) t) (h0 : 0 ≤ t) : IsFirst H V place (Asked k (d + 1) i from_ to_) t := by
  rcases hl with ⟨b1, b2⟩ | ⟨n, b1, b2, b3, b5, b4⟩
  · omega
  · refine .inr ⟨n, b1, (asked_split ..).2 (.inl b2), b3, b5, fun s hs hv hp => ?_⟩
    rcases (asked_split ..).1 hs with hs | hs
    · exact b4 s hs hv hp
    · have x1 := b2.1
      have x2 := hs.1
      unfold Under at x1 x2
      omega

theorem nu_right {k d i : Nat} {from_ to_ place t u : Int} (hl : IsFirst H V place (Asked k d (2 * i) from_ to_) u) (h0 : u < 0) (hr : IsFirst H V place (Asked k d (2 * i + 1) from_ to_) t) :
    IsFirst H V place (Asked k (d + 1) i from_ to_) t := by
  rcases hl with ⟨b1, b2⟩ | ⟨n, b1, _⟩
  · rcases hr with ⟨c1, c2⟩ | ⟨m, c1, c2, c3, c5, c4⟩
    · refine .inl ⟨c1, fun s hs hv => ?_⟩
      rcases (asked_split ..).1 hs with hs | hs
      · exact b2 s hs hv
      · exact c2 s hs hv
    · refine .inr ⟨m, c1, (asked_split ..).2 (.inr c2), c3, c5, fun s hs hv hp => ?_⟩
      rcases (asked_split ..).1 hs with hs | hs
      · have := b2 s hs hv; omega
      · exact c4 s hs hv hp
  · omega

/-- At the root: every slot that can be valid. -/
theorem root_first {k n : Nat} {from_ to_ place t : Int} (hn : n ≤ 2 ^ k) (hV : ∀ s, V s = true → s < n) (h : IsFirst H V place (Asked k k 1 from_ to_) t) :
    IsFirst H V place (fun s => s < n ∧ from_ ≤ (s : Int) ∧ (s : Int) < to_) t := by
  have hu : ∀ s, s < n → Under k k 1 s := by
    intro s hs
    unfold Under
    omega
  rcases h with ⟨h1, h2⟩ | ⟨m, h1, h2, h3, h5, h4⟩
  · exact .inl ⟨h1, fun s hs hv => h2 s ⟨hu s hs.1, hs.2⟩ hv⟩
  · exact .inr ⟨m, h1, ⟨hV m h3, h2.2⟩, h3, h5, fun s hs hv hp => h4 s ⟨hu s hs.1, hs.2⟩ hv hp⟩

/-! ### nextUnder agrees with highest -/
theorem agree_none {place g h : Int} {n lo hi : Nat} (hb : IsBest H V (fun s => lo ≤ s ∧ s < hi) h)
    (hf : IsFirst H V place (fun s => s < n ∧ (lo : Int) ≤ (s : Int) ∧ (s : Int) < (hi : Int)) g) (h0 : h < 0 ∨ H h.toNat < place) : g = -1 := by
  rcases hf with ⟨f1, _⟩ | ⟨m, f1, f2, f3, f5, f4⟩
  · exact f1
  · rcases hb with ⟨b1, b2⟩ | ⟨x, b1, b2, b3, b4⟩
    · have := b2 m ⟨by omega, by omega⟩; rw [f3] at this; simp at this
    · have := b4 m ⟨by omega, by omega⟩ f3
      subst b1; simp at h0; omega

theorem agree_some {place g h : Int} {n lo hi : Nat} (hb : IsBest H V (fun s => lo ≤ s ∧ s < hi) h) (hn : hi ≤ n)
    (hf : IsFirst H V place (fun s => s < n ∧ (lo : Int) ≤ (s : Int) ∧ (s : Int) < (hi : Int)) g) (h0 : 0 ≤ h) (hp : place ≤ H h.toNat) : (lo : Int) ≤ g ∧ g ≤ h := by
  rcases hb with ⟨b1, b2⟩ | ⟨x, b1, b2, b3, b4⟩
  · omega
  · subst b1
    simp at hp
    rcases hf with ⟨f1, f2⟩ | ⟨m, f1, f2, f3, f5, f4⟩
    · have := f2 x ⟨by omega, by omega, by omega⟩ b3; omega
    · have := f4 x ⟨by omega, by omega, by omega⟩ b3 hp
      omega

theorem agree_top {g h : Int} {n lo hi : Nat} (hb : IsBest H V (fun s => lo ≤ s ∧ s < hi) h) (hn : hi ≤ n)
    (hf : IsFirst H V (H h.toNat) (fun s => s < n ∧ (lo : Int) ≤ (s : Int) ∧ (s : Int) < (hi : Int)) g) (h0 : 0 ≤ h) : g = h := by
  rcases hb with ⟨b1, b2⟩ | ⟨x, b1, b2, b3, b4⟩
  · omega
  · subst b1
    simp only [Int.toNat_natCast] at hf
    rcases hf with ⟨f1, f2⟩ | ⟨m, f1, f2, f3, f5, f4⟩
    · have := f2 x ⟨by omega, by omega, by omega⟩ b3; omega
    · have y1 := f4 x ⟨by omega, by omega, by omega⟩ b3 (by omega)
      have y2 := b4 m ⟨by omega, by omega⟩ f3
      omega
end Go.Proofs.Qxb6000416a.Tree
