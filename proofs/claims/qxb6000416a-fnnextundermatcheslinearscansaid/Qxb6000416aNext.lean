import Derived.Test.Qxb6000416aHigh
namespace Go.Proofs.Qxb6000416a
open Go.RowKit Tree

/-- What nextUnder hands back. -/
def NextEnd (H : Nat → Int) (V : Nat → Bool) (place : Int) (S : Nat → Prop) (w : World) (e : Ending) (w' : World) : Prop :=
  ∃ t : Int, e = .returned (.int .i64 t) ∧ IsFirst H V place S t ∧ w' = w

/-- nextUnder at level d does what it should. -/
def NextOK (p : Nat) (H : Nat → Int) (V : Nat → Bool) (k : Nat) (f t pl : Int) (w : World) (d : Nat) : Prop :=
  ∀ (i lo hi : Nat) (ai al ah : Int), ai = i → al = lo → ah = hi → lo + 2 ^ k = i * 2 ^ d → hi + 2 ^ k = (i + 1) * 2 ^ d → lo < 2 ^ k →
    Calls Try.prog 29 #[.pointer (some ⟨p, 0, none⟩), .int .i64 ai, .int .i64 al, .int .i64 ah, .int .i64 f, .int .i64 t, .int .i64 pl] w fun e w' => NextEnd H V pl (Asked k d i f t) w e w'

theorem next_none {H : Nat → Int} {V : Nat → Bool} {k d i lo hi : Nat} {N : Nat → Int} {f t pl : Int} (hT : IsTree H V k N) (h1 : lo + 2 ^ k = i * 2 ^ d) (h2 : hi + 2 ^ k = (i + 1) * 2 ^ d) (h3 : lo < 2 ^ k)
    (h : N i < 0 ∨ (hi : Int) ≤ f ∨ t ≤ (lo : Int) ∨ H (N i).toNat < pl) : IsFirst H V pl (Asked k d i f t) (-1) := by
  refine nu_none (node_best hT d i (by omega) (by omega)) ?_
  have e1 : (((i + 1) * 2 ^ d : Nat) : Int) - ((2 ^ k : Nat) : Int) = (hi : Int) := by rw [← h2]; omega
  have e2 : ((i * 2 ^ d : Nat) : Int) - ((2 ^ k : Nat) : Int) = (lo : Int) := by rw [← h1]; omega
  rw [e1, e2]
  exact h
theorem next_leaf {H : Nat → Int} {V : Nat → Bool} {k i lo hi : Nat} {N : Nat → Int} {f t pl : Int} (hT : IsTree H V k N) (h1 : lo + 2 ^ k = i * 2 ^ 0) (h2 : hi + 2 ^ k = (i + 1) * 2 ^ 0) (h3 : lo < 2 ^ k)
    (g0 : 0 ≤ N i) (g1 : f < (hi : Int)) (g2 : (lo : Int) < t) (g3 : pl ≤ H (N i).toNat) : IsFirst H V pl (Asked k 0 i f t) (N i) := by
  simp only [Nat.pow_zero, Nat.mul_one] at h1 h2
  exact nu_leaf (node_best hT 0 i (by simp; omega) (by simp; omega)) g0 (by omega) (by omega) g3

set_option maxRecDepth 20000 in
set_option maxHeartbeats 4000000 in
/-- The ways on which there is none. -/
theorem next_early (p : Nat) (ao : Option Addr) (n c : Nat) (H : Nat → Int) (V : Nat → Bool) (g k L : Nat) (N : Nat → Int) (f t pl : Int) (w : World) (h : Band w p ao n c H g L N)
    (d i lo hi : Nat) (hi2 : i < 2 * L) (hNi : N i < n) (HE : Hid (IsFirst H V pl (Asked k d i f t) (-1)))
    (hc : N i < 0 ∨ (hi : Int) ≤ f ∨ t ≤ (lo : Int) ∨ H (N i).toNat < pl) :
    Calls Try.prog 29 #[.pointer (some ⟨p, 0, none⟩), .int .i64 i, .int .i64 lo, .int .i64 hi, .int .i64 f, .int .i64 t, .int .i64 pl] w fun e w' => NextEnd H V pl (Asked k d i f t) w e w' := by
  have x1 := h.nodes i hi2
  have f6 := h.top
  have f7 := h.leaves
  have f3 := h.high
  have z1 : (i : Int) < 2 * (L : Int) := by omega
  have HA : Hid (At w ao n (fun j => .int .i64 (H j))) := h.ints
  have HC : Hid (N i < 0 ∨ (hi : Int) ≤ f ∨ t ≤ (lo : Int) ∨ H (N i).toNat < pl) := hc
  clear h hc
  by_cases c1 : N i < 0
  · go_enter Try.func29, Try.ntmps29
    go_wp2_with fail
    go_ret
    exact ⟨_, rfl, HE.out, rfl⟩
  by_cases c2 : (hi : Int) ≤ f
  · go_enter Try.func29, Try.ntmps29
    go_wp2_with fail
    go_ret
    exact ⟨_, rfl, HE.out, rfl⟩
  by_cases c3 : t ≤ (lo : Int)
  · go_enter Try.func29, Try.ntmps29
    go_wp2_with fail
    go_ret
    exact ⟨_, rfl, HE.out, rfl⟩
  obtain ⟨x, hx⟩ : ∃ x : Nat, N i = x := ⟨(N i).toNat, by omega⟩
  obtain ⟨b, off, rfl, hbs, hcell⟩ := HA.out (by omega)
  have x2 := hcell x (by omega)
  have z2 : (x : Int) < (n : Int) := by omega
  have c4 : H x < pl := by
    rcases HC.out with q | q | q | q
    · omega
    · omega
    · omega
    · rw [hx] at q; simpa using q
  clear hcell HA
  go_enter Try.func29, Try.ntmps29
  go_wp2_with fail
  go_ret
  exact ⟨_, rfl, HE.out, rfl⟩

theorem mid_facts {k d i lo hi : Nat} (h1 : lo + 2 ^ k = i * 2 ^ (d + 1)) (h2 : hi + 2 ^ k = (i + 1) * 2 ^ (d + 1)) (h3 : lo < 2 ^ k) :
    lo + 2 ^ k = 2 * i * 2 ^ d ∧ (lo + hi) / 2 + 2 ^ k = (2 * i + 1) * 2 ^ d ∧ hi + 2 ^ k = (2 * i + 1 + 1) * 2 ^ d ∧ (lo + hi) / 2 < 2 ^ k ∧ 1 ≤ i ∧ i < 2 ^ k := by
  have e1 := mul_two_pow i d
  have e2 := mul_two_pow (i + 1) d
  have e3 := two_step i d
  have e4 : (2 * (i + 1)) * 2 ^ d = (2 * i + 1 + 1) * 2 ^ d := by rw [show 2 * (i + 1) = 2 * i + 1 + 1 from by omega]
  have hc := child_bounds (k := k) (d := d) (i := i) (by omega) (by omega)
  have hi1 := node_pos (k := k) (d := d + 1) (i := i) (by omega)
  have hi2 := inner_lt (k := k) (d := d) (i := i) (by omega)
  refine ⟨by omega, by omega, by omega, by omega, hi1, hi2⟩

set_option maxRecDepth 20000 in
set_option maxHeartbeats 4000000 in
theorem next_any (p : Nat) (ao : Option Addr) (n c : Nat) (H : Nat → Int) (V : Nat → Bool) (g k L : Nat) (N : Nat → Int) (f t pl : Int) (w : World) (h : Band w p ao n c H g L N)
    (hL : L = 2 ^ k) (hL2 : L ≤ 131072) (hT : IsTree H V k N) (hN : ∀ j, -1 ≤ N j ∧ N j < n) (d : Nat) : NextOK p H V k f t pl w d := by
  induction d with
  | zero =>
    intro i lo hi ai al ah ei el eh h1 h2 h3
    subst ei el eh
    have hiL : L ≤ i := by simp only [Nat.pow_zero, Nat.mul_one] at h1; omega
    have hi2 : i < 2 * L := by simp only [Nat.pow_zero, Nat.mul_one] at h1; omega
    have hNi := (hN i).2
    by_cases hc : N i < 0 ∨ (hi : Int) ≤ f ∨ t ≤ (lo : Int) ∨ H (N i).toNat < pl
    · exact next_early p ao n c H V g k L N f t pl w h 0 i lo hi hi2 hNi (next_none hT h1 h2 h3 hc) hc
    have c1 : ¬ N i < 0 := fun q => hc (.inl q)
    have c2 : ¬ (hi : Int) ≤ f := fun q => hc (.inr (.inl q))
    have c3 : ¬ t ≤ (lo : Int) := fun q => hc (.inr (.inr (.inl q)))
    have c4 : ¬ H (N i).toNat < pl := fun q => hc (.inr (.inr (.inr q)))
    have HE : Hid (IsFirst H V pl (Asked k 0 i f t) (N i)) := next_leaf hT h1 h2 h3 (by omega) (by omega) (by omega) (by omega)
    have x1 := h.nodes i hi2
    have f6 := h.top
    have f7 := h.leaves
    have f3 := h.high
    have z1 : (i : Int) < 2 * (L : Int) := by omega
    obtain ⟨x, hx⟩ : ∃ x : Nat, N i = x := ⟨(N i).toNat, by omega⟩
    obtain ⟨b, off, rfl, hbs, hcell⟩ := h.ints (by omega)
    have x2 := hcell x (by omega)
    have z2 : (x : Int) < (n : Int) := by omega
    rw [hx] at HE c4
    simp only [Int.toNat_natCast] at c4
    clear hT h1 h2 h3 hL hN h hcell hc
    go_enter Try.func29, Try.ntmps29
    go_wp2_with fail
    go_ret
    exact ⟨_, rfl, HE.out, rfl⟩
  | succ d ih =>
    intro i lo hi ai al ah ei el eh h1 h2 h3
    subst ei el eh
    obtain ⟨m1, m2, m3, m4, hi1, hiL⟩ := mid_facts h1 h2 h3
    rw [← hL] at hiL
    have hi2 : i < 2 * L := by omega
    have hNi := (hN i).2
    by_cases hc : N i < 0 ∨ (hi : Int) ≤ f ∨ t ≤ (lo : Int) ∨ H (N i).toNat < pl
    · exact next_early p ao n c H V g k L N f t pl w h (d + 1) i lo hi hi2 hNi (next_none hT h1 h2 h3 hc) hc
    have c1 : ¬ N i < 0 := fun q => hc (.inl q)
    have c2 : ¬ (hi : Int) ≤ f := fun q => hc (.inr (.inl q))
    have c3 : ¬ t ≤ (lo : Int) := fun q => hc (.inr (.inr (.inl q)))
    have c4 : ¬ H (N i).toNat < pl := fun q => hc (.inr (.inr (.inr q)))
    have hloB : lo ≤ 131072 := by omega
    have hhiB : hi ≤ 400000 := by omega
    have IL := ih (2 * i) lo ((lo + hi) / 2) _ _ _ rfl rfl rfl m1 m2 h3
    have IR := ih (2 * i + 1) ((lo + hi) / 2) hi _ _ _ rfl rfl rfl m2 m3 m4
    have x1 := h.nodes i hi2
    have f6 := h.top
    have f7 := h.leaves
    have f3 := h.high
    have z1 : (i : Int) < 2 * (L : Int) := by omega
    obtain ⟨x, hx⟩ : ∃ x : Nat, N i = x := ⟨(N i).toNat, by omega⟩
    obtain ⟨b, off, rfl, hbs, hcell⟩ := h.ints (by omega)
    have x2 := hcell x (by omega)
    have z2 : (x : Int) < (n : Int) := by omega
    rw [hx] at c4
    simp only [Int.toNat_natCast] at c4
    have HIL : Hid (Calls Try.prog 29 #[.pointer (some ⟨p, 0, none⟩), .int .i64 (2 * (i : Int)), .int .i64 lo, .int .i64 (((lo : Int) + (hi : Int)) / 2), .int .i64 f, .int .i64 t, .int .i64 pl] w fun e w' => NextEnd H V pl (Asked k d (2 * i) f t) w e w') := by
      unfold Hid
      have e1 : ((2 * i : Nat) : Int) = 2 * (i : Int) := by omega
      have e2 : (((lo + hi) / 2 : Nat) : Int) = ((lo : Int) + (hi : Int)) / 2 := by omega
      rw [← e1, ← e2]; exact IL
    have HIR : Hid (Calls Try.prog 29 #[.pointer (some ⟨p, 0, none⟩), .int .i64 (2 * (i : Int) + 1), .int .i64 (((lo : Int) + (hi : Int)) / 2), .int .i64 hi, .int .i64 f, .int .i64 t, .int .i64 pl] w fun e w' => NextEnd H V pl (Asked k d (2 * i + 1) f t) w e w') := by
      unfold Hid
      have e1 : ((2 * i + 1 : Nat) : Int) = 2 * (i : Int) + 1 := by omega
      have e2 : (((lo + hi) / 2 : Nat) : Int) = ((lo : Int) + (hi : Int)) / 2 := by omega
      rw [← e1, ← e2]; exact IR
    clear hT h1 h2 h3 hL hN h hcell hc ih IL IR m1 m2 m3 m4
    go_enter Try.func29, Try.ntmps29
    go_wp2_with fail
    refine HIL.out.mono ?_
    rintro e w1 ⟨u, rfl, hu, hw1⟩
    obtain rfl := hw1.symm
    have HU : Hid (IsFirst H V pl (Asked k d (2 * i) f t) u) := hu
    clear hu hw1
    by_cases hu0 : 0 ≤ u
    · go_wp2_with fail
      go_ret
      exact ⟨u, rfl, nu_left HU.out hu0, rfl⟩
    · go_wp2_with fail
      refine HIR.out.mono ?_
      rintro e w1 ⟨v, rfl, hv, hw1⟩
      obtain rfl := hw1.symm
      have HV : Hid (IsFirst H V pl (Asked k d (2 * i + 1) f t) v) := hv
      clear hv hw1
      go_wp2_with fail
      go_ret
      exact ⟨v, rfl, nu_right HU.out (by omega) HV.out, rfl⟩

/-- The parts that a law hands over: the slots' ends, the tree. -/
structure Parts (w : World) (ao : Option Addr) (n : Nat) (H : Nat → Int) (g L : Nat) (N : Nat → Int) : Prop where
  ints : At w ao n (fun j => .int .i64 (H j))
  block : g < w.heap.size
  nodes : ∀ j, j < 2 * L → w.cell? ⟨g, j, none⟩ = some (.int .i64 (N j))

theorem Parts.below {w w' : World} {ao : Option Addr} {n : Nat} {H : Nat → Int} {g L : Nat} {N : Nat → Int} (h : Parts w ao n H g L N) (hb : Below w.heap.size w w') : Parts w' ao n H g L N :=
  ⟨h.ints.below hb, by have := hb.size; have := h.block; omega, fun j hj => (hb.cell (p := ⟨g, j, none⟩) h.block).trans (h.nodes j hj)⟩

theorem band_new {w : World} {ao : Option Addr} {n c : Nat} {H : Nat → Int} {g L : Nat} {N : Nat → Int} {u0 u1 u2 u4 u5 : Value} (h : Parts w ao n H g L N) :
    Band (w.alloc (.cells #[u0, u1, u2, .slice ao n c, u4, u5, .slice (some ⟨g, 0, none⟩) (2 * L) (2 * L), .int .i64 L] 41)) w.heap.size ao n c H g L N := by
  have hp := h.below ((Below.refl w.heap.size w).alloc (Nat.le_refl _) (.cells #[u0, u1, u2, .slice ao n c, u4, u5, .slice (some ⟨g, 0, none⟩) (2 * L) (2 * L), .int .i64 L] 41))
  exact ⟨by simp, by simp, by simp, hp.ints, hp.nodes⟩

/-- What ZZHighest hands back. -/
def TopEnd (H : Nat → Int) (V : Nat → Bool) (lo hi : Nat) (w : World) (e : Ending) (w' : World) : Prop :=
  ∃ t : Int, e = .returned (.int .i64 t) ∧ IsBest H V (fun s => lo ≤ s ∧ s < hi) t ∧ Below w.heap.size w w'
/-- What ZZNextUnder hands back. -/
def FirstEnd (H : Nat → Int) (V : Nat → Bool) (n : Nat) (f t pl : Int) (w : World) (e : Ending) (w' : World) : Prop :=
  ∃ u : Int, e = .returned (.int .i64 u) ∧ IsFirst H V pl (fun s => s < n ∧ f ≤ (s : Int) ∧ (s : Int) < t) u ∧ Below w.heap.size w w'

set_option maxHeartbeats 1000000 in
theorem zzHighest_any (ao : Option Addr) (n c : Nat) (H : Nat → Int) (V : Nat → Bool) (g k L : Nat) (N : Nat → Int) (lo hi : Nat) (w : World) (h : Parts w ao n H g L N)
    (hL : L = 2 ^ k) (hL2 : L ≤ 131072) (hn : n ≤ L) (hlo : lo ≤ n) (hhi : hi ≤ n) (hT : IsTree H V k N) (hN : ∀ j, -1 ≤ N j ∧ N j < n) (hV : ∀ s, V s = true → s < n) :
    Calls Try.prog 20 #[.slice ao n c, .slice (some ⟨g, 0, none⟩) (2 * L) (2 * L), .int .i64 L, .int .i64 lo, .int .i64 hi] w fun e w' => TopEnd H V lo hi w e w' := by
  have HC : Hid (∀ W, Band W w.heap.size ao n c H g L N → Calls Try.prog 28 #[.pointer (some ⟨w.heap.size, 0, none⟩), .int .i64 lo, .int .i64 hi] W fun e w' => HighEnd H V lo hi W e w') :=
    fun W hW => highest_any w.heap.size ao n c H V g k L N lo hi W hW hL hL2 hn hlo hhi hT hN hV
  have HP : Hid (Parts w ao n H g L N) := h
  clear h hT hN hV hL
  go_enter Try.func20, Try.ntmps20
  go_wp2_with fail
  refine (HC.out _ (band_new HP.out)).mono ?_
  rintro e w1 ⟨t, rfl, hb, hs⟩
  have HB : Hid (IsBest H V (fun s => lo ≤ s ∧ s < hi) t) := hb
  clear hb
  go_wp2_with fail
  go_ret
  exact ⟨t, rfl, HB.out, ((Below.refl _ _).alloc (Nat.le_refl _) _).trans (hs.below _)⟩

set_option maxHeartbeats 1000000 in
theorem zzNext_any (ao : Option Addr) (n c : Nat) (H : Nat → Int) (V : Nat → Bool) (g k L : Nat) (N : Nat → Int) (f t pl : Int) (w : World) (h : Parts w ao n H g L N)
    (hL : L = 2 ^ k) (hL2 : L ≤ 131072) (hn : n ≤ L) (hT : IsTree H V k N) (hN : ∀ j, -1 ≤ N j ∧ N j < n) (hV : ∀ s, V s = true → s < n) :
    Calls Try.prog 25 #[.slice ao n c, .slice (some ⟨g, 0, none⟩) (2 * L) (2 * L), .int .i64 L, .int .i64 1, .int .i64 0, .int .i64 L, .int .i64 f, .int .i64 t, .int .i64 pl] w fun e w' => FirstEnd H V n f t pl w e w' := by
  have HC : Hid (∀ W, Band W w.heap.size ao n c H g L N → Calls Try.prog 29 #[.pointer (some ⟨w.heap.size, 0, none⟩), .int .i64 1, .int .i64 0, .int .i64 L, .int .i64 f, .int .i64 t, .int .i64 pl] W fun e w' => NextEnd H V pl (Asked k k 1 f t) W e w') :=
    fun W hW => next_any w.heap.size ao n c H V g k L N f t pl W hW hL hL2 hT hN k 1 0 L 1 0 L rfl rfl rfl (by omega) (by omega) (by have := pow_pos2 k; omega)
  have HP : Hid (Parts w ao n H g L N) := h
  have HR : Hid (∀ u, IsFirst H V pl (Asked k k 1 f t) u → IsFirst H V pl (fun s => s < n ∧ f ≤ (s : Int) ∧ (s : Int) < t) u) := fun u hu => root_first (by omega) hV hu
  clear h hT hN hV hL
  go_enter Try.func25, Try.ntmps25
  go_wp2_with fail
  refine (HC.out _ (band_new HP.out)).mono ?_
  rintro e w1 ⟨u, rfl, hu, rfl⟩
  have HB := HR.out u hu
  have HB2 : Hid (IsFirst H V pl (fun s => s < n ∧ f ≤ (s : Int) ∧ (s : Int) < t) u) := HB
  clear hu HB
  go_wp2_with fail
  go_ret
  exact ⟨u, rfl, HB2.out, (Below.refl _ _).alloc (Nat.le_refl _) _⟩
end Go.Proofs.Qxb6000416a
