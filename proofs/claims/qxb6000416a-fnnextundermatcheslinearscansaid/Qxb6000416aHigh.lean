import Derived.Test.Qxb6000416aBuild
namespace Go.Proofs.Qxb6000416a
open Go.RowKit Tree

/-- The world has at most drawn. -/
def Same (w w' : World) : Prop := ∃ m, w.drewN m = w'
theorem Same.refl (w : World) : Same w w := ⟨0, rfl⟩
theorem Same.heap {w w' : World} (h : Same w w') : w'.heap = w.heap := by
  obtain ⟨m, rfl⟩ := h; cases m <;> rfl
theorem Same.cell {w w' : World} (h : Same w w') (a : Addr) : w'.cell? a = w.cell? a := by
  obtain ⟨m, rfl⟩ := h; cases m <;> rfl
theorem Same.below {w w' : World} (h : Same w w') (B : Nat) : Below B w w' := by
  obtain ⟨m, rfl⟩ := h; exact below_drewN (Below.refl _ _) m
theorem Same.trans {a b c : World} (h : Same a b) (k : Same b c) : Same a c := by
  obtain ⟨m, rfl⟩ := h
  obtain ⟨l, rfl⟩ := k
  exact ⟨m + l, by cases m <;> cases l <;> simp [World.drewN] <;> omega⟩
theorem At.same {w w' : World} {ao : Option Addr} {n : Nat} {F : Nat → Value} (h : At w ao n F) (k : Same w w') : At w' ao n F := h.below (k.below _)

/-- A bandIndex at block p: its slots' ends H, its tree N over L leaves at block g. -/
structure Band (w : World) (p : Nat) (ao : Option Addr) (n c : Nat) (H : Nat → Int) (g L : Nat) (N : Nat → Int) : Prop where
  high : w.cell? ⟨p, 3, none⟩ = some (.slice ao n c)
  top : w.cell? ⟨p, 6, none⟩ = some (.slice (some ⟨g, 0, none⟩) (2 * L) (2 * L))
  leaves : w.cell? ⟨p, 7, none⟩ = some (.int .i64 L)
  ints : At w ao n (fun j => .int .i64 (H j))
  nodes : ∀ j, j < 2 * L → w.cell? ⟨g, j, none⟩ = some (.int .i64 (N j))

theorem Band.same {w w' : World} {p : Nat} {ao : Option Addr} {n c : Nat} {H : Nat → Int} {g L : Nat} {N : Nat → Int} (h : Band w p ao n c H g L N) (k : Same w w') : Band w' p ao n c H g L N :=
  ⟨by rw [k.cell]; exact h.high, by rw [k.cell]; exact h.top, by rw [k.cell]; exact h.leaves, h.ints.same k, fun j hj => by rw [k.cell]; exact h.nodes j hj⟩

theorem higher_band {p : Nat} {ao : Option Addr} {n c : Nat} {H : Nat → Int} {g L : Nat} {N : Nat → Int} (a b : Int) (w : World) (h : Band w p ao n c H g L N) (ha : a < n) (hb : b < n) :
    Calls Try.prog 32 #[.pointer (some ⟨p, 0, none⟩), .int .i64 a, .int .i64 b] w fun e w' => e = .returned (.int .i64 (pickI H a b)) ∧ Same w w' :=
  higher_any p ao n c H a b w h.high h.ints ha hb

/-- What highest hands back. -/
def HighEnd (H : Nat → Int) (V : Nat → Bool) (lo hi : Nat) (w : World) (e : Ending) (w' : World) : Prop :=
  ∃ t : Int, e = .returned (.int .i64 t) ∧ IsBest H V (fun s => lo ≤ s ∧ s < hi) t ∧ Same w w'

theorem pick_lt_n {H : Nat → Int} {a b : Int} {n : Nat} (ha : a < n) (hb : b < n) : pickI H a b < n := by
  rcases pickI_mem H a b with h | h <;> rw [h] <;> assumption

set_option maxRecDepth 20000 in
set_option maxHeartbeats 4000000 in
theorem highest_any (p : Nat) (ao : Option Addr) (n c : Nat) (H : Nat → Int) (V : Nat → Bool) (g k L : Nat) (N : Nat → Int) (lo hi : Nat) (w : World) (h : Band w p ao n c H g L N)
    (hL : L = 2 ^ k) (hL2 : L ≤ 131072) (hn : n ≤ L) (hlo : lo ≤ n) (hhi : hi ≤ n) (hT : IsTree H V k N) (hN : ∀ j, -1 ≤ N j ∧ N j < n) (hV : ∀ s, V s = true → s < n) :
    Calls Try.prog 28 #[.pointer (some ⟨p, 0, none⟩), .int .i64 lo, .int .i64 hi] w fun e w' => HighEnd H V lo hi w e w' := by
  have HT : Hid (IsTree H V k N ∧ (∀ j, -1 ≤ N j ∧ N j < n) ∧ L = 2 ^ k ∧ ∀ s, V s = true → s < n) := ⟨hT, hN, hL, hV⟩
  have HB : Hid (Band w p ao n c H g L N) := h
  have hf7 := h.leaves
  clear hT hN hL h hV
  go_enter Try.func28, Try.ntmps28
  go_wp2_with fail
  go_quiet (fail)
  go_wp2_with fail
  clear hf7
  go_loopw [7, 8, 9] (fun v7 v8 v9 wr => ∃ (d l r : Nat) (best : Int), v7 = .int .i64 best ∧ v8 = .int .i64 l ∧ v9 = .int .i64 r ∧ l ≤ 2 * L ∧ r ≤ 2 * L ∧ HiInv H V k lo hi d l r best ∧ Same w wr) (fun _ _ v9 _ => (intOf v9).toNat)
  case atStart =>
    refine ⟨0, L + lo, L + hi, -1, rfl, by go_num, by go_num, by omega, by omega, ?_, _, rfl⟩
    rw [HT.out.2.2.1]; exact hi_start
  case round =>
    obtain ⟨d, l, r, best, rfl, rfl, rfl, hl2, hr2, hinv, hsm⟩ := hrel
    have HI : Hid (HiInv H V k lo hi d l r best) := hinv
    have HS : Hid (Same w wr) := hsm
    have hbest := (hinv.2.2.bound n HT.out.2.2.2).2
    clear hinv hsm
    by_cases hlr : l < r
    · have hbd := hi_bounds HI.out hlr (by rw [← HT.out.2.2.1]; omega)
      have hl1 := hbd.1
      clear hbd
      have hB := HB.out.same HS.out
      have f6 := hB.top
      have x1 := hB.nodes l (by omega)
      have x2 := hB.nodes (r - 1) (by omega)
      have y1 := (HT.out.2.1 l).2
      have y2 := (HT.out.2.1 (r - 1)).2
      have z1 : (l : Int) < 2 * (L : Int) := by omega
      have hk2 : hi ≤ 2 ^ k := by rw [← HT.out.2.2.1]; omega
      have HK : Hid (hi ≤ 2 ^ k) := hk2
      clear hk2
      by_cases ol : l % 2 = 1
      · have tl : ((l : Int) % 2 == 1) = true := by simp; omega
        have HI1 : Hid (HiInv H V k lo hi d (l + 1) r (pickI H best (N l))) := hi_left HT.out.1 HI.out hlr HK.out
        by_cases orr : r % 2 = 1
        · have tr : ((r : Int) % 2 == 1) = true := by simp; omega
          have HI2 : Hid (HiInv H V k lo hi d (l + 1) (r - 1) (pickI H (pickI H best (N l)) (N (r - 1)))) := hi_right HT.out.1 HI1.out (by omega) HK.out
          go_wp2_with fail
          refine (higher_band best (N l) _ hB hbest y1).mono ?_
          rintro e w2 ⟨rfl, hs2⟩
          have hB2 := hB.same hs2
          have g6 := hB2.top
          have g2 := hB2.nodes (r - 1) (by omega)
          go_wp2_with fail
          refine (higher_band (pickI H best (N l)) (N (r - 1)) _ hB2 (pick_lt_n hbest y1) y2).mono ?_
          rintro e w3 ⟨rfl, hs3⟩
          go_wp2_with fail
          go_roundw
          case rel => exact ⟨d + 1, (l + 1) / 2, (r - 1) / 2, _, rfl, by first | go_num | (congr 1; omega), by first | go_num | (congr 1; omega), by omega, by omega, hi_up HI2.out (by omega) (by omega), (HS.out.trans hs2).trans hs3⟩
          case measure => simp [intOf]; omega
        · have tr : ((r : Int) % 2 == 1) = false := by simp; omega
          go_wp2_with fail
          refine (higher_band best (N l) _ hB hbest y1).mono ?_
          rintro e w2 ⟨rfl, hs2⟩
          go_wp2_with fail
          go_roundw
          case rel => exact ⟨d + 1, (l + 1) / 2, r / 2, _, rfl, by first | go_num | (congr 1; omega), by first | go_num | (congr 1; omega), by omega, by omega, hi_up HI1.out (by omega) (by omega), HS.out.trans hs2⟩
          case measure => simp [intOf]; omega
      · have tl : ((l : Int) % 2 == 1) = false := by simp; omega
        by_cases orr : r % 2 = 1
        · have tr : ((r : Int) % 2 == 1) = true := by simp; omega
          have HI2 : Hid (HiInv H V k lo hi d l (r - 1) (pickI H best (N (r - 1)))) := hi_right HT.out.1 HI.out hlr HK.out
          go_wp2_with fail
          refine (higher_band best (N (r - 1)) _ hB hbest y2).mono ?_
          rintro e w2 ⟨rfl, hs2⟩
          go_wp2_with fail
          go_roundw
          case rel => exact ⟨d + 1, l / 2, (r - 1) / 2, _, rfl, by first | go_num | (congr 1; omega), by first | go_num | (congr 1; omega), by omega, by omega, hi_up HI2.out (by omega) (by omega), HS.out.trans hs2⟩
          case measure => simp [intOf]; omega
        · have tr : ((r : Int) % 2 == 1) = false := by simp; omega
          go_wp2_with fail
          go_roundw
          case rel => exact ⟨d + 1, l / 2, r / 2, _, rfl, by first | go_num | (congr 1; omega), by first | go_num | (congr 1; omega), by omega, by omega, hi_up HI.out (by omega) (by omega), HS.out⟩
          case measure => simp [intOf]; omega
    · go_wp2_with fail
      go_ret
      exact ⟨best, rfl, hi_end HI.out (by omega), HS.out⟩
end Go.Proofs.Qxb6000416a
