import Derived.Test.Qxb6601180aMem
namespace Go.Proofs.Qxb6601180a
open Go.RowKit Rd

/-- text[lo:hi] as the model's functions get it: a slice of the text's own row. -/
structure Sl (w : World) (v : Value) (g lo hi : Nat) (F : Nat → Int) : Prop where
  is : ∃ ao c, v = .slice ao (hi - lo) c ∧ (lo < hi → ao = some ⟨g, lo, none⟩) ∧ hi - lo ≤ c
  cell : ∀ j, lo ≤ j → j < hi → w.cell? ⟨g, j, none⟩ = some (.int .u8 (F j))

/-- What a search hands back: the place, counted from the slice's head, or -1. -/
def FindEnd (P : Int → Prop) (F : Nat → Int) (lo hi : Nat) (w : World) (e : Ending) (w' : World) : Prop :=
  ∃ (found : Bool) (k : Nat), FirstIn P F lo hi found k ∧ e = .returned (.int .i64 (if found = true then ((k - lo : Nat) : Int) else -1)) ∧ w = w'

theorem find_hit {P : Int → Prop} {F : Nat → Int} {lo hi k : Nat} {w : World} (hk : lo + k < hi) (hp : P (F (lo + k))) (hb : ∀ j, lo ≤ j → j < lo + k → ¬ P (F j)) : FindEnd P F lo hi w (.returned (.int .i64 k)) w :=
  ⟨true, lo + k, ⟨fun _ => ⟨by omega, hk, hp, hb⟩, by simp⟩, by simp, rfl⟩
theorem find_none {P : Int → Prop} {F : Nat → Int} {lo hi : Nat} {w : World} (hb : ∀ j, lo ≤ j → j < hi → ¬ P (F j)) : FindEnd P F lo hi w (.returned (.int .i64 (-1))) w :=
  ⟨false, hi, ⟨by simp, fun _ => ⟨rfl, hb⟩⟩, by simp, rfl⟩
theorem not_step {P : Int → Prop} {F : Nat → Int} {lo k : Nat} (hb : ∀ j, lo ≤ j → j < lo + k → ¬ P (F j)) (h : ¬ P (F (lo + k))) : ∀ j, lo ≤ j → j < lo + (k + 1) → ¬ P (F j) := by
  intro j j1 j2
  by_cases e : j = lo + k
  · subst e; exact h
  · exact hb j j1 (by omega)

set_option maxHeartbeats 1000000 in
theorem indexE_any (w : World) (v : Value) (g lo hi : Nat) (F : Nat → Int) (h : Sl w v g lo hi F) (hn : hi ≤ 1048576) (hlh : lo ≤ hi) :
    Calls Try.prog 15 #[v] w fun e w' => FindEnd IsE F lo hi w e w' := by
  obtain ⟨⟨ao, c, rfl, hao, hc⟩, hcell⟩ := h
  obtain ⟨m, hm⟩ : ∃ m, hi - lo = m := ⟨_, rfl⟩
  obtain rfl : hi = lo + m := by omega
  rw [hm]
  have HC : Hid (∀ j, lo ≤ j → j < lo + m → w.cell? ⟨g, j, none⟩ = some (.int .u8 (F j))) := hcell
  have HA : Hid (lo < lo + m → ao = some ⟨g, lo, none⟩) := hao
  clear hcell hao hm hc
  go_enter Try.func15, Try.ntmps15
  go_wp2_with fail
  go_loop [3] (fun i => ∃ k : Nat, k ≤ m ∧ i = .int .i64 k ∧ ∀ j, lo ≤ j → j < lo + k → ¬ IsE (F j)) (fun i => m - (intOf i).toNat)
  case atStart => exact ⟨0, Nat.zero_le _, rfl, fun j _ _ => by omega⟩
  case round =>
    obtain ⟨k, hk, rfl, hb⟩ := hrel
    have HB : Hid (∀ j, lo ≤ j → j < lo + k → ¬ IsE (F j)) := hb
    clear hb
    by_cases hlt : k < m
    · obtain rfl := HA.out (by omega)
      have c1 := HC.out (lo + k) (by omega) (by omega)
      have hl : (k : Int) < (m : Int) := by omega
      by_cases h1 : F (lo + k) = 101
      · have h1' : (F (lo + k) == 101) = true := by simp [h1]
        have HE : Hid (FindEnd IsE F lo (lo + m) w (.returned (.int .i64 k)) w) := find_hit (by omega) (.inl h1) HB.out
        clear h1
        go_wp2_with fail
        go_ret
        exact HE.out
      · have h1' : (F (lo + k) == 101) = false := by simp [h1]
        by_cases h2 : F (lo + k) = 69
        · have h2' : (F (lo + k) == 69) = true := by simp [h2]
          have HE : Hid (FindEnd IsE F lo (lo + m) w (.returned (.int .i64 k)) w) := find_hit (by omega) (.inr h2) HB.out
          clear h2
          go_wp2_with fail
          go_ret
          exact HE.out
        · have h2' : (F (lo + k) == 69) = false := by simp [h2]
          go_wp2_with fail
          go_round
          case rel => exact ⟨k + 1, by omega, by go_num, not_step HB.out (fun q => q.elim h1 h2)⟩
          case measure => simp [intOf]; omega
    · obtain rfl : k = m := by omega
      have HE : Hid (FindEnd IsE F lo (lo + k) w (.returned (.int .i64 (-1))) w) := find_none HB.out
      go_wp2_with fail
      go_ret
      exact HE.out

set_option maxHeartbeats 1000000 in
theorem indexP_any (w : World) (v : Value) (g lo hi : Nat) (F : Nat → Int) (h : Sl w v g lo hi F) (hn : hi ≤ 1048576) (hlh : lo ≤ hi) :
    Calls Try.prog 16 #[v, .int .u8 46] w fun e w' => FindEnd (· = 46) F lo hi w e w' := by
  obtain ⟨⟨ao, c, rfl, hao, hc⟩, hcell⟩ := h
  obtain ⟨m, hm⟩ : ∃ m, hi - lo = m := ⟨_, rfl⟩
  obtain rfl : hi = lo + m := by omega
  rw [hm]
  have HC : Hid (∀ j, lo ≤ j → j < lo + m → w.cell? ⟨g, j, none⟩ = some (.int .u8 (F j))) := hcell
  have HA : Hid (lo < lo + m → ao = some ⟨g, lo, none⟩) := hao
  clear hcell hao hm hc
  go_enter Try.func16, Try.ntmps16
  go_wp2_with fail
  go_loop [5] (fun i => ∃ k : Nat, k ≤ m ∧ i = .int .i64 k ∧ ∀ j, lo ≤ j → j < lo + k → ¬ F j = 46) (fun i => m - (intOf i).toNat)
  case atStart => exact ⟨0, Nat.zero_le _, rfl, fun j _ _ => by omega⟩
  case round =>
    obtain ⟨k, hk, rfl, hb⟩ := hrel
    have HB : Hid (∀ j, lo ≤ j → j < lo + k → ¬ F j = 46) := hb
    clear hb
    by_cases hlt : k < m
    · obtain rfl := HA.out (by omega)
      have c1 := HC.out (lo + k) (by omega) (by omega)
      have hl : (k : Int) < (m : Int) := by omega
      by_cases h1 : F (lo + k) = 46
      · have h1' : (F (lo + k) == 46) = true := by simp [h1]
        have HE : Hid (FindEnd (· = 46) F lo (lo + m) w (.returned (.int .i64 k)) w) := find_hit (by omega) h1 HB.out
        clear h1
        go_wp2_with fail
        go_ret
        exact HE.out
      · have h1' : (F (lo + k) == 46) = false := by simp [h1]
        go_wp2_with fail
        go_round
        case rel => exact ⟨k + 1, by omega, by go_num, not_step (P := (· = 46)) HB.out h1⟩
        case measure => simp [intOf]; omega
    · obtain rfl : k = m := by omega
      have HE : Hid (FindEnd (· = 46) F lo (lo + k) w (.returned (.int .i64 (-1))) w) := find_none HB.out
      go_wp2_with fail
      go_ret
      exact HE.out

/-- Whether all are digits. -/
def AllEnd (F : Nat → Int) (lo hi : Nat) (w : World) (e : Ending) (w' : World) : Prop := ∃ b : Bool, (b = true ↔ Al F lo hi) ∧ e = .returned (.bool b) ∧ w = w'

set_option maxHeartbeats 1000000 in
theorem allD_any (w : World) (v : Value) (g lo hi : Nat) (F : Nat → Int) (h : Sl w v g lo hi F) (hn : hi ≤ 1048576) (hlh : lo ≤ hi) :
    Calls Try.prog 17 #[v] w fun e w' => AllEnd F lo hi w e w' := by
  obtain ⟨⟨ao, c, rfl, hao, hc⟩, hcell⟩ := h
  obtain ⟨m, hm⟩ : ∃ m, hi - lo = m := ⟨_, rfl⟩
  obtain rfl : hi = lo + m := by omega
  rw [hm]
  have HC : Hid (∀ j, lo ≤ j → j < lo + m → w.cell? ⟨g, j, none⟩ = some (.int .u8 (F j))) := hcell
  have HA : Hid (lo < lo + m → ao = some ⟨g, lo, none⟩) := hao
  clear hcell hao hm hc
  go_enter Try.func17, Try.ntmps17
  go_wp2_with fail
  go_loop [3] (fun i => ∃ k : Nat, k ≤ m ∧ i = .int .i64 k ∧ Al F lo (lo + k)) (fun i => m - (intOf i).toNat)
  case atStart => exact ⟨0, Nat.zero_le _, rfl, fun j _ _ => by omega⟩
  case round =>
    obtain ⟨k, hk, rfl, hb⟩ := hrel
    have HB : Hid (Al F lo (lo + k)) := hb
    clear hb
    by_cases hlt : k < m
    · obtain rfl := HA.out (by omega)
      have c1 := HC.out (lo + k) (by omega) (by omega)
      have hl : (k : Int) < (m : Int) := by omega
      by_cases h1 : 48 ≤ F (lo + k)
      · by_cases h2 : F (lo + k) ≤ 57
        · go_wp2
          go_round
          case rel =>
            refine ⟨k + 1, by omega, by go_num, fun j j1 j2 => ?_⟩
            by_cases e : j = lo + k
            · subst e; exact ⟨h1, h2⟩
            · exact HB.out j j1 (by omega)
          case measure => simp [intOf]; omega
        · have HE : Hid (AllEnd F lo (lo + m) w (.returned (.bool false)) w) := ⟨false, by simp; intro q; have := (q (lo + k) (by omega) (by omega)).2; omega, rfl, rfl⟩
          go_wp2
          go_ret
          exact HE.out
      · have HE : Hid (AllEnd F lo (lo + m) w (.returned (.bool false)) w) := ⟨false, by simp; intro q; have := (q (lo + k) (by omega) (by omega)).1; omega, rfl, rfl⟩
        go_wp2
        go_ret
        exact HE.out
    · obtain rfl : k = m := by omega
      have HE : Hid (AllEnd F lo (lo + k) w (.returned (.bool true)) w) := ⟨true, by simp; exact HB.out, rfl, rfl⟩
      go_wp2
      go_ret
      exact HE.out

/-! ### zzSame: two slices of one piece (two nil ones too) -/
/-- It returned true and at most drew. -/
def TrueEnd (w : World) (e : Ending) (w' : World) : Prop := e = .returned (.bool true) ∧ ∃ k, w.drewN k = w'

set_option maxHeartbeats 1000000 in
theorem content_any (w : World) (ao : Option Addr) (m c1 c2 g lo : Nat) (F : Nat → Int) (hao : 0 < m → ao = some ⟨g, lo, none⟩) (hcell : ∀ j, j < m → w.cell? ⟨g, lo + j, none⟩ = some (.int .u8 (F j))) (hm : m ≤ 1048576) :
    Calls Try.prog 18 #[.slice ao m c1, .slice ao m c2] w fun e w' => TrueEnd w e w' := by
  have HC : Hid (∀ j, j < m → w.cell? ⟨g, lo + j, none⟩ = some (.int .u8 (F j))) := hcell
  have HA : Hid (0 < m → ao = some ⟨g, lo, none⟩) := hao
  clear hcell hao
  go_enter Try.func18, Try.ntmps18
  go_wp2_with fail
  go_loopw [5] (fun i wr => ∃ k : Nat, k ≤ m ∧ i = .int .i64 k ∧ ∃ q, w.drewN q = wr) (fun i _ => m - (intOf i).toNat)
  case atStart => exact ⟨0, Nat.zero_le _, rfl, 0, rfl⟩
  case round =>
    obtain ⟨k, hk, rfl, q, rfl⟩ := hrel
    by_cases hlt : k < m
    · obtain rfl := HA.out (by omega)
      have x1 := HC.out k hlt
      have hl : (k : Int) < (m : Int) := by omega
      go_wp2_with fail
      go_quiet (fail)
      go_wp2_with fail
      go_roundw
      case rel => exact ⟨k + 1, by omega, by go_num, _, rfl⟩
      case measure => simp [intOf]; omega
    · go_wp2_with fail
      go_ret
      exact ⟨rfl, q, rfl⟩

set_option maxHeartbeats 1000000 in
theorem same_any (w : World) (ao : Option Addr) (m c1 c2 g lo : Nat) (F : Nat → Int) (hao : 0 < m → ao = some ⟨g, lo, none⟩) (hcell : ∀ j, j < m → w.cell? ⟨g, lo + j, none⟩ = some (.int .u8 (F j))) (hm : m ≤ 1048576) :
    Calls Try.prog 10 #[.slice ao m c1, .slice ao m c2] w fun e w' => TrueEnd w e w' := by
  have HC : Hid (Calls Try.prog 18 #[.slice ao m c1, .slice ao m c2] w fun e w' => TrueEnd w e w') := content_any w ao m c1 c2 g lo F hao hcell hm
  have n1 := fun w => Lib.run_eql_slice_nil (P := Try.prog) w 22 5 ao m c1 0 0 Try.underlying22
  have n2 := fun w => Lib.run_eql_slice_nil (P := Try.prog) w 22 5 ao m c2 0 0 Try.underlying22
  clear hao hcell
  go_enter Try.func10, Try.ntmps10
  go_wp2_with fail
  refine HC.out.mono ?_
  rintro e w1 ⟨rfl, k, rfl⟩
  go_wp2_with fail
  go_ret
  exact ⟨rfl, k, rfl⟩
end Go.Proofs.Qxb6601180a
