import Derived.Test.Qxb6000416aNum
import Derived.Test.Qxb6000416aProg
import Derived.WalkKit
import Derived.WalkSpells
import Derived.RegionTactic
import Derived.Deep.QuietTactic
import Derived.BigQuiet
import Derived.Handy
import Derived.Lib.Strings
namespace Go.Proofs.Qxb6000416a
open Go.RowKit Num

theorem Grown.after {a b c : World} (h : Grown a b) (g : Grown b c) : Grown a c := by
  refine ⟨World.keptBut_trans h.1 (World.keptBut_mono (fun _ f => f) g.1), fun x => (g.2.1 x).trans (h.2.1 x), Nat.le_trans h.2.2 g.2.2⟩

theorem grown_drewN (w : World) (n : Nat) : Grown w (w.drewN n) := by
  induction n with
  | zero => exact Grown.refl _
  | succ n ih => exact Grown.refl _

/-- The first k bytes are digits. -/
def Pre (l : List UInt8) (k : Nat) : Prop := tk l = l.take k ++ tk (l.drop k) ∧ dp l = dp (l.drop k)

theorem pre_zero (l : List UInt8) : Pre l 0 := by simp [Pre]
theorem drop_at (s : ByteArray) (k : Nat) (h : k < s.size) : s.data.toList.drop k = s[k] :: s.data.toList.drop (k + 1) := by
  rw [List.drop_eq_getElem_cons (by simpa using h)]; rfl
theorem take_snoc (s : ByteArray) (k : Nat) (h : k < s.size) : s.data.toList.take (k + 1) = s.data.toList.take k ++ [s[k]] := by
  rw [List.take_succ_eq_append_getElem (by simpa using h)]; rfl
theorem pre_step (s : ByteArray) (k : Nat) (h : k < s.size) (hp : Pre s.data.toList k) (h1 : 48 ≤ (s[k].toNat : Int)) (h2 : (s[k].toNat : Int) ≤ 57) : Pre s.data.toList (k + 1) := by
  obtain ⟨a, b⟩ := hp
  have hd : isD s[k] = true := (isD_iff _).2 ⟨h1, h2⟩
  rw [drop_at s k h] at a b
  rw [tk_cons, if_pos hd] at a
  rw [dp_cons, if_pos hd] at b
  exact ⟨by rw [a, take_snoc s k h]; simp, b⟩
theorem pre_end (s : ByteArray) (k : Nat) (hp : Pre s.data.toList k) (he : ∀ h : k < s.size, ¬ (48 ≤ (s[k].toNat : Int) ∧ (s[k].toNat : Int) ≤ 57)) :
    tk s.data.toList = s.data.toList.take k ∧ dp s.data.toList = s.data.toList.drop k := by
  obtain ⟨a, b⟩ := hp
  by_cases h : k < s.size
  · have hd : ¬ isD s[k] = true := fun x => he h ((isD_iff _).1 x)
    rw [drop_at s k h] at a b ⊢
    rw [tk_cons, if_neg hd] at a
    rw [dp_cons, if_neg hd] at b
    exact ⟨by simpa using a, b⟩
  · have e : s.data.toList.drop k = [] := List.drop_of_length_le (by simp; exact Nat.le_of_not_lt h)
    rw [e] at a b ⊢
    exact ⟨by simpa [tk_nil] using a, b⟩

set_option maxHeartbeats 400000 in
theorem cutDigits_any (s : ByteArray) (w : World) (hs : s.size ≤ 9223372036854775807) :
    Calls Try.prog 31 #[.string s] w fun e w' => ∃ d r : ByteArray, e = .returned (.tuple #[.string d, .string r]) ∧ d.data.toList = tk s.data.toList ∧ r.data.toList = dp s.data.toList ∧ Grown w w' := by
  go_enter Try.func31, Try.ntmps31
  go_wp2
  go_loop [4] (fun i => ∃ k : Nat, k ≤ s.size ∧ i = .int .i64 k ∧ Pre s.data.toList k) (fun i => s.size - (intOf i).toNat)
  case atStart => exact ⟨0, Nat.zero_le _, rfl, pre_zero _⟩
  case round =>
    obtain ⟨k, hk, rfl, hp⟩ := hrel
    have fin : tk s.data.toList = s.data.toList.take k ∧ dp s.data.toList = s.data.toList.drop k → ∀ nq : Nat, ∃ d r : ByteArray, Ending.returned (.tuple #[.string (s.extract 0 k), .string (s.extract k s.size)]) = .returned (.tuple #[.string d, .string r]) ∧ d.data.toList = tk s.data.toList ∧ r.data.toList = dp s.data.toList ∧ Grown w (w.drewN nq) := by
      rintro ⟨e1, e2⟩ nq
      refine ⟨_, _, rfl, ?_, ?_, grown_drewN _ _⟩
      · rw [Lib.extract_data, e1]; simp
      · rw [Lib.extract_data, e2]; exact List.take_of_length_le (by simp)
    by_cases hlt : k < s.size
    · by_cases h1 : 48 ≤ (s[k].toNat : Int)
      · by_cases h2 : (s[k].toNat : Int) ≤ 57
        · go_wp2
          go_round
          case rel => exact ⟨k + 1, by omega, by go_num, pre_step s k hlt hp h1 h2⟩
          case measure => simp [intOf]; omega
        · have he := pre_end s k hp (fun _ x => h2 x.2)
          go_wp2
          go_quiet (fail)
          go_wp2
          go_ret2
          exact fin he _
      · have he := pre_end s k hp (fun _ x => h1 x.1)
        go_wp2
        go_quiet (fail)
        go_wp2
        go_ret2
        exact fin he _
    · have he := pre_end s k hp (fun x => absurd x hlt)
      go_wp2
      go_quiet (fail)
      go_wp2
      go_ret2
      exact fin he _
end Go.Proofs.Qxb6000416a
