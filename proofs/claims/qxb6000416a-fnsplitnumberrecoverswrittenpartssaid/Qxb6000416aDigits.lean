import Derived.Test.Qxb6000416aSplit
namespace Go.Proofs.Qxb6000416a
open Go.RowKit Num

/-- Every byte is a digit. -/
def allD (l : List UInt8) : Bool := l.all isD
theorem allD_step (s : ByteArray) (k : Nat) (h : k < s.size) (hp : allD s.data.toList = allD (s.data.toList.drop k)) (h1 : 48 ≤ (s[k].toNat : Int)) (h2 : (s[k].toNat : Int) ≤ 57) : allD s.data.toList = allD (s.data.toList.drop (k + 1)) := by
  have hd : isD s[k] = true := (isD_iff _).2 ⟨h1, h2⟩
  rw [hp, drop_at s k h]; simp [allD, hd]
theorem allD_stop (s : ByteArray) (k : Nat) (h : k < s.size) (hp : allD s.data.toList = allD (s.data.toList.drop k)) (h1 : ¬ (48 ≤ (s[k].toNat : Int) ∧ (s[k].toNat : Int) ≤ 57)) : allD s.data.toList = false := by
  have hd : isD s[k] = false := (isD_false _).2 h1
  rw [hp, drop_at s k h]; simp [allD, hd]
theorem allD_end (s : ByteArray) (k : Nat) (h : ¬ k < s.size) (hp : allD s.data.toList = allD (s.data.toList.drop k)) : allD s.data.toList = true := by
  rw [hp, List.drop_of_length_le (by rw [← Lib.size_eq]; omega)]; rfl
theorem ret_bool' {a b : Bool} (h : a = b) : Ending.returned (.bool a) = .returned (.bool b) := by rw [h]

set_option maxHeartbeats 400000 in
theorem allDigits_any (s : ByteArray) (w : World) (hs : s.size ≤ 9223372036854775807) :
    Calls Try.prog 14 #[.string s] w fun e w' => e = .returned (.bool (allD s.data.toList)) ∧ w = w' := by
  go_enter Try.func14, Try.ntmps14
  go_wp2
  go_loop [3] (fun i => ∃ k : Nat, k ≤ s.size ∧ i = .int .i64 k ∧ allD s.data.toList = allD (s.data.toList.drop k)) (fun i => s.size - (intOf i).toNat)
  case atStart => exact ⟨0, Nat.zero_le _, rfl, by simp⟩
  case round =>
    obtain ⟨k, hk, rfl, hp⟩ := hrel
    have HP : Hid (allD s.data.toList = allD (s.data.toList.drop k)) := hp
    clear hp
    by_cases hlt : k < s.size
    · by_cases h1 : 48 ≤ (s[k].toNat : Int)
      · by_cases h2 : (s[k].toNat : Int) ≤ 57
        · go_wp2
          go_round
          case rel => exact ⟨k + 1, by omega, by go_num, allD_step s k hlt HP.out h1 h2⟩
          case measure => simp [intOf]; omega
        · have he : Hid (allD s.data.toList = false) := allD_stop s k hlt HP.out (fun x => h2 x.2)
          go_wp2
          go_ret
          exact ⟨ret_bool' he.out.symm, rfl⟩
      · have he : Hid (allD s.data.toList = false) := allD_stop s k hlt HP.out (fun x => h1 x.1)
        go_wp2
        go_ret
        exact ⟨ret_bool' he.out.symm, rfl⟩
    · have he : Hid (allD s.data.toList = true) := allD_end s k hlt HP.out
      go_wp2
      go_ret
      exact ⟨ret_bool' he.out.symm, rfl⟩

theorem bytes15 (a0 a3 a4 : Bool) (a1 a2 a6 : ByteArray) (a5 : Int) (w : World) (h1 : a1.size ≤ 9223372036854775807) (h2 : a2.size ≤ 9223372036854775807) (h6 : a6.size ≤ 9223372036854775807) :
    Calls Try.prog 15 #[.bool a0, .string a1, .string a2, .bool a3, .bool a4, .int .i8 a5, .string a6] w fun e w' => ∃ b : Bool, e = .returned (.bool b) ∧ w = w' := by
  go_enter Try.func15, Try.ntmps15
  go_wp2
  all_goals go_ret
  all_goals exact ⟨_, rfl, rfl⟩
end Go.Proofs.Qxb6000416a
