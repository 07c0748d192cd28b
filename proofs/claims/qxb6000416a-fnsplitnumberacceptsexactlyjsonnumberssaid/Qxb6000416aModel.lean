import Derived.Test.Qxb6000416aCut
import Derived.Deep.Light
namespace Go.Proofs.Qxb6000416a
open Go.RowKit Num

/-- The machine goes on behind a step. -/
def cont (o : Option Nat) (l : List UInt8) : Bool :=
  match o with
  | none => false
  | some st => go st l
theorem go_cons (st : Nat) (c : UInt8) (l : List UInt8) : go st (c :: l) = cont (stepI st (c.toNat : Int)) l := by
  rw [go]
  cases stepI st (c.toNat : Int) <;> rfl
theorem ret_bool {a b : Bool} (h : a = b) : Ending.returned (.bool a) = .returned (.bool b) := by rw [h]
theorem acc_end (st : Nat) (l : List UInt8) (k : Nat) (h : l.length ≤ k) : go st (l.drop k) = acc st := by
  rw [List.drop_of_length_le h]; rfl

set_option maxHeartbeats 4000000 in
theorem model_any (s : ByteArray) (w : World) (hs : s.size ≤ 9223372036854775807) :
    Calls Try.prog 12 #[.string s] w fun e w' => e = .returned (.bool (go 0 s.data.toList)) ∧ w' = w := by
  go_enter Try.func12, Try.ntmps12
  go_wp2
  go_loop [3, 4] (fun t i => ∃ st k : Nat, k ≤ s.size ∧ st ≤ 8 ∧ t = .int .i64 st ∧ i = .int .i64 k ∧ go 0 s.data.toList = go st (s.data.toList.drop k)) (fun _ i => s.size - (intOf i).toNat)
  case atStart => exact ⟨0, 0, Nat.zero_le _, Nat.zero_le _, rfl, rfl, by simp⟩
  case round =>
    obtain ⟨st, k, hk, hst, rfl, rfl, hgo⟩ := hrel
    have HG : Hid (go 0 s.data.toList = go st (s.data.toList.drop k)) := hgo
    clear hgo
    by_cases hlt : k < s.size
    · have HD : Hid (go 0 s.data.toList = cont (stepI st (s[k].toNat : Int)) (s.data.toList.drop (k + 1))) := by
        unfold Hid; rw [HG.out, drop_at s k hlt, go_cons]
      clear HG
      rcases (show st = 0 ∨ st = 1 ∨ st = 2 ∨ st = 3 ∨ st = 4 ∨ st = 5 ∨ st = 6 ∨ st = 7 ∨ st = 8 from by omega) with rfl | rfl | rfl | rfl | rfl | rfl | rfl | rfl | rfl
      all_goals
        go_wp2
        all_goals try simp only [beq_iff_eq, beq_eq_false_iff_ne, ne_eq] at *
        all_goals first
          | (go_ret
             refine ⟨ret_bool ?_, rfl⟩
             go_light
             rw [HD.out]
             symm
             have e : ∀ o : Option Nat, o = none → cont o (s.data.toList.drop (k + 1)) = false := fun o h => by rw [h]; rfl
             refine e _ ?_
             simp only [stepI]
             (repeat' split) <;> first | rfl | (exfalso; omega))
          | (go_round
             case rel =>
               go_light
               have e : ∀ j : Nat, stepI _ (s[k].toNat : Int) = some j → go 0 s.data.toList = go j (s.data.toList.drop (k + 1)) := fun j h => by rw [HD.out, h]; rfl
               first
                 | exact ⟨1, k + 1, by omega, by omega, rfl, by go_num, e 1 (by simp only [stepI]; (repeat' split) <;> first | rfl | (exfalso; omega))⟩
                 | exact ⟨2, k + 1, by omega, by omega, rfl, by go_num, e 2 (by simp only [stepI]; (repeat' split) <;> first | rfl | (exfalso; omega))⟩
                 | exact ⟨3, k + 1, by omega, by omega, rfl, by go_num, e 3 (by simp only [stepI]; (repeat' split) <;> first | rfl | (exfalso; omega))⟩
                 | exact ⟨4, k + 1, by omega, by omega, rfl, by go_num, e 4 (by simp only [stepI]; (repeat' split) <;> first | rfl | (exfalso; omega))⟩
                 | exact ⟨5, k + 1, by omega, by omega, rfl, by go_num, e 5 (by simp only [stepI]; (repeat' split) <;> first | rfl | (exfalso; omega))⟩
                 | exact ⟨6, k + 1, by omega, by omega, rfl, by go_num, e 6 (by simp only [stepI]; (repeat' split) <;> first | rfl | (exfalso; omega))⟩
                 | exact ⟨7, k + 1, by omega, by omega, rfl, by go_num, e 7 (by simp only [stepI]; (repeat' split) <;> first | rfl | (exfalso; omega))⟩
                 | exact ⟨8, k + 1, by omega, by omega, rfl, by go_num, e 8 (by simp only [stepI]; (repeat' split) <;> first | rfl | (exfalso; omega))⟩
             case measure => go_light; simp [intOf]; omega)
    · have HE : Hid (go 0 s.data.toList = acc st) := by
        unfold Hid; rw [HG.out]; exact acc_end _ _ _ (by rw [← Lib.size_eq]; omega)
      clear HG
      rcases (show st = 0 ∨ st = 1 ∨ st = 2 ∨ st = 3 ∨ st = 4 ∨ st = 5 ∨ st = 6 ∨ st = 7 ∨ st = 8 from by omega) with rfl | rfl | rfl | rfl | rfl | rfl | rfl | rfl | rfl
      all_goals
        go_wp2
        go_ret
        exact ⟨ret_bool (by rw [HE.out]; rfl), rfl⟩
end Go.Proofs.Qxb6000416a
