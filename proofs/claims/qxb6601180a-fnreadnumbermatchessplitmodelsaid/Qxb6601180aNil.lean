import Derived.Test.Qxb6601180aRead
import Derived.Test.Qxb6601180aFind
namespace Go.Proofs.Qxb6601180a
open Go.RowKit Rd

/-- The empty number, and no. -/
def NoEnd (w : World) (e : Ending) (w' : World) : Prop := e = .returned (.tuple #[.agg #[.bool false, .slice none 0 0, .slice none 0 0, .slice none 0 0], .bool false]) ∧ Below w.heap.size w w'

set_option maxRecDepth 20000 in
set_option maxHeartbeats 1000000 in
theorem digits_nil (w : World) (B Bi : Nat) (c1 : w.cell? ⟨Bi, 0, none⟩ = some (.int .i64 0)) (c2 : w.cell? ⟨B, 0, none⟩ = some (.slice none 0 0)) :
    Calls Try.prog 19 #[.pointer (some ⟨Bi, 0, none⟩), .pointer (some ⟨B, 0, none⟩)] w fun e w' => e = .returned (.slice none 0 0) ∧ w = w' := by
  go_enter Try.func19, Try.ntmps19
  go_wp2_with fail
  refine wp_loop_rounds 1 ?_
  rw [rounds_succ]
  go_wp2_with fail
  go_ret
  exact ⟨rfl, rfl⟩

set_option maxRecDepth 20000 in
set_option maxHeartbeats 1000000 in
theorem read_nil (w : World) : Calls Try.prog 14 #[.slice none 0 0] w fun e w' => NoEnd w e w' := by
  go_enter Try.func14, Try.ntmps14
  go_wp2_with fail
  refine (digits_nil _ _ _ ?_ ?_).mono ?_
  · refine cell_of_one (t := 3) ?_
    show ((((w.heap.push _).push _).push _).push _)[w.heap.size + 1 + 1 + 1]? = _
    simp only [Array.getElem?_push, Array.size_push]
    rw [if_pos trivial]
  · refine cell_of_one (t := 22) ?_
    show ((((w.heap.push _).push _).push _).push _)[w.heap.size]? = _
    simp only [Array.getElem?_push, Array.size_push]
    rw [if_neg (by omega), if_neg (by omega), if_neg (by omega), if_pos trivial]
  rintro e w1 ⟨rfl, rfl⟩
  go_wp2_with fail
  exact bodyPost_ret (v := .tuple #[.agg #[.bool false, .slice none 0 0, .slice none 0 0, .slice none 0 0], .bool false]) (by simp [results, Try.results14, go_sem]) rfl ⟨rfl, ((((Below.refl _ _).alloc (Nat.le_refl _) _).alloc (by simp) _).alloc (by simp; omega) _).alloc (by simp; omega) _⟩

theorem sl_nil (w : World) (g : Nat) (F : Nat → Int) : Sl w (.slice none 0 0) g 0 0 F := ⟨⟨none, 0, rfl, fun q => by omega, Nat.le_refl _⟩, fun j _ q => by omega⟩
theorem find_none0 {P : Int → Prop} {F : Nat → Int} {w : World} {e : Ending} {w' : World} (h : FindEnd P F 0 0 w e w') : e = .returned (.int .i64 (-1)) ∧ w = w' := by
  obtain ⟨f, k, h1, rfl, rfl⟩ := h
  cases f with
  | true => have := (h1.1 rfl).2.1; omega
  | false => exact ⟨by simp, rfl⟩

set_option maxRecDepth 20000 in
set_option maxHeartbeats 1000000 in
theorem model_nil (w : World) : Calls Try.prog 9 #[.slice none 0 0] w fun e w' => e = .returned (.tuple #[.bool false, .slice none 0 0, .slice none 0 0, .slice none 0 0, .bool false]) ∧ w = w' := by
  have h15 : Hid (∀ W, Calls Try.prog 15 #[.slice none 0 0] W fun e w' => e = .returned (.int .i64 (-1)) ∧ W = w') := fun W => (indexE_any W _ 0 0 0 (fun _ => 0) (sl_nil W 0 _) (by omega) (by omega)).mono fun _ _ q => find_none0 q
  have h16 : Hid (∀ W, Calls Try.prog 16 #[.slice none 0 0, .int .u8 46] W fun e w' => e = .returned (.int .i64 (-1)) ∧ W = w') := fun W => (indexP_any W _ 0 0 0 (fun _ => 0) (sl_nil W 0 _) (by omega) (by omega)).mono fun _ _ q => find_none0 q
  go_enter Try.func9, Try.ntmps9
  go_wp2_with (first | (go_at_call 15; refine (h15.out _).mono ?_; rintro e w1 ⟨rfl, rfl⟩) | (go_at_call 16; refine (h16.out _).mono ?_; rintro e w1 ⟨rfl, rfl⟩))
  exact bodyPost_ret (v := .tuple #[.bool false, .slice none 0 0, .slice none 0 0, .slice none 0 0, .bool false]) (by simp [results, Try.results9, go_sem]) rfl ⟨rfl, rfl⟩
end Go.Proofs.Qxb6601180a
