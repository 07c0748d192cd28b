import Derived.Test.Qxb6000416aMem
namespace Go.Proofs.Qxb6000416a
open Go.RowKit Tree

theorem pick_lt {H : Nat → Int} {x y : Nat} (h : H y < H x) : pickI H (x : Int) (y : Int) = x := by
  unfold pickI; rw [if_neg (by omega), if_neg (by omega)]; simp [h]
theorem pick_eq {H : Nat → Int} {x y : Nat} (h : H x = H y) (h2 : (x : Int) < (y : Int)) : pickI H (x : Int) (y : Int) = x := by
  unfold pickI; rw [if_neg (by omega), if_neg (by omega)]; simp only [Int.toNat_natCast]; rw [if_pos (.inr ⟨h, h2⟩)]
theorem pick_not {H : Nat → Int} {x y : Nat} (h : ¬ H y < H x) (h2 : ¬ (H x = H y ∧ (x : Int) < (y : Int))) : pickI H (x : Int) (y : Int) = y := by
  unfold pickI; rw [if_neg (by omega), if_neg (by omega)]; simp only [Int.toNat_natCast]; rw [if_neg (by rintro (q | q); exact h q; exact h2 q)]

/-- pick and higher hand back the better slot; they may draw. -/
def PickEnd (w : World) (v : Int) (e : Ending) (w' : World) : Prop := e = .returned (.int .i64 v) ∧ ∃ m, w.drewN m = w'
theorem pickEnd_same {w : World} {v u : Int} (h : u = v) : PickEnd w v (.returned (.int .i64 u)) w := ⟨by rw [h], 0, rfl⟩
theorem pickEnd_drew {w : World} {v u : Int} (m : Nat) (h : u = v) : PickEnd w v (.returned (.int .i64 u)) (w.drewN m) := ⟨by rw [h], m, rfl⟩

set_option maxHeartbeats 1000000 in
theorem pick_any (ao : Option Addr) (n c : Nat) (H : Nat → Int) (a b : Int) (w : World) (h : At w ao n (fun j => .int .i64 (H j))) (ha : a < n) (hb : b < n) :
    Calls Try.prog 23 #[.slice ao n c, .int .i64 a, .int .i64 b] w fun e w' => PickEnd w (pickI H a b) e w' := by
  by_cases h1 : a < 0
  · have HE : Hid (b = pickI H a b) := by unfold Hid pickI; rw [if_pos h1]
    go_enter Try.func23, Try.ntmps23
    go_wp2
    go_ret
    exact pickEnd_same HE.out
  by_cases h2 : b < 0
  · have HE : Hid (a = pickI H a b) := by unfold Hid pickI; rw [if_neg h1, if_pos h2]
    go_enter Try.func23, Try.ntmps23
    go_wp2
    go_ret
    exact pickEnd_same HE.out
  obtain ⟨x, rfl⟩ : ∃ x : Nat, a = x := ⟨a.toNat, by omega⟩
  obtain ⟨y, rfl⟩ : ∃ y : Nat, b = y := ⟨b.toNat, by omega⟩
  obtain ⟨bk, off, rfl, hbs, hcell⟩ := h (by omega)
  have hx := hcell x (by omega)
  have hy := hcell y (by omega)
  clear hcell h h1 h2
  by_cases c1 : H y < H x
  · have HE : Hid ((x : Int) = pickI H x y) := (pick_lt c1).symm
    go_enter Try.func23, Try.ntmps23
    go_wp2
    go_quiet (fail)
    go_wp2
    go_ret
    exact pickEnd_drew _ HE.out
  have d1 : decide (H y < H x) = false := by simpa using c1
  by_cases c2 : H x = H y
  · have d2 : (H x == H y) = true := by simpa using c2
    by_cases c3 : (x : Int) < (y : Int)
    · have HE : Hid ((x : Int) = pickI H x y) := (pick_eq c2 c3).symm
      clear c2
      go_enter Try.func23, Try.ntmps23
      go_wp2
      go_quiet (fail)
      go_wp2
      go_ret
      exact pickEnd_drew _ HE.out
    · have HE : Hid ((y : Int) = pickI H x y) := (pick_not c1 (fun q => c3 q.2)).symm
      clear c2
      go_enter Try.func23, Try.ntmps23
      go_wp2
      go_quiet (fail)
      go_wp2
      go_ret
      exact pickEnd_drew _ HE.out
  · have d2 : (H x == H y) = false := by simpa using c2
    have HE : Hid ((y : Int) = pickI H x y) := (pick_not c1 (fun q => c2 q.1)).symm
    go_enter Try.func23, Try.ntmps23
    go_wp2
    go_quiet (fail)
    go_wp2
    go_ret
    exact pickEnd_drew _ HE.out
set_option maxHeartbeats 1000000 in
theorem higher_any (p : Nat) (ao : Option Addr) (n c : Nat) (H : Nat → Int) (a b : Int) (w : World) (hf : w.cell? ⟨p, 3, none⟩ = some (.slice ao n c)) (h : At w ao n (fun j => .int .i64 (H j))) (ha : a < n) (hb : b < n) :
    Calls Try.prog 32 #[.pointer (some ⟨p, 0, none⟩), .int .i64 a, .int .i64 b] w fun e w' => PickEnd w (pickI H a b) e w' := by
  by_cases h1 : a < 0
  · have HE : Hid (b = pickI H a b) := by unfold Hid pickI; rw [if_pos h1]
    go_enter Try.func32, Try.ntmps32
    go_wp2
    go_ret
    exact pickEnd_same HE.out
  by_cases h2 : b < 0
  · have HE : Hid (a = pickI H a b) := by unfold Hid pickI; rw [if_neg h1, if_pos h2]
    go_enter Try.func32, Try.ntmps32
    go_wp2
    go_ret
    exact pickEnd_same HE.out
  obtain ⟨x, rfl⟩ : ∃ x : Nat, a = x := ⟨a.toNat, by omega⟩
  obtain ⟨y, rfl⟩ : ∃ y : Nat, b = y := ⟨b.toNat, by omega⟩
  obtain ⟨bk, off, rfl, hbs, hcell⟩ := h (by omega)
  have hx := hcell x (by omega)
  have hy := hcell y (by omega)
  clear hcell h h1 h2
  by_cases c1 : H y < H x
  · have HE : Hid ((x : Int) = pickI H x y) := (pick_lt c1).symm
    go_enter Try.func32, Try.ntmps32
    go_wp2
    go_quiet (fail)
    go_wp2
    go_ret
    exact pickEnd_drew _ HE.out
  have d1 : decide (H y < H x) = false := by simpa using c1
  by_cases c2 : H x = H y
  · have d2 : (H x == H y) = true := by simpa using c2
    by_cases c3 : (x : Int) < (y : Int)
    · have HE : Hid ((x : Int) = pickI H x y) := (pick_eq c2 c3).symm
      clear c2
      go_enter Try.func32, Try.ntmps32
      go_wp2
      go_quiet (fail)
      go_wp2
      go_ret
      exact pickEnd_drew _ HE.out
    · have HE : Hid ((y : Int) = pickI H x y) := (pick_not c1 (fun q => c3 q.2)).symm
      clear c2
      go_enter Try.func32, Try.ntmps32
      go_wp2
      go_quiet (fail)
      go_wp2
      go_ret
      exact pickEnd_drew _ HE.out
  · have d2 : (H x == H y) = false := by simpa using c2
    have HE : Hid ((y : Int) = pickI H x y) := (pick_not c1 (fun q => c2 q.1)).symm
    go_enter Try.func32, Try.ntmps32
    go_wp2
    go_quiet (fail)
    go_wp2
    go_ret
    exact pickEnd_drew _ HE.out
end Go.Proofs.Qxb6000416a
