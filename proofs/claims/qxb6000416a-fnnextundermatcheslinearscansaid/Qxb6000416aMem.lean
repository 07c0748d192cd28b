import Derived.Test.Qxb6000416aProg
import Derived.Test.Qxb6000416aTree
import Derived.WalkKit
import Derived.WalkSpells
import Derived.RegionTactic
import Derived.Deep.QuietTactic
import Derived.BigQuiet
import Derived.Deep.DeepCutAuto
import Derived.Deep.Light
import Derived.Lib.SliceRun
namespace Go.Proofs.Qxb6000416a
open Go.RowKit

/-- The slice at 'ao' of n elements holds F 0, F 1, .. -/
def At (w : World) (ao : Option Addr) (n : Nat) (F : Nat → Value) : Prop :=
  0 < n → ∃ b off, ao = some ⟨b, off, none⟩ ∧ b < w.heap.size ∧ ∀ j, j < n → w.cell? ⟨b, off + j, none⟩ = some (F j)

theorem At.below {w w' : World} {ao : Option Addr} {n : Nat} {F : Nat → Value} (h : At w ao n F) (hb : Below w.heap.size w w') : At w' ao n F := by
  intro hn
  obtain ⟨b, off, rfl, hlt, hc⟩ := h hn
  exact ⟨b, off, rfl, by have := hb.size; omega, fun j hj => (hb.cell (p := ⟨b, off + j, none⟩) hlt).trans (hc j hj)⟩

/-- A row that the call itself has made: n cells at the head of block g. -/
def Row (w : World) (base : Nat) (e : TypeId) (g n : Nat) (F : Nat → Value) : Prop :=
  w.ownsRow base e 1 (.slice (some ⟨g, 0, none⟩) n n) n ((List.range n).map F)

section
variable {w : World} {base : Nat} {e : TypeId} {g n : Nat} {F : Nat → Value}

theorem Row.cell (h : Row w base e g n F) {j : Nat} (hj : j < n) : w.cell? ⟨g, j, none⟩ = some (F j) := by
  rw [World.ownsRow.cellAt h j (by omega)]
  simp [hj]
theorem Row.frozen (h : Row w base e g n F) (j : Nat) : w.frozen? ⟨g, j, none⟩ = false := World.ownsRow.frozenAt h j
theorem Row.ge (h : Row w base e g n F) : base ≤ g ∧ g < w.heap.size := by
  rcases h.2 with ⟨h', _⟩ | ⟨g', cap', cur, h', hb, hg, _⟩
  · simp at h'
  · simp only [Value.slice.injEq, Option.some.injEq, Addr.mk.injEq, and_true, true_and] at h'
    obtain ⟨rfl, rfl⟩ := h'
    exact ⟨hb, by have := Array.getElem?_eq_some_iff.1 hg; exact this.1⟩
theorem Row.store (h : Row w base e g n F) (j : Nat) (u : Value) : Row (w.setCell ⟨g, j, none⟩ u) base e g n (fun i => if i = j then u else F i) := by
  have := (World.ownsRow.stored h j u).1
  unfold Row
  have e : ((List.range n).map F).set j u = (List.range n).map (fun i => if i = j then u else F i) := by
    apply List.ext_getElem?
    intro i
    rw [List.getElem?_set]
    by_cases hi : j = i
    · subst hi
      by_cases hj : j < n <;> simp [hj]
    · have hi' : ¬ i = j := fun x => hi x.symm
      simp only [hi, if_false, List.getElem?_map]
      by_cases hin : i < n
      · simp [hin, hi']
      · simp [hin]
  rw [e] at this
  exact this
theorem Row.at (h : Row w base e g n F) : At w (some ⟨g, 0, none⟩) n F := by
  intro _
  exact ⟨g, 0, rfl, h.ge.2, fun j hj => by rw [Nat.zero_add]; exact h.cell hj⟩
theorem Row.congr {G : Nat → Value} (h : Row w base e g n F) (hc : ∀ j, j < n → F j = G j) : Row w base e g n G := by
  have e : (List.range n).map F = (List.range n).map G := List.map_congr_left (fun j hj => hc j (List.mem_range.1 hj))
  unfold Row at *
  rw [← e]; exact h
theorem Row.drewN (h : Row w base e g n F) (k : Nat) : Row (w.drewN k) base e g n F := by
  cases k <;> exact h
theorem row_made {z : Value} (h : w.ownsRow base e 1 (.slice (some ⟨g, 0, none⟩) n n) n (madeCells #[z] (n * 1)).toList) : Row w base e g n (fun _ => z) := by
  unfold Row
  rw [Nat.mul_one, toList_madeCells_one] at h
  have e : (List.range n).map (fun _ => z) = List.replicate n z := by
    apply List.ext_getElem
    · simp
    · simp
  rw [e]; exact h
end

theorem below_drewN {B : Nat} {a w : World} (h : Below B a w) (k : Nat) : Below B a (w.drewN k) := by
  cases k <;> exact ⟨h.os, h.tape, h.output, h.size, h.block⟩

theorem ret_slice {a b : Option Addr} {n c m d : Nat} (h : a = b) (h1 : n = m) (h2 : c = d) : Ending.returned (.slice a n c) = .returned (.slice b m d) := by rw [h, h1, h2]
theorem ret_int {k : IntKind} {a b : Int} (h : a = b) : Ending.returned (.int k a) = .returned (.int k b) := by rw [h]

theorem Try.info3 : (Try.prog.info? 3).map (fun i => (i.zero, i.size, i.bytes)) = some (some (.int .i64 0), 1, 8) := by kernel_rfl
theorem Try.info4 : (Try.prog.info? 4).map (fun i => (i.zero, i.size, i.bytes)) = some (some (.bool false), 1, 1) := by kernel_rfl

/-- What a clone hands back: a slice of the same elements, in new memory. -/
def Cloned (w : World) (n : Nat) (F : Nat → Value) (e : Ending) (w' : World) : Prop :=
  ∃ ao' c', e = .returned (.slice ao' n c') ∧ (ao' = none → n = 0) ∧ At w' ao' n F ∧ Below w.heap.size w w'

theorem cloned_end {w wr : World} {n : Nat} {F G : Nat → Value} {e : TypeId} (h : Row wr w.heap.size e w.heap.size n G) (hg : ∀ j, j < n → G j = F j) (hb : Below w.heap.size w wr) :
    Cloned w n F (.returned (.slice (some ⟨w.heap.size, 0, none⟩) n n)) wr :=
  ⟨_, _, rfl, by simp, (h.congr hg).at, hb⟩
theorem clone_step {w wr : World} {n k : Nat} {F G : Nat → Value} {z : Value} {e : TypeId} (h : Row wr w.heap.size e w.heap.size n (fun j => if j < k then F j else z)) (hb : Below w.heap.size w wr) (hG : G = fun j => if j < k + 1 then F j else z) :
    Row (wr.setCell ⟨w.heap.size, k, none⟩ (F k)) w.heap.size e w.heap.size n G ∧ Below w.heap.size w (wr.setCell ⟨w.heap.size, k, none⟩ (F k)) := by
  subst hG
  refine ⟨(h.store k (F k)).congr fun j _ => ?_, hb.setCell (Nat.le_refl _) _⟩
  by_cases h1 : j = k
  · subst h1; simp
  · by_cases h2 : j < k
    · simp [h1, h2, show j < k + 1 from by omega]
    · simp [h1, h2, show ¬ j < k + 1 from by omega]

set_option maxHeartbeats 400000 in
theorem cloneInts_any (ao : Option Addr) (n c : Nat) (F : Nat → Int) (w : World) (h : At w ao n (fun j => .int .i64 (F j))) (hnil : ao = none → n = 0) (hn : n ≤ 65536) :
    Calls Try.prog 17 #[.slice ao n c] w fun e w' => Cloned w n (fun j => .int .i64 (F j)) e w' := by
  have hne := fun w => Lib.run_eql_slice_nil (P := Try.prog) w 27 3 ao n c 0 0 Try.underlying27
  cases ao with
  | none =>
    have h0 := hnil rfl
    subst h0
    go_enter Try.func17, Try.ntmps17
    go_wp2
    go_ret
    exact ⟨none, 0, rfl, fun _ => rfl, fun h => absurd h (by omega), Below.refl _ _⟩
  | some a =>
    obtain ⟨i0, hi, hz0, hz1, hz2⟩ := info_parts Try.info3
    have HA : Hid (At w (some a) n (fun j => .int .i64 (F j))) := h
    clear h hnil
    go_enter Try.func17, Try.ntmps17
    go_wp2_with (at_make; refine wpList_make_full _ rfl _ _ 27 rfl w.heap.size 3 i0 (.int .i64 0) 1 Try.underlying27 hi hz0 hz1 _ _ _ _ n rfl rfl rfl rfl (by rw [hz2]; omega) (by unfold maxLen; omega) (Nat.le_refl _) ?_; intro w1 hown hgrow)
    have hrow : Row w1 w.heap.size 3 w.heap.size n (fun _ => .int .i64 0) := row_made hown
    have hb1 : Below w.heap.size w w1 := (Below.refl _ _).grown hgrow (Nat.le_refl _) (by simp)
    clear hown hgrow hne hi hz0 hz1 hz2
    go_loopw [4] (fun i wr => ∃ k : Nat, k ≤ n ∧ i = .int .i64 k ∧ Row wr w.heap.size 3 w.heap.size n (fun j => if j < k then .int .i64 (F j) else .int .i64 0) ∧ Below w.heap.size w wr) (fun i _ => n - (intOf i).toNat)
    case atStart => exact ⟨0, Nat.zero_le _, rfl, hrow.congr (fun j _ => by simp), hb1⟩
    case round =>
      obtain ⟨k, hk, rfl, hr, hb⟩ := hrel
      by_cases hlt : k < n
      · obtain ⟨b, off, hab, hbs, hcell⟩ := HA.out (by omega)
        obtain rfl : a = ⟨b, off, none⟩ := by simpa using hab
        have hc := (hb.cell (p := ⟨b, off + k, none⟩) hbs).trans (hcell k hlt)
        have hc2 := hr.cell hlt
        have hf2 := hr.frozen k
        have HR : Hid (Row wr w.heap.size 3 w.heap.size n (fun j => if j < k then .int .i64 (F j) else .int .i64 0) ∧ Below w.heap.size w wr) := ⟨hr, hb⟩
        clear hcell hab hr hb hrow hb1
        go_wp2
        go_roundw
        case rel =>
          obtain ⟨r1, r2⟩ := clone_step (F := fun j => .int .i64 (F j)) HR.out.1 HR.out.2 rfl
          exact ⟨k + 1, by omega, by go_num, r1, r2⟩
        case measure => simp [intOf]; omega
      · have HE : Hid (Cloned w n (fun j => .int .i64 (F j)) (.returned (.slice (some ⟨w.heap.size, 0, none⟩) n n)) wr) :=
          cloned_end hr (fun j hj => by rw [if_pos (show j < k by omega)]) hb
        clear hr hb hrow hb1
        go_wp2
        go_ret
        exact HE.out
set_option maxHeartbeats 400000 in
theorem cloneBools_any (ao : Option Addr) (n c : Nat) (F : Nat → Bool) (w : World) (h : At w ao n (fun j => .bool (F j))) (hnil : ao = none → n = 0) (hn : n ≤ 65536) :
    Calls Try.prog 18 #[.slice ao n c] w fun e w' => Cloned w n (fun j => .bool (F j)) e w' := by
  have hne := fun w => Lib.run_eql_slice_nil (P := Try.prog) w 28 4 ao n c 0 0 Try.underlying28
  cases ao with
  | none =>
    have h0 := hnil rfl
    subst h0
    go_enter Try.func18, Try.ntmps18
    go_wp2
    go_ret
    exact ⟨none, 0, rfl, fun _ => rfl, fun h => absurd h (by omega), Below.refl _ _⟩
  | some a =>
    obtain ⟨i0, hi, hz0, hz1, hz2⟩ := info_parts Try.info4
    have HA : Hid (At w (some a) n (fun j => .bool (F j))) := h
    clear h hnil
    go_enter Try.func18, Try.ntmps18
    go_wp2_with (at_make; refine wpList_make_full _ rfl _ _ 28 rfl w.heap.size 4 i0 (.bool false) 1 Try.underlying28 hi hz0 hz1 _ _ _ _ n rfl rfl rfl rfl (by rw [hz2]; omega) (by unfold maxLen; omega) (Nat.le_refl _) ?_; intro w1 hown hgrow)
    have hrow : Row w1 w.heap.size 4 w.heap.size n (fun _ => .bool false) := row_made hown
    have hb1 : Below w.heap.size w w1 := (Below.refl _ _).grown hgrow (Nat.le_refl _) (by simp)
    clear hown hgrow hne hi hz0 hz1 hz2
    go_loopw [4] (fun i wr => ∃ k : Nat, k ≤ n ∧ i = .int .i64 k ∧ Row wr w.heap.size 4 w.heap.size n (fun j => if j < k then .bool (F j) else .bool false) ∧ Below w.heap.size w wr) (fun i _ => n - (intOf i).toNat)
    case atStart => exact ⟨0, Nat.zero_le _, rfl, hrow.congr (fun j _ => by simp), hb1⟩
    case round =>
      obtain ⟨k, hk, rfl, hr, hb⟩ := hrel
      by_cases hlt : k < n
      · obtain ⟨b, off, hab, hbs, hcell⟩ := HA.out (by omega)
        obtain rfl : a = ⟨b, off, none⟩ := by simpa using hab
        have hc := (hb.cell (p := ⟨b, off + k, none⟩) hbs).trans (hcell k hlt)
        have hc2 := hr.cell hlt
        have hf2 := hr.frozen k
        have HR : Hid (Row wr w.heap.size 4 w.heap.size n (fun j => if j < k then .bool (F j) else .bool false) ∧ Below w.heap.size w wr) := ⟨hr, hb⟩
        clear hcell hab hr hb hrow hb1
        go_wp2
        go_roundw
        case rel =>
          obtain ⟨r1, r2⟩ := clone_step (F := fun j => .bool (F j)) HR.out.1 HR.out.2 rfl
          exact ⟨k + 1, by omega, by go_num, r1, r2⟩
        case measure => simp [intOf]; omega
      · have HE : Hid (Cloned w n (fun j => .bool (F j)) (.returned (.slice (some ⟨w.heap.size, 0, none⟩) n n)) wr) :=
          cloned_end hr (fun j hj => by rw [if_pos (show j < k by omega)]) hb
        clear hr hb hrow hb1
        go_wp2
        go_ret
        exact HE.out

/-- A slot is valid where 'valid' says so. -/
def valB (nv : Nat) (B : Nat → Bool) (s : Nat) : Bool := decide (s < nv) && B s

set_option maxHeartbeats 400000 in
theorem isValid_any (ao : Option Addr) (nv c : Nat) (B : Nat → Bool) (s : Nat) (w : World) (h : At w ao nv (fun j => .bool (B j))) (hs : s ≤ 1000000) :
    Calls Try.prog 21 #[.slice ao nv c, .int .i64 s] w fun e w' => e = .returned (.bool (valB nv B s)) ∧ w = w' := by
  by_cases hlt : s < nv
  · obtain ⟨b, off, rfl, hbs, hcell⟩ := h (by omega)
    have hc := hcell s hlt
    have hl : (s : Int) < (nv : Int) := by omega
    have e : Hid (valB nv B s = B s) := by unfold Hid valB; simp [hlt]
    clear hcell h
    go_enter Try.func21, Try.ntmps21
    go_wp2
    go_ret
    exact ⟨by rw [e.out]; rfl, rfl⟩
  · have e : Hid (valB nv B s = false) := by unfold Hid valB; simp [hlt]
    have hl : (nv : Int) ≤ (s : Int) := by omega
    clear h
    go_enter Try.func21, Try.ntmps21
    go_wp2
    go_ret
    exact ⟨by rw [e.out]; rfl, rfl⟩
end Go.Proofs.Qxb6000416a
