import Derived.Test.Qxb6601180aProg
import Derived.Test.Qxb6601180aNum
import Derived.WalkKit
import Derived.WalkSpells
import Derived.RegionTactic
import Derived.Deep.QuietTactic
import Derived.BigQuiet
import Derived.Deep.DeepCutAuto
import Derived.Deep.Light
import Derived.Lib.SliceRun
import Derived.Laws.CopyOwn
namespace Go.Proofs.Qxb6601180a
open Go.RowKit Rd

/-- The slice at 'ao' of n elements holds F 0, F 1, .. -/
def At (w : World) (ao : Option Addr) (n : Nat) (F : Nat → Value) : Prop :=
  0 < n → ∃ b off, ao = some ⟨b, off, none⟩ ∧ b < w.heap.size ∧ ∀ j, j < n → w.cell? ⟨b, off + j, none⟩ = some (F j)

/-- A row of n bytes at the head of block g. -/
structure Txt (w : World) (g n : Nat) (F : Nat → Int) : Prop where
  lt : g < w.heap.size
  cell : ∀ j, j < n → w.cell? ⟨g, j, none⟩ = some (.int .u8 (F j))

theorem Txt.below {w w' : World} {g n : Nat} {F : Nat → Int} (h : Txt w g n F) {B : Nat} (hB : g < B) (hb : Below B w w') : Txt w' g n F :=
  ⟨by have := hb.size; have := h.lt; omega, fun j hj => (hb.cell (p := ⟨g, j, none⟩) hB).trans (h.cell j hj)⟩

theorem Try.info5 : (Try.prog.info? 5).map (fun i => (i.zero, i.size, i.bytes)) = some (some (.int .u8 0), 1, 1) := by kernel_rfl
theorem Try.size5 : (Try.prog.info? 5).map (·.size) = some 1 := by kernel_rfl

theorem block_of_row {w : World} {base : Nat} {e : TypeId} {g n : Nat} {z : Value} (h : w.ownsRow base e 1 (.slice (some ⟨g, 0, none⟩) n n) n (madeCells #[z] (n * 1)).toList) :
    w.heap[g]? = some (.cells (List.replicate n z).toArray e (0, 0)) := by
  rcases h.2 with ⟨h', _⟩ | ⟨g', cap', cur, h', hb, hg, _, _, hcs, htake⟩
  · simp at h'
  · simp only [Value.slice.injEq, Option.some.injEq, Addr.mk.injEq, and_true, true_and] at h'
    obtain ⟨rfl, rfl⟩ := h'
    rw [hg]
    rw [Nat.mul_one, toList_madeCells_one] at htake
    rw [List.take_of_length_le (by rw [Array.length_toList]; omega)] at htake
    rw [← htake]

theorem txt_of_block {w : World} {g n : Nat} {F : Nat → Int} (h : w.heap[g]? = some (.cells (splice (List.replicate n (Value.int .u8 0)) 0 ((List.range n).map (fun j => Value.int .u8 (F j)))).toArray 5 (0, 0))) : Txt w g n F := by
  refine ⟨(Array.getElem?_eq_some_iff.1 h).1, fun j hj => ?_⟩
  have e : splice (List.replicate n (Value.int .u8 0)) 0 ((List.range n).map (fun j => Value.int .u8 (F j))) = (List.range n).map (fun j => Value.int .u8 (F j)) := by
    simp [splice]
  rw [e] at h
  rw [cell_of_row w g j _ 5 (0, 0) h]
  simp [hj]

/-- What zzCloneBytes hands back. -/
def Cloned (w : World) (ao : Option Addr) (n : Nat) (F : Nat → Int) (e : Ending) (w' : World) : Prop :=
  (ao = none ∧ n = 0 ∧ e = .returned (.slice none 0 0) ∧ w' = w) ∨ (∃ g, e = .returned (.slice (some ⟨g, 0, none⟩) n n) ∧ Txt w' g n F ∧ Below w.heap.size w w')

set_option maxHeartbeats 400000 in
theorem clone_any (ao : Option Addr) (n c : Nat) (F : Nat → Int) (w : World) (h : At w ao n (fun j => .int .u8 (F j))) (hnil : ao = none → n = 0) (hn : n ≤ 1048576) :
    Calls Try.prog 7 #[.slice ao n c] w fun e w' => Cloned w ao n F e w' := by
  have hne := fun w => Lib.run_eql_slice_nil (P := Try.prog) w 22 5 ao n c 0 0 Try.underlying22
  cases ao with
  | none =>
    have h0 := hnil rfl
    subst h0
    go_enter Try.func7, Try.ntmps7
    go_wp2
    go_ret
    exact .inl ⟨rfl, rfl, rfl, rfl⟩
  | some a =>
    obtain ⟨i0, hi, hz0, hz1, hz2⟩ := info_parts Try.info5
    have HA : Hid (At w (some a) n (fun j => .int .u8 (F j))) := h
    clear h hnil
    obtain ⟨cs, hcs⟩ : ∃ cs, cs = (List.range n).map (fun j => Value.int .u8 (F j)) := ⟨_, rfl⟩
    have HC : Hid (cs = (List.range n).map (fun j => Value.int .u8 (F j))) := hcs
    have hl : cs.length = n := by rw [hcs]; simp
    have HL : Hid (cs.length = n) := hl
    clear hcs hl
    go_enter Try.func7, Try.ntmps7
    go_upto_region 4 with (at_make; refine wpList_make_full _ rfl _ _ 22 rfl w.heap.size 5 i0 (.int .u8 0) 1 Try.underlying22 hi hz0 hz1 _ _ _ _ n rfl rfl rfl rfl (by rw [hz2]; omega) (by unfold maxLen; omega) (Nat.le_refl _) ?_; intro w1 hown hgrow; have hblk := block_of_row hown; have hb1 : Below w.heap.size w w1 := (Below.refl _ _).grown hgrow (Nat.le_refl _) (by simp); clear hown hgrow)
    go_wp2_with (refine wpList_copy_splice rfl (.tmp 9) (.tmp 10) 22 22 rfl 5 Try.underlying22 Try.size5 _ _ _ _ _ _ rfl rfl w.heap.size 0 (List.replicate n (.int .u8 0)) 5 hblk cs ?hn ?hpos ?hfit ?hone w.heap.size w hb1 (Nat.le_refl _) ?_)
    case hn => rw [HL.out]; simp
    case hpos =>
      intro h0
      obtain ⟨b, off, hab, hbs, hcell⟩ := HA.out (by rw [HL.out] at h0; exact h0)
      intro j v hj
      obtain rfl : a = ⟨b, off, none⟩ := by simpa using hab
      rw [HC.out] at hj
      have hjn : j < n := by
        rcases Nat.lt_or_ge j n with q | q
        · exact q
        · rw [List.getElem?_eq_none (by simpa using q)] at hj; simp at hj
      simp [hjn] at hj
      subst hj
      rw [WideShapes.add_plain, hb1.cell (p := ⟨b, off + j, none⟩) hbs]
      exact hcell j hjn
    case hfit => rw [HL.out]; simp
    case hone =>
      intro v hv
      rw [HC.out] at hv
      simp at hv
      obtain ⟨j, _, rfl⟩ := hv
      rfl
    · intro w2 HG2 hB2
      have HT : Hid (Txt w2 w.heap.size n F) := by
        have := HG2.out
        rw [HC.out] at this
        exact txt_of_block this
      clear HG2 hblk hb1
      go_wp2
      go_ret
      exact .inr ⟨_, rfl, HT.out, hB2⟩
end Go.Proofs.Qxb6601180a
