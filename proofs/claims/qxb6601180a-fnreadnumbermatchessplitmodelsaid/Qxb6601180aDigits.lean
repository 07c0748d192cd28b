import Derived.Test.Qxb6601180aMem
import Derived.OneCell
import Derived.Deep.LoopGhost
namespace Go.Proofs.Qxb6601180a
open Go.RowKit Rd

/-- readNumber's own four variables: the text (B), the result (Br), the number (Bn), the place (Bi); below them the world is as it was. -/
structure Inv (w0 w : World) (B Br Bn Bi g n : Nat) (v0 v1 v2 v3 : Value) (i : Nat) : Prop where
  o1 : B < Br
  o2 : Br < Bn
  o3 : Bn < Bi
  text : w.heap[B]? = some (.cells #[.slice (some ⟨g, 0, none⟩) n n] 22 (0, 0))
  res : w.heap[Br]? = some (.cells #[.bool false, .slice none 0 0, .slice none 0 0, .slice none 0 0] 30 (0, 0))
  num : w.heap[Bn]? = some (.cells #[v0, v1, v2, v3] 30 (0, 0))
  idx : w.heap[Bi]? = some (.cells #[.int .i64 i] 3 (0, 0))
  below : Below B w0 w

section
variable {w0 w : World} {B Br Bn Bi g n : Nat} {v0 v1 v2 v3 : Value} {i : Nat}

theorem Inv.setI (h : Inv w0 w B Br Bn Bi g n v0 v1 v2 v3 i) (j : Nat) : Inv w0 (w.setCell ⟨Bi, 0, none⟩ (.int .i64 j)) B Br Bn Bi g n v0 v1 v2 v3 j := by
  have o1 := h.o1; have o2 := h.o2; have o3 := h.o3
  exact ⟨o1, o2, o3, by rw [Below.heap_setCell _ _ _ _ (by dsimp only; omega)]; exact h.text, by rw [Below.heap_setCell _ _ _ _ (by dsimp only; omega)]; exact h.res, by rw [Below.heap_setCell _ _ _ _ (by dsimp only; omega)]; exact h.num,
    one_setCell h.idx, h.below.setCell (by dsimp only; omega) _⟩
theorem Inv.setN (h : Inv w0 w B Br Bn Bi g n v0 v1 v2 v3 i) (k : Nat) (v : Value) (u0 u1 u2 u3 : Value) (e : (#[v0, v1, v2, v3] : Array Value).setIfInBounds k v = #[u0, u1, u2, u3]) : Inv w0 (w.setCell ⟨Bn, k, none⟩ v) B Br Bn Bi g n u0 u1 u2 u3 i := by
  have o1 := h.o1; have o2 := h.o2; have o3 := h.o3
  exact ⟨o1, o2, o3, by rw [Below.heap_setCell _ _ _ _ (by dsimp only; omega)]; exact h.text, by rw [Below.heap_setCell _ _ _ _ (by dsimp only; omega)]; exact h.res, by rw [heap_setCell_same w Bn k _ 30 v h.num, e],
    by rw [Below.heap_setCell _ _ _ _ (by dsimp only; omega)]; exact h.idx, h.below.setCell (by dsimp only; omega) _⟩
theorem Inv.cText (h : Inv w0 w B Br Bn Bi g n v0 v1 v2 v3 i) : w.cell? ⟨B, 0, none⟩ = some (.slice (some ⟨g, 0, none⟩) n n) := cell_of_one h.text
theorem Inv.cIdx (h : Inv w0 w B Br Bn Bi g n v0 v1 v2 v3 i) : w.cell? ⟨Bi, 0, none⟩ = some (.int .i64 i) := cell_of_one h.idx
theorem Inv.fIdx (h : Inv w0 w B Br Bn Bi g n v0 v1 v2 v3 i) : w.frozen? ⟨Bi, 0, none⟩ = false := free_of_one h.idx
theorem Inv.cNum (h : Inv w0 w B Br Bn Bi g n v0 v1 v2 v3 i) : w.cell? ⟨Bn, 0, none⟩ = some v0 ∧ w.cell? ⟨Bn, 1, none⟩ = some v1 ∧ w.cell? ⟨Bn, 2, none⟩ = some v2 ∧ w.cell? ⟨Bn, 3, none⟩ = some v3 := by
  refine ⟨?_, ?_, ?_, ?_⟩ <;> rw [cell_of_row w Bn _ _ 30 (0, 0) h.num] <;> rfl
theorem Inv.fNum (h : Inv w0 w B Br Bn Bi g n v0 v1 v2 v3 i) (k : Nat) : w.frozen? ⟨Bn, k, none⟩ = false := frozen_of_row w Bn k _ 30 h.num
theorem Inv.cRes (h : Inv w0 w B Br Bn Bi g n v0 v1 v2 v3 i) : w.cell? ⟨Br, 0, none⟩ = some (.bool false) ∧ w.cell? ⟨Br, 1, none⟩ = some (.slice none 0 0) ∧ w.cell? ⟨Br, 2, none⟩ = some (.slice none 0 0) ∧ w.cell? ⟨Br, 3, none⟩ = some (.slice none 0 0) := by
  refine ⟨?_, ?_, ?_, ?_⟩ <;> rw [cell_of_row w Br _ _ 30 (0, 0) h.res] <;> rfl
theorem Inv.fRes (h : Inv w0 w B Br Bn Bi g n v0 v1 v2 v3 i) (k : Nat) : w.frozen? ⟨Br, k, none⟩ = false := frozen_of_row w Br k _ 30 h.res
end

/-- v is text[lo:hi]. -/
def IsSl (g lo hi : Nat) (v : Value) : Prop := ∃ ao c, v = .slice ao (hi - lo) c ∧ (lo < hi → ao = some ⟨g, lo, none⟩)

/-- How a call of digits ends. -/
def DigEnd (w0 : World) (B Br Bn Bi g n : Nat) (v0 v1 v2 v3 : Value) (F : Nat → Int) (i : Nat) (e : Ending) (w' : World) : Prop :=
  ∃ j v, e = .returned v ∧ Run F n i j ∧ IsSl g i j v ∧ Inv w0 w' B Br Bn Bi g n v0 v1 v2 v3 j

theorem al_step {F : Nat → Int} {i j : Nat} (h : Al F i j) (h1 : 48 ≤ F j) (h2 : F j ≤ 57) : Al F i (j + 1) := by
  intro k k1 k2
  by_cases e : k = j
  · subst e; exact ⟨h1, h2⟩
  · exact h k k1 (by omega)

set_option maxRecDepth 20000 in
set_option maxHeartbeats 1000000 in
theorem digits_any (w0 w : World) (B Br Bn Bi g n : Nat) (v0 v1 v2 v3 : Value) (F : Nat → Int) (i : Nat) (h : Inv w0 w B Br Bn Bi g n v0 v1 v2 v3 i) (ht : Txt w0 g n F) (hg : g < B) (hi : i ≤ n) (hn : n ≤ 1048576) :
    Calls Try.prog 19 #[.pointer (some ⟨Bi, 0, none⟩), .pointer (some ⟨B, 0, none⟩)] w fun e w' => DigEnd w0 B Br Bn Bi g n v0 v1 v2 v3 F i e w' := by
  have HT : Hid (Txt w0 g n F) := ht
  have HI : Hid (Inv w0 w B Br Bn Bi g n v0 v1 v2 v3 i) := h
  have c1 := h.cIdx
  clear h ht
  go_enter Try.func19, Try.ntmps19
  go_wp2_with fail
  clear c1
  go_loopg [] (n - i) (fun k wr => ∃ j, k = n - j ∧ i ≤ j ∧ j ≤ n ∧ Al F i j ∧ Inv w0 wr B Br Bn Bi g n v0 v1 v2 v3 j)
  case atStart => exact ⟨i, rfl, Nat.le_refl _, hi, fun k _ _ => by omega, HI.out⟩
  case round =>
    obtain ⟨j, rfl, hij, hjn, hal, hinv⟩ := hrel
    have HR : Hid (Al F i j ∧ Inv w0 wr B Br Bn Bi g n v0 v1 v2 v3 j) := ⟨hal, hinv⟩
    have c1 := hinv.cIdx
    have c2 := hinv.cText
    have c3 := hinv.fIdx
    have hti := HT.out.below hg hinv.below
    clear hal hinv
    by_cases hlt : j < n
    · have c4 := hti.cell j hlt
      have hl : (j : Int) < (n : Int) := by omega
      clear hti
      by_cases h1 : 48 ≤ F j
      · by_cases h2 : F j ≤ 57
        · go_wp2_with fail
          go_roundg (n - (j + 1))
          case measure => omega
          case rel => exact ⟨j + 1, rfl, by omega, by omega, al_step HR.out.1 h1 h2, by have := HR.out.2.setI (j + 1); simpa using this⟩
        · go_wp2_with fail
          go_ret
          exact ⟨j, _, rfl, ⟨hij, hjn, HR.out.1, .inr fun q => by have := q.2; omega⟩, ⟨_, _, rfl, fun _ => rfl⟩, HR.out.2⟩
      · go_wp2_with fail
        go_ret
        exact ⟨j, _, rfl, ⟨hij, hjn, HR.out.1, .inr fun q => by have := q.1; omega⟩, ⟨_, _, rfl, fun _ => rfl⟩, HR.out.2⟩
    · obtain rfl : j = n := by omega
      clear hti
      by_cases hin : i < j
      · go_wp2_with fail
        go_ret
        exact ⟨j, _, rfl, ⟨hij, hjn, HR.out.1, .inl rfl⟩, ⟨_, _, rfl, fun _ => rfl⟩, HR.out.2⟩
      · obtain rfl : i = j := by omega
        go_wp2_with fail
        go_ret
        exact ⟨i, _, rfl, ⟨hij, hjn, HR.out.1, .inl rfl⟩, ⟨some ⟨g, 0, none⟩, 0, by rw [Nat.sub_self]; rfl, fun q => by omega⟩, HR.out.2⟩
end Go.Proofs.Qxb6601180a
