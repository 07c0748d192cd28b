import Derived.Test.Qxb6601180aModel
import Derived.Test.Qxb6601180aNil
namespace Go.Proofs.Qxb6601180a
open Go.RowKit Rd

theorem below_drew {B : Nat} {a w : World} (h : Below B a w) (k : Nat) : Below B a (w.drewN k) := by
  cases k <;> exact ⟨h.os, h.tape, h.output, h.size, h.block⟩

/-- The five results of ZZReadNumber. -/
def ZZEnd (w : World) (F : Nat → Int) (n g : Nat) (neg : Bool) (s : Nat) (e : Ending) (w' : World) : Prop :=
  ∃ vn vw vf vx ok, e = .returned (.tuple #[vn, vw, vf, vx, .bool ok]) ∧ PartsOf F n g neg s vn vw vf vx ok ∧ Below w.heap.size w w'

theorem PartsOf.shape {F : Nat → Int} {n g s : Nat} {neg ok : Bool} {vn vw vf vx : Value} (h : PartsOf F n g neg s vn vw vf vx ok) :
    ∃ b a1 l1 c1 a2 l2 c2 a3 l3 c3, vn = .bool b ∧ vw = .slice a1 l1 c1 ∧ vf = .slice a2 l2 c2 ∧ vx = .slice a3 l3 c3 := by
  rcases h with ⟨_, _, rfl, rfl, rfl, rfl⟩ | ⟨_, rfl, a, hf, b, hx, _, ⟨a1, c1, rfl, _⟩, hf1, hf2, hx1, hx2⟩
  · exact ⟨_, _, _, _, _, _, _, _, _, _, rfl, rfl, rfl, rfl⟩
  · obtain ⟨a2, l2, c2, rfl⟩ : ∃ x l c, vf = .slice x l c := by
      cases hf with
      | true => obtain ⟨x, c, q, _⟩ := hf1 rfl; exact ⟨_, _, _, q⟩
      | false => exact ⟨_, _, _, hf2 rfl⟩
    obtain ⟨a3, l3, c3, rfl⟩ : ∃ x l c, vx = .slice x l c := by
      cases hx with
      | true => obtain ⟨x, c, q, _⟩ := hx1 rfl; exact ⟨_, _, _, q⟩
      | false => exact ⟨_, _, _, hx2 rfl⟩
    exact ⟨_, _, _, _, _, _, _, _, _, _, rfl, rfl, rfl, rfl⟩

/-- Two slices of one piece of the text, or two empty ones. -/
def PairOK (g n : Nat) (v v' : Value) : Prop := ∃ ao m c1 c2 lo, v = .slice ao m c1 ∧ v' = .slice ao m c2 ∧ (0 < m → ao = some ⟨g, lo, none⟩) ∧ (0 < m → lo + m ≤ n)

theorem pair_nil (g n : Nat) : PairOK g n (.slice none 0 0) (.slice none 0 0) := ⟨none, 0, 0, 0, 0, rfl, rfl, fun q => by omega, fun q => by omega⟩
theorem pair_sl {g n lo hi : Nat} {v v' : Value} (h : IsSl g lo hi v) (h' : IsSl g lo hi v') (hl : lo < hi) (hn : hi ≤ n) : PairOK g n v v' := by
  obtain ⟨a1, c1, rfl, q1⟩ := h
  obtain ⟨a2, c2, rfl, q2⟩ := h'
  rw [q1 hl, q2 hl]
  exact ⟨_, _, _, _, lo, rfl, rfl, fun _ => rfl, fun _ => by omega⟩
theorem exp_lt {F : Nat → Int} {n x : Nat} (h : ExpOK F n x) : x < n := by
  obtain ⟨y, hs, hy, _⟩ := h
  rcases hs with ⟨e, _⟩ | ⟨e, _⟩ <;> omega

theorem parts_agree {F : Nat → Int} {n g s : Nat} {neg ok ok' : Bool} {vn vw vf vx vn' vw' vf' vx' : Value} (h : PartsOf F n g neg s vn vw vf vx ok) (h' : PartsOf F n g neg s vn' vw' vf' vx' ok') :
    ok = ok' ∧ vn = vn' ∧ PairOK g n vw vw' ∧ PairOK g n vf vf' ∧ PairOK g n vx vx' := by
  rcases h with ⟨rfl, hno, rfl, rfl, rfl, rfl⟩ | ⟨rfl, rfl, a, hf, b, hx, hnum, hw, hf1, hf2, hx1, hx2⟩
  · rcases h' with ⟨rfl, _, rfl, rfl, rfl, rfl⟩ | ⟨rfl, rfl, a', hf', b', hx', hnum', _⟩
    · exact ⟨rfl, rfl, pair_nil _ _, pair_nil _ _, pair_nil _ _⟩
    · exact (hno _ _ _ _ hnum').elim
  · rcases h' with ⟨rfl, hno, rfl, rfl, rfl, rfl⟩ | ⟨rfl, rfl, a', hf', b', hx', hnum', hw', hf1', hf2', hx1', hx2'⟩
    · exact (hno _ _ _ _ hnum).elim
    · obtain ⟨rfl, rfl, rfl, rfl⟩ := hnum.unique hnum'
      refine ⟨rfl, rfl, pair_sl hw hw' hnum.lt (Nat.le_trans hnum.ale hnum.ble), ?_, ?_⟩
      · cases hf with
        | true => exact pair_sl (hf1 rfl) (hf1' rfl) (hnum.yesF rfl).2.1 hnum.ble
        | false => rw [hf2 rfl, hf2' rfl]; exact pair_nil _ _
      · cases hx with
        | true => exact pair_sl (hx1 rfl) (hx1' rfl) (exp_lt (hnum.yesE rfl).2.2) (Nat.le_refl _)
        | false => rw [hx2 rfl, hx2' rfl]; exact pair_nil _ _

theorem start_of (F : Nat → Int) (n : Nat) : ∃ neg s, StartAt F n neg s := by
  by_cases h : 0 < n ∧ F 0 = 45
  · exact ⟨true, 1, .inl ⟨rfl, rfl, h⟩⟩
  · exact ⟨false, 0, .inr ⟨rfl, rfl, h⟩⟩

set_option maxRecDepth 20000 in
set_option maxHeartbeats 1000000 in
theorem zz_any (w : World) (g n : Nat) (F : Nat → Int) (neg : Bool) (s : Nat) (ht : Txt w g n F) (hn : n ≤ 1048576) (hst : StartAt F n neg s) :
    Calls Try.prog 8 #[.slice (some ⟨g, 0, none⟩) n n] w fun e w' => ZZEnd w F n g neg s e w' := by
  have HC : Hid (Calls Try.prog 14 #[.slice (some ⟨g, 0, none⟩) n n] w fun e w' => ReadEnd w F n g neg s e w') := read_any w g n F neg s ht hn hst
  clear ht hst
  go_enter Try.func8, Try.ntmps8
  go_wp2_with fail
  refine HC.out.mono ?_
  rintro e w1 ⟨vn, vw, vf, vx, ok, rfl, hp, hb⟩
  obtain ⟨b, a1, l1, c1, a2, l2, c2, a3, l3, c3, rfl, rfl, rfl, rfl⟩ := hp.shape
  have HP : Hid (PartsOf F n g neg s (.bool b) (.slice a1 l1 c1) (.slice a2 l2 c2) (.slice a3 l3 c3) ok) := hp
  have HB : Hid (Below w.heap.size w w1) := hb
  clear hp hb
  go_wp2_with fail
  go_quiet (fail)
  go_wp2_with fail
  exact bodyPost_ret (v := .tuple #[.bool b, .slice a1 l1 c1, .slice a2 l2 c2, .slice a3 l3 c3, .bool ok]) (by simp [results, Try.results8, go_sem]) rfl ⟨_, _, _, _, _, rfl, HP.out, below_drew (HB.out.alloc HB.out.size _) _⟩

set_option maxRecDepth 20000 in
set_option maxHeartbeats 1000000 in
theorem zz_nil (w : World) :
    Calls Try.prog 8 #[.slice none 0 0] w fun e w' => e = .returned (.tuple #[.bool false, .slice none 0 0, .slice none 0 0, .slice none 0 0, .bool false]) ∧ Below w.heap.size w w' := by
  go_enter Try.func8, Try.ntmps8
  go_wp2_with fail
  refine (read_nil w).mono ?_
  rintro e w1 ⟨rfl, hb⟩
  have HB : Hid (Below w.heap.size w w1) := hb
  clear hb
  go_wp2_with fail
  go_quiet (fail)
  go_wp2_with fail
  exact bodyPost_ret (v := .tuple #[.bool false, .slice none 0 0, .slice none 0 0, .slice none 0 0, .bool false]) (by simp [results, Try.results8, go_sem]) rfl ⟨rfl, below_drew (HB.out.alloc HB.out.size _) _⟩

theorem bytes6 (ao : Option Addr) (n c : Nat) (w : World) (h : n ≤ 9223372036854775807) : Calls Try.prog 6 #[.slice ao n c] w fun e w' => ∃ b : Bool, e = .returned (.bool b) ∧ w = w' := by
  go_enter Try.func6, Try.ntmps6
  go_wp2
  all_goals go_ret
  all_goals exact ⟨_, rfl, rfl⟩

theorem pair_same {w : World} {g n : Nat} {F : Nat → Int} {v v' : Value} (hp : PairOK g n v v') (ht : Txt w g n F) (hn : n ≤ 1048576) : Calls Try.prog 10 #[v, v'] w fun e w' => TrueEnd w e w' := by
  obtain ⟨ao, m, c1, c2, lo, rfl, rfl, h1, h2⟩ := hp
  refine same_any w ao m c1 c2 g lo (fun j => F (lo + j)) h1 (fun j hj => ht.cell (lo + j) (by have := h2 (by omega); omega)) ?_
  rcases Nat.eq_zero_or_pos m with q | q
  · omega
  · have := h2 q; omega

theorem txt_drew {w : World} {g n : Nat} {F : Nat → Int} (h : Txt w g n F) (k : Nat) : Txt (w.drewN k) g n F := by
  have := h.below (B := w.heap.size) h.lt (below_drew (Below.refl _ w) k)
  exact this

set_option maxRecDepth 20000 in
set_option maxHeartbeats 4000000 in
theorem law3 (ao : Option Addr) (n c : Nat) (F : Nat → Int) (w : World) (h : At w ao n (fun j => .int .u8 (F j))) (hnil : ao = none → n = 0) (hn : n ≤ 9223372036854775807) :
    Calls Try.prog 3 #[.slice ao n c] w fun e w' => e = .returned (.bool true) ∧ Below w.heap.size w w' := by
  by_cases s1 : (1048576 : Int) < (n : Int)
  · go_enter Try.func3, Try.ntmps3
    go_wp2_with (first | (go_at_call 6; refine (bytes6 _ _ _ _ hn).mono ?_; rintro e w' ⟨b, rfl, rfl⟩))
    all_goals go_ret
    all_goals exact ⟨rfl, Below.refl _ _⟩
  have HC : Hid (Calls Try.prog 7 #[.slice ao n c] w fun e w' => Cloned w ao n F e w') := clone_any ao n c F w h hnil (by omega)
  clear h hnil
  go_enter Try.func3, Try.ntmps3
  go_upto_if 15 with (first | (go_at_call 6; refine (bytes6 _ _ _ _ hn).mono ?_; rintro e w' ⟨b, rfl, rfl⟩))
  cases b with
  | false =>
    go_wp2_with fail
    go_ret
    exact ⟨rfl, Below.refl _ _⟩
  | true =>
    go_wp2_with fail
    refine HC.out.mono ?_
    rintro e w1 hcl
    rcases hcl with ⟨_, _, rfl, hw⟩ | ⟨g, rfl, ht, hb⟩
    · obtain rfl := hw.symm
      clear hw
      go_wp2_with fail
      refine (zz_nil w).mono ?_
      rintro e w2 ⟨rfl, hb2⟩
      have HB2 : Hid (Below w.heap.size w w2) := hb2
      clear hb2
      go_wp2_with fail
      refine (model_nil w2).mono ?_
      rintro e w3 ⟨rfl, rfl⟩
      have HS : Hid (∀ W, Calls Try.prog 10 #[.slice none 0 0, .slice none 0 0] W fun e w' => TrueEnd W e w') := fun W => same_any W none 0 0 0 0 0 (fun _ => 0) (fun q => by omega) (fun j q => by omega) (by omega)
      go_wp2_with fail
      refine (HS.out _).mono ?_
      rintro e w4 ⟨rfl, k4, rfl⟩
      go_wp2_with fail
      refine (HS.out _).mono ?_
      rintro e w5 ⟨rfl, k5, rfl⟩
      go_wp2_with fail
      refine (HS.out _).mono ?_
      rintro e w6 ⟨rfl, k6, rfl⟩
      go_wp2_with fail
      go_ret
      exact ⟨rfl, below_drew HB2.out _⟩
    · have HT : Hid (Txt w1 g n F) := ht
      have HB1 : Hid (Below w.heap.size w w1) := hb
      clear ht hb
      obtain ⟨neg, s, hst⟩ := start_of F n
      have HST : Hid (StartAt F n neg s) := hst
      clear hst
      go_wp2_with fail
      refine (zz_any w1 g n F neg s HT.out (by omega) HST.out).mono ?_
      rintro e w2 ⟨vn, vw, vf, vx, ok, rfl, hp, hb2⟩
      have HP : Hid (PartsOf F n g neg s vn vw vf vx ok) := hp
      have HB2 : Hid (Below w.heap.size w w2) := HB1.out.trans (hb2.mono HB1.out.size)
      have HT2 : Hid (Txt w2 g n F) := HT.out.below HT.out.lt hb2
      clear hp hb2 HT HB1
      go_wp2_with fail
      refine (model_any w2 g n F neg s HT2.out (by omega) HST.out).mono ?_
      rintro e w3 ⟨vn', vw', vf', vx', ok', rfl, hp', hw⟩
      obtain rfl := hw
      obtain ⟨rfl, rfl, p1, p2, p3⟩ := parts_agree HP.out hp'
      obtain ⟨bn, rfl⟩ : ∃ b, vn = .bool b := by
        obtain ⟨b, _, _, _, _, _, _, _, _, _, q, _⟩ := hp'.shape
        exact ⟨b, q⟩
      have HQ : Hid (PairOK g n vw vw' ∧ PairOK g n vf vf' ∧ PairOK g n vx vx') := ⟨p1, p2, p3⟩
      clear hp' p1 p2 p3 HP
      go_wp2_with fail
      refine (pair_same HQ.out.1 HT2.out (by omega)).mono ?_
      rintro e w4 ⟨rfl, k4, rfl⟩
      go_wp2_with fail
      refine (pair_same HQ.out.2.1 (txt_drew HT2.out _) (by omega)).mono ?_
      rintro e w5 ⟨rfl, k5, rfl⟩
      go_wp2_with fail
      refine (pair_same HQ.out.2.2 (txt_drew HT2.out _) (by omega)).mono ?_
      rintro e w6 ⟨rfl, k6, rfl⟩
      go_wp2_with fail
      go_ret
      exact ⟨rfl, below_drew HB2.out _⟩
end Go.Proofs.Qxb6601180a
