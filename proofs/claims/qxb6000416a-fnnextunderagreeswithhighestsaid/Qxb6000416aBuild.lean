import Derived.Test.Qxb6000416aPick
import Derived.Deep.RegionWith
import Derived.Deep.RegionHeld3
import Derived.Handy
namespace Go.Proofs.Qxb6000416a
open Go.RowKit Tree

/-- The slots that count: those of 'high' that 'valid' says so of. -/
def valN (n nv : Nat) (B : Nat → Bool) (s : Nat) : Bool := decide (s < n) && valB nv B s

/-- The leaves, the first k of them laid. -/
def leafT (L k : Nat) (V : Nat → Bool) (j : Nat) : Int := if L ≤ j ∧ j < L + k ∧ V (j - L) = true then ((j - L : Nat) : Int) else -1

theorem leaf_take {L k : Nat} {V : Nat → Bool} (h : V k = true) (j : Nat) : (if j = L + k then (k : Int) else leafT L k V j) = leafT L (k + 1) V j := by
  unfold leafT
  by_cases e : j = L + k
  · subst e
    rw [if_pos rfl, if_pos ⟨by omega, by omega, by rw [Nat.add_sub_cancel_left]; exact h⟩]
    omega
  · rw [if_neg e]
    by_cases c : L ≤ j ∧ j < L + k ∧ V (j - L) = true
    · rw [if_pos c, if_pos ⟨c.1, by omega, c.2.2⟩]
    · rw [if_neg c, if_neg (fun q => c ⟨q.1, by omega, q.2.2⟩)]
theorem leaf_keep {L k : Nat} {V : Nat → Bool} (h : V k = false) (j : Nat) : leafT L k V j = leafT L (k + 1) V j := by
  unfold leafT
  by_cases c : L ≤ j ∧ j < L + k ∧ V (j - L) = true
  · rw [if_pos c, if_pos ⟨c.1, by omega, c.2.2⟩]
  · rw [if_neg c, if_neg (fun q => c ⟨q.1, ?_, q.2.2⟩)]
    have : j ≠ L + k := by
      rintro rfl
      rw [Nat.add_sub_cancel_left, h] at q; simp at q
    omega

/-- The nodes above i are laid. -/
def TreeFrom (H : Nat → Int) (V : Nat → Bool) (n L i : Nat) (N : Nat → Int) : Prop :=
  (∀ s, s < L → N (L + s) = if V s = true then (s : Int) else -1) ∧ (∀ j, i < j → j < L → N j = pickI H (N (2 * j)) (N (2 * j + 1))) ∧ (∀ j, -1 ≤ N j ∧ N j < n)

theorem pickI_mem (H : Nat → Int) (a b : Int) : pickI H a b = a ∨ pickI H a b = b := by
  unfold pickI
  split
  · exact .inr rfl
  · split
    · exact .inl rfl
    · split
      · exact .inl rfl
      · exact .inr rfl

theorem tree_start {H : Nat → Int} {B : Nat → Bool} {n nv L : Nat} (h1 : 1 ≤ L) (_hn : n ≤ L) : TreeFrom H (valN n nv B) n L (L - 1) (leafT L n (valB nv B)) := by
  refine ⟨fun s hs => ?_, fun j hj hl => by omega, fun j => ?_⟩
  · unfold leafT valN
    rw [Nat.add_sub_cancel_left]
    by_cases c : s < n ∧ valB nv B s = true
    · rw [if_pos ⟨by omega, by omega, c.2⟩, if_pos (by simp [c.1, c.2])]
    · rw [if_neg (fun q => c ⟨by omega, q.2.2⟩), if_neg (by intro q; simp at q; exact c q)]
  · unfold leafT
    split
    · omega
    · omega

theorem tree_step {H : Nat → Int} {V : Nat → Bool} {n L i : Nat} {N : Nat → Int} (h : TreeFrom H V n L i N) (h1 : 1 ≤ i) (hL : i < L) :
    TreeFrom H V n L (i - 1) (fun j => if j = i then pickI H (N (2 * i)) (N (2 * i + 1)) else N j) := by
  obtain ⟨a, b, c⟩ := h
  refine ⟨fun s hs => ?_, fun j hj hl => ?_, fun j => ?_⟩
  · simp only [show ¬ L + s = i from by omega, if_false]
    exact a s hs
  · simp only [show ¬ 2 * j = i from by omega, show ¬ 2 * j + 1 = i from by omega, if_false]
    by_cases e : j = i
    · subst e; simp
    · simp only [e, if_false]
      exact b j (by omega) hl
  · by_cases e : j = i
    · subst e
      simp only [if_true]
      rcases pickI_mem H (N (2 * j)) (N (2 * j + 1)) with q | q
      · rw [q]; exact c _
      · rw [q]; exact c _
    · simp only [e, if_false]
      exact c j

/-- What buildTop hands back. -/
def Built (w : World) (n nv : Nat) (H : Nat → Int) (B : Nat → Bool) (e : Ending) (w' : World) : Prop :=
  ∃ (g k L : Nat) (N : Nat → Int), e = .returned (.tuple #[.slice (some ⟨g, 0, none⟩) (2 * L) (2 * L), .int .i64 L]) ∧ L = 2 ^ k ∧ n ≤ L ∧ 1 ≤ L ∧ L ≤ 131072 ∧ IsTree H (valN n nv B) k N ∧ (∀ j, -1 ≤ N j ∧ N j < n) ∧
    Row w' w.heap.size 3 g (2 * L) (fun j => .int .i64 (N j)) ∧ Below w.heap.size w w'

set_option maxRecDepth 20000 in
set_option maxHeartbeats 4000000 in
theorem build_any (ao : Option Addr) (n c : Nat) (H : Nat → Int) (av : Option Addr) (nv cv : Nat) (B : Nat → Bool) (w : World) (h : At w ao n (fun j => .int .i64 (H j))) (hv : At w av nv (fun j => .bool (B j))) (hn : n ≤ 65536) :
    Calls Try.prog 19 #[.slice ao n c, .slice av nv cv] w fun e w' => Built w n nv H B e w' := by
  obtain ⟨i0, hi, hz0, hz1, hz2⟩ := info_parts Try.info3
  go_enter Try.func19, Try.ntmps19
  go_wp2_with fail
  go_loop [7] (fun v => ∃ L : Nat, v = .int .i64 L ∧ 1 ≤ L ∧ L ≤ 131072 ∧ ∃ k, L = 2 ^ k) (fun v => n - (intOf v).toNat)
  case atStart => exact ⟨1, rfl, by omega, by omega, 0, rfl⟩
  case round =>
    obtain ⟨L, rfl, hL1, hL2, hp⟩ := hrel
    have HP : Hid (∃ k, L = 2 ^ k) := hp
    clear hp
    by_cases hlt : L < n
    · go_wp2_with fail
      go_round
      case rel =>
        obtain ⟨k, hk⟩ := HP.out
        exact ⟨L * 2, by go_num, by omega, by omega, k + 1, by rw [hk, Nat.pow_succ]⟩
      case measure => simp [intOf]; omega
    · go_wp2_with (at_make; refine wpList_make_full _ rfl _ _ 27 rfl w.heap.size 3 i0 (.int .i64 0) 1 Try.underlying27 hi hz0 hz1 _ _ _ _ (2 * L) rfl rfl (by omega) (by omega) (by rw [hz2]; omega) (by unfold maxLen; omega) (Nat.le_refl _) ?_; intro w1 hown hgrow)
      have hrow : Row w1 w.heap.size 3 w.heap.size (2 * L) (fun _ => .int .i64 0) := row_made hown
      have hb1 : Below w.heap.size w w1 := (Below.refl _ _).grown hgrow (Nat.le_refl _) (by simp)
      clear hown hgrow hi hz0 hz1 hz2
      go_loopw [9] (fun i wr => ∃ k : Nat, k ≤ 2 * L ∧ i = .int .i64 k ∧ Row wr w.heap.size 3 w.heap.size (2 * L) (fun j => .int .i64 (if j < k then -1 else 0)) ∧ Below w.heap.size w wr) (fun i _ => 2 * L - (intOf i).toNat)
      case atStart => exact ⟨0, Nat.zero_le _, rfl, hrow.congr (fun j _ => by simp), hb1⟩
      case round =>
        obtain ⟨k, hk, rfl, hr, hb⟩ := hrel
        clear hrow hb1
        by_cases hlt2 : k < 2 * L
        · have hc2 := hr.cell hlt2
          have hf2 := hr.frozen k
          have HR : Hid (Row wr w.heap.size 3 w.heap.size (2 * L) (fun j => .int .i64 (if j < k then -1 else 0)) ∧ Below w.heap.size w wr) := ⟨hr, hb⟩
          clear hr hb
          go_wp2_with fail
          go_roundw
          case rel =>
            refine ⟨k + 1, by omega, by go_num, (HR.out.1.store k (.int .i64 (-1))).congr fun j hj => ?_, HR.out.2.setCell (Nat.le_refl _) _⟩
            by_cases e1 : j = k
            · subst e1; simp
            · by_cases e2 : j < k
              · simp [e1, e2, show j < k + 1 from by omega]
              · simp [e1, e2, show ¬ j < k + 1 from by omega]
          case measure => simp [intOf]; omega
        · have hr2 : Row wr w.heap.size 3 w.heap.size (2 * L) (fun j => .int .i64 (leafT L 0 (valB nv B) j)) :=
            hr.congr fun j hj => by
              rw [if_pos (by omega)]
              unfold leafT
              rw [if_neg (by omega)]
          clear hr
          go_wp2_with fail
          obtain ⟨wq, rfl⟩ : ∃ wq : World, wq = wr := ⟨_, rfl⟩
          go_loopw [10] (fun i wr => ∃ k : Nat, k ≤ n ∧ i = .int .i64 k ∧ Row wr w.heap.size 3 w.heap.size (2 * L) (fun j => .int .i64 (leafT L k (valB nv B) j)) ∧ Below w.heap.size w wr) (fun i _ => n - (intOf i).toNat)
          case atStart => exact ⟨0, Nat.zero_le _, rfl, hr2, hb⟩
          case round =>
            obtain ⟨q, hq, rfl, hr3, hb3⟩ := hrel
            clear hr2 hb
            by_cases hlt3 : q < n
            · have hva := hv.below hb3
              have hc2 := hr3.cell (j := L + q) (by omega)
              have hf2 := hr3.frozen (L + q)
              have HR : Hid (Row wr w.heap.size 3 w.heap.size (2 * L) (fun j => .int .i64 (leafT L q (valB nv B) j)) ∧ Below w.heap.size w wr) := ⟨hr3, hb3⟩
              clear hr3 hb3
              by_cases hvv : valB nv B q = true
              · go_wp2_with (go_at_call 21; refine (isValid_any _ _ _ B _ _ hva (by omega)).mono ?_; rintro e w' ⟨rfl, rfl⟩)
                go_roundw
                case rel =>
                  refine ⟨q + 1, by omega, by go_num, (HR.out.1.store (L + q) (.int .i64 q)).congr fun j hj => ?_, HR.out.2.setCell (Nat.le_refl _) _⟩
                  rw [← leaf_take hvv]
                  split <;> rfl
                case measure => simp [intOf]; omega
              · have hvf : valB nv B q = false := by simpa using hvv
                go_wp2_with (go_at_call 21; refine (isValid_any _ _ _ B _ _ hva (by omega)).mono ?_; rintro e w' ⟨rfl, rfl⟩)
                go_roundw
                case rel =>
                  exact ⟨q + 1, by omega, by go_num, HR.out.1.congr (fun j hj => by rw [leaf_keep hvf]), HR.out.2⟩
                case measure => simp [intOf]; omega
            · obtain rfl : n = q := by omega
              go_wp2_with fail
              obtain ⟨wq2, rfl⟩ : ∃ wq : World, wq = wr := ⟨_, rfl⟩
              go_loopw [11] (fun v wr => ∃ (i : Nat) (N : Nat → Int), i < L ∧ v = .int .i64 i ∧ TreeFrom H (valN n nv B) n L i N ∧ Row wr w.heap.size 3 w.heap.size (2 * L) (fun j => .int .i64 (N j)) ∧ Below w.heap.size w wr) (fun v _ => (intOf v).toNat)
              case atStart => exact ⟨L - 1, _, by omega, by congr 1; omega, tree_start hL1 (by omega), hr3, hb3⟩
              case round =>
                obtain ⟨i, N, hiL, rfl, ht, hr4, hb4⟩ := hrel
                clear hr3 hb3
                have HT : Hid (TreeFrom H (valN n nv B) n L i N) := ht
                clear ht
                by_cases hi1 : 1 ≤ i
                · have hha := h.below hb4
                  have x1 := hr4.cell (j := 2 * i) (by omega)
                  have x2 := hr4.cell (j := 2 * i + 1) (by omega)
                  have x3 := hr4.cell (j := i) (by omega)
                  have x4 := hr4.frozen i
                  have y1 := (HT.out.2.2 (2 * i)).2
                  have y2 := (HT.out.2.2 (2 * i + 1)).2
                  have HR : Hid (Row wr w.heap.size 3 w.heap.size (2 * L) (fun j => .int .i64 (N j)) ∧ Below w.heap.size w wr) := ⟨hr4, hb4⟩
                  clear hr4 hb4
                  have b1 : 2 * (i : Int) < 2 * (L : Int) := by omega
                  have b2 : 2 * (i : Int) + 1 < 2 * (L : Int) := by omega
                  have b3 : (i : Int) < 2 * (L : Int) := by omega
                  have b0 : (0 : Int) ≤ 2 * (i : Int) := by omega
                  have b4 : (0 : Int) ≤ 2 * (i : Int) + 1 := by omega
                  have b5 : (0 : Int) ≤ (i : Int) := by omega
                  have b6 : IntKind.i64.wrap (2 * (i : Int)) = 2 * (i : Int) := IntWalk.i64_in _ (by omega)
                  have b7 : IntKind.i64.wrap (2 * (i : Int) + 1) = 2 * (i : Int) + 1 := IntWalk.i64_in _ (by omega)
                  have n1 : ∀ (W : World) (u : Value), (W.setCell ⟨w.heap.size, i, none⟩ u).cell? ⟨w.heap.size, 2 * i, none⟩ = W.cell? ⟨w.heap.size, 2 * i, none⟩ := fun W u => World.cell?_setCell_other W _ _ u (fun q => by have := congrArg Addr.off q; dsimp only at this; omega)
                  have n2 : ∀ (W : World) (u : Value), (W.setCell ⟨w.heap.size, i, none⟩ u).cell? ⟨w.heap.size, 2 * i + 1, none⟩ = W.cell? ⟨w.heap.size, 2 * i + 1, none⟩ := fun W u => World.cell?_setCell_other W _ _ u (fun q => by have := congrArg Addr.off q; dsimp only at this; omega)
                  have b8 : (2 * (i : Int)).toNat = 2 * i := by omega
                  have b9 : (2 * (i : Int) + 1).toNat = 2 * i + 1 := by omega
                  go_upto_region 18 with fail
                  go_region_held3 (fun w' => w'.cell? ⟨w.heap.size, 2 * i, none⟩ = some (.int .i64 (N (2 * i))) ∧ w'.cell? ⟨w.heap.size, 2 * i + 1, none⟩ = some (.int .i64 (N (2 * i + 1)))) (go_keep) ((go_at_call 23; refine (pick_any _ _ _ H _ _ _ (by exact hha) y1 y2).mono ?_; rintro e w' ⟨rfl, m, rfl⟩))
                  go_wp2_with fail
                  go_roundw
                  case rel =>
                    refine ⟨i - 1, _, by omega, by congr 1; omega, tree_step HT.out hi1 hiL, ((HR.out.1.drewN _).store i _).congr fun j hj => ?_, (below_drewN HR.out.2 _).setCell (Nat.le_refl _) _⟩
                    split <;> rfl
                  case measure => simp [intOf]; omega
                · obtain rfl : i = 0 := by omega
                  have HE : Hid (Built w n nv H B (.returned (.tuple #[.slice (some ⟨w.heap.size, 0, none⟩) (2 * L) (2 * L), .int .i64 L])) wr) := by
                    obtain ⟨k, hk⟩ := HP.out
                    refine ⟨w.heap.size, k, L, N, rfl, hk, by omega, hL1, hL2, ⟨fun s hs => ?_, fun j h1 h2 => ?_⟩, HT.out.2.2, hr4, hb4⟩
                    · rw [← hk]; exact HT.out.1 s (by omega)
                    · exact HT.out.2.1 j (by omega) (by omega)
                  clear hr4 hb4
                  go_wp2_with fail
                  go_ret2
                  exact HE.out
end Go.Proofs.Qxb6000416a
