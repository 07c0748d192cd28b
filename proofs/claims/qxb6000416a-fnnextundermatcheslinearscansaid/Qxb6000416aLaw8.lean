import Derived.Test.Qxb6000416aNext
namespace Go.Proofs.Qxb6000416a
open Go.RowKit Tree

theorem valN8_lt {n nv : Nat} {B : Nat → Bool} (s : Nat) (h : valN n nv B s = true) : s < n := by
  unfold valN at h; simp at h; exact h.1
theorem valN8_eq {n nv : Nat} {B : Nat → Bool} {s : Nat} (h : s < n) : valN n nv B s = valB nv B s := by
  unfold valN; simp [h]

theorem isValid_is (ao : Option Addr) (nv c : Nat) (B : Nat → Bool) (s : Nat) (b : Bool) (hb : valB nv B s = b) (w : World) (h : At w ao nv (fun j => .bool (B j))) (hs : s ≤ 1000000) :
    Calls Try.prog 21 #[.slice ao nv c, .int .i64 s] w fun e w' => e = .returned (.bool b) ∧ w = w' :=
  (isValid_any ao nv c B s w h hs).mono fun _ _ q => ⟨by rw [q.1, hb], q.2⟩

theorem bytes24 (a0 a1 : Option Addr) (n c nv cv : Nat) (f t pl : Int) (w : World) (h1 : n ≤ 9223372036854775807) (h2 : nv ≤ 9223372036854775807) :
    Calls Try.prog 24 #[.slice a0 n c, .slice a1 nv cv, .int .i64 f, .int .i64 t, .int .i64 pl] w fun e w' => ∃ b : Bool, e = .returned (.bool b) ∧ w = w' := by
  go_enter Try.func24, Try.ntmps24
  go_wp2
  all_goals go_ret
  all_goals exact ⟨_, rfl, rfl⟩

set_option maxRecDepth 20000 in
set_option maxHeartbeats 4000000 in
theorem law8 (ao : Option Addr) (n c : Nat) (H : Nat → Int) (av : Option Addr) (nv cv : Nat) (B : Nat → Bool) (f t pl : Int) (w : World) (h : At w ao n (fun j => .int .i64 (H j))) (hv : At w av nv (fun j => .bool (B j)))
    (hnil : ao = none → n = 0) (hnilv : av = none → nv = 0) (hn : n ≤ 9223372036854775807) (hnv : nv ≤ 9223372036854775807) :
    Calls Try.prog 8 #[.slice ao n c, .slice av nv cv, .int .i64 f, .int .i64 t, .int .i64 pl] w fun e w' => e = .returned (.bool true) ∧ Below w.heap.size w w' := by
  by_cases s1 : (65536 : Int) < (n : Int)
  · go_enter Try.func8, Try.ntmps8
    go_wp2_with (first | (go_at_call 24; refine (bytes24 _ _ _ _ _ _ _ _ _ _ hn hnv).mono ?_; rintro e w' ⟨b, rfl, rfl⟩))
    all_goals go_ret
    all_goals exact ⟨rfl, Below.refl _ _⟩
  by_cases s2 : (65536 : Int) < (nv : Int)
  · go_enter Try.func8, Try.ntmps8
    go_wp2_with (first | (go_at_call 24; refine (bytes24 _ _ _ _ _ _ _ _ _ _ hn hnv).mono ?_; rintro e w' ⟨b, rfl, rfl⟩))
    all_goals go_ret
    all_goals exact ⟨rfl, Below.refl _ _⟩
  have HH : Hid (At w ao n (fun j => .int .i64 (H j))) := h
  have HV : Hid (At w av nv (fun j => .bool (B j))) := hv
  have HN : Hid ((ao = none → n = 0) ∧ (av = none → nv = 0)) := ⟨hnil, hnilv⟩
  clear h hv hnil hnilv
  go_enter Try.func8, Try.ntmps8
  go_upto_if 23 with (first | (go_at_call 24; refine (bytes24 _ _ _ _ _ _ _ _ _ _ hn hnv).mono ?_; rintro e w' ⟨b, rfl, rfl⟩))
  cases b with
  | false =>
    go_wp2_with fail
    go_ret
    exact ⟨rfl, Below.refl _ _⟩
  | true =>
    go_wp2_with fail
    refine (cloneInts_any ao n c H w HH.out HN.out.1 (by omega)).mono ?_
    rintro e w1 ⟨ao1, c1, rfl, hn1, ha1, hb1⟩
    have HB1 : Hid (Below w.heap.size w w1) := hb1
    have HA1 : Hid (At w1 ao1 n (fun j => .int .i64 (H j))) := ha1
    clear ha1 hb1 hn1
    go_wp2_with fail
    refine (cloneBools_any av nv cv B w1 (HV.out.below HB1.out) HN.out.2 (by omega)).mono ?_
    rintro e w2 ⟨av2, cv2, rfl, hn2, ha2, hb2⟩
    have HB2 : Hid (Below w.heap.size w w2) := HB1.out.trans (hb2.mono HB1.out.size)
    have HA2 : Hid (At w2 ao1 n (fun j => .int .i64 (H j))) := HA1.out.below hb2
    have HV2 : Hid (At w2 av2 nv (fun j => .bool (B j))) := ha2
    clear ha2 hb2 hn2 HA1 HB1 HV HH HN
    go_wp2_with fail
    refine (build_any ao1 n c1 H av2 nv cv2 B w2 HA2.out HV2.out (by omega)).mono ?_
    rintro e w3 ⟨g, k, L, N, rfl, hL, hnL, hL1, hL2, hT, hNb, hrow, hb3⟩
    have HB3 : Hid (Below w.heap.size w w3) := HB2.out.trans (hb3.mono HB2.out.size)
    have HP3 : Hid (Parts w3 ao1 n H g L N) := ⟨HA2.out.below hb3, hrow.ge.2, fun j hj => hrow.cell hj⟩
    have HV3 : Hid (At w3 av2 nv (fun j => .bool (B j))) := HV2.out.below hb3
    have HT : Hid (L = 2 ^ k ∧ IsTree H (valN n nv B) k N ∧ (∀ j, -1 ≤ N j ∧ N j < n)) := ⟨hL, hT, hNb⟩
    clear hL hT hNb hrow hb3 HA2 HV2 HB2
    go_wp2_with fail
    refine (zzNext_any ao1 n c1 H (valN n nv B) g k L N f t pl w3 HP3.out HT.out.1 hL2 hnL HT.out.2.1 HT.out.2.2 valN8_lt).mono ?_
    rintro e w4 ⟨got, rfl, hfirst, hb4⟩
    have HG : Hid (IsFirst H (valN n nv B) pl (fun s => s < n ∧ f ≤ (s : Int) ∧ (s : Int) < t) got) := hfirst
    have HB4 : Hid (Below w.heap.size w w4) := HB3.out.trans (hb4.mono HB3.out.size)
    have HA4 : Hid (At w4 ao1 n (fun j => .int .i64 (H j))) := HP3.out.ints.below hb4
    have HV4 : Hid (At w4 av2 nv (fun j => .bool (B j))) := HV3.out.below hb4
    clear hfirst hb4 HP3 HV3 HB3 HT
    go_wp2_with fail
    go_loop [15, 16] (fun v15 v16 => ∃ s : Nat, v15 = .int .i64 (-1) ∧ v16 = .int .i64 s ∧ s ≤ n ∧ IsFirst H (valN n nv B) pl (fun x => x < s ∧ f ≤ (x : Int) ∧ (x : Int) < t) (-1)) (fun _ v16 => n - (intOf v16).toNat)
    case atStart => exact ⟨0, rfl, rfl, Nat.zero_le _, .inl ⟨rfl, fun s hs => by omega⟩⟩
    case round =>
      obtain ⟨s, rfl, rfl, hsn, hfs⟩ := hrel
      have HF : Hid (IsFirst H (valN n nv B) pl (fun x => x < s ∧ f ≤ (x : Int) ∧ (x : Int) < t) (-1)) := hfs
      clear hfs
      by_cases hlt : s < n
      · obtain ⟨bk, off, rfl, hbs, hcell⟩ := HA4.out (by omega)
        have x1 := hcell s (by omega)
        have hsi : (s : Int) < (n : Int) := by omega
        clear hcell
        by_cases c1 : f ≤ (s : Int)
        · by_cases c2 : (s : Int) < t
          · by_cases hvv : valB nv B s = true
            · have hvn : Hid (valN n nv B s = true) := by unfold Hid; rw [valN8_eq hlt]; exact hvv
              by_cases c3 : pl ≤ H s
              · have HE : Hid (got = (s : Int)) := HG.out.unique (first_take HF.out hlt c1 c2 hvn.out c3)
                have he : (got == (s : Int)) = true := by simpa using HE.out
                clear HE
                go_wp2_with (go_at_call 21; refine (isValid_is _ _ _ B _ true hvv _ HV4.out (by omega)).mono ?_; rintro e w' ⟨rfl, rfl⟩)
                go_ret
                exact ⟨rfl, HB4.out⟩
              · go_wp2_with (go_at_call 21; refine (isValid_is _ _ _ B _ true hvv _ HV4.out (by omega)).mono ?_; rintro e w' ⟨rfl, rfl⟩)
                go_round
                case rel => exact ⟨s + 1, rfl, by go_num, by omega, first_keep HF.out (.inr (.inl (by omega)))⟩
                case measure => simp [intOf]; omega
            · have hvf : valB nv B s = false := by simpa using hvv
              have hvn : Hid (valN n nv B s = false) := by unfold Hid; rw [valN8_eq hlt]; exact hvf
              clear hvv
              go_wp2_with (go_at_call 21; refine (isValid_is _ _ _ B _ false hvf _ HV4.out (by omega)).mono ?_; rintro e w' ⟨rfl, rfl⟩)
              go_round
              case rel => exact ⟨s + 1, rfl, by go_num, by omega, first_keep HF.out (.inl hvn.out)⟩
              case measure => simp [intOf]; omega
          · go_wp2_with fail
            go_round
            case rel => exact ⟨s + 1, rfl, by go_num, by omega, first_keep HF.out (.inr (.inr (.inr (by omega))))⟩
            case measure => simp [intOf]; omega
        · go_wp2_with fail
          go_round
          case rel => exact ⟨s + 1, rfl, by go_num, by omega, first_keep HF.out (.inr (.inr (.inl (by omega))))⟩
          case measure => simp [intOf]; omega
      · obtain rfl : n = s := by omega
        have HE : Hid (got = -1) := HG.out.unique HF.out
        have he : (got == -1) = true := by simpa using HE.out
        clear HE
        go_wp2_with fail
        go_ret
        exact ⟨rfl, HB4.out⟩
end Go.Proofs.Qxb6000416a
