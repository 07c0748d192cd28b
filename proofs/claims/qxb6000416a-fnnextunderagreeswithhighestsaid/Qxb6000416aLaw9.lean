import Derived.Test.Qxb6000416aNext
namespace Go.Proofs.Qxb6000416a
open Go.RowKit Tree

theorem valN9_lt {n nv : Nat} {B : Nat → Bool} (s : Nat) (h : valN n nv B s = true) : s < n := by
  unfold valN at h; simp at h; exact h.1
theorem valN9_eq {n nv : Nat} {B : Nat → Bool} {s : Nat} (h : s < n) : valN n nv B s = valB nv B s := by
  unfold valN; simp [h]

theorem bytes26 (a0 a1 : Option Addr) (n c nv cv : Nat) (f t pl : Int) (w : World) (h1 : n ≤ 9223372036854775807) (h2 : nv ≤ 9223372036854775807) :
    Calls Try.prog 26 #[.slice a0 n c, .slice a1 nv cv, .int .i64 f, .int .i64 t, .int .i64 pl] w fun e w' => ∃ b : Bool, e = .returned (.bool b) ∧ w = w' := by
  go_enter Try.func26, Try.ntmps26
  go_wp2
  all_goals go_ret
  all_goals exact ⟨_, rfl, rfl⟩

set_option maxRecDepth 20000 in
set_option maxHeartbeats 4000000 in
theorem law9 (ao : Option Addr) (n c : Nat) (H : Nat → Int) (av : Option Addr) (nv cv : Nat) (B : Nat → Bool) (f t pl : Int) (w : World) (h : At w ao n (fun j => .int .i64 (H j))) (hv : At w av nv (fun j => .bool (B j)))
    (hnil : ao = none → n = 0) (hnilv : av = none → nv = 0) (hn : n ≤ 9223372036854775807) (hnv : nv ≤ 9223372036854775807) :
    Calls Try.prog 9 #[.slice ao n c, .slice av nv cv, .int .i64 f, .int .i64 t, .int .i64 pl] w fun e w' => e = .returned (.bool true) ∧ Below w.heap.size w w' := by
  by_cases s1 : (65536 : Int) < (n : Int)
  · go_enter Try.func9, Try.ntmps9
    go_wp2_with (first | (go_at_call 26; refine (bytes26 _ _ _ _ _ _ _ _ _ _ hn hnv).mono ?_; rintro e w' ⟨b, rfl, rfl⟩))
    all_goals go_ret
    all_goals exact ⟨rfl, Below.refl _ _⟩
  by_cases s2 : (65536 : Int) < (nv : Int)
  · go_enter Try.func9, Try.ntmps9
    go_wp2_with (first | (go_at_call 26; refine (bytes26 _ _ _ _ _ _ _ _ _ _ hn hnv).mono ?_; rintro e w' ⟨b, rfl, rfl⟩))
    all_goals go_ret
    all_goals exact ⟨rfl, Below.refl _ _⟩
  by_cases s3 : f < 0
  · go_enter Try.func9, Try.ntmps9
    go_wp2_with (first | (go_at_call 26; refine (bytes26 _ _ _ _ _ _ _ _ _ _ hn hnv).mono ?_; rintro e w' ⟨b, rfl, rfl⟩))
    all_goals go_ret
    all_goals exact ⟨rfl, Below.refl _ _⟩
  by_cases s4 : (n : Int) < f
  · go_enter Try.func9, Try.ntmps9
    go_wp2_with (first | (go_at_call 26; refine (bytes26 _ _ _ _ _ _ _ _ _ _ hn hnv).mono ?_; rintro e w' ⟨b, rfl, rfl⟩))
    all_goals go_ret
    all_goals exact ⟨rfl, Below.refl _ _⟩
  by_cases s5 : t < 0
  · go_enter Try.func9, Try.ntmps9
    go_wp2_with (first | (go_at_call 26; refine (bytes26 _ _ _ _ _ _ _ _ _ _ hn hnv).mono ?_; rintro e w' ⟨b, rfl, rfl⟩))
    all_goals go_ret
    all_goals exact ⟨rfl, Below.refl _ _⟩
  by_cases s6 : (n : Int) < t
  · go_enter Try.func9, Try.ntmps9
    go_wp2_with (first | (go_at_call 26; refine (bytes26 _ _ _ _ _ _ _ _ _ _ hn hnv).mono ?_; rintro e w' ⟨b, rfl, rfl⟩))
    all_goals go_ret
    all_goals exact ⟨rfl, Below.refl _ _⟩
  obtain ⟨lo, rfl⟩ : ∃ lo : Nat, f = lo := ⟨f.toNat, by omega⟩
  obtain ⟨hi, rfl⟩ : ∃ hi : Nat, t = hi := ⟨t.toNat, by omega⟩
  have HH : Hid (At w ao n (fun j => .int .i64 (H j))) := h
  have HV : Hid (At w av nv (fun j => .bool (B j))) := hv
  have HN : Hid ((ao = none → n = 0) ∧ (av = none → nv = 0)) := ⟨hnil, hnilv⟩
  clear h hv hnil hnilv
  go_enter Try.func9, Try.ntmps9
  go_upto_if 22 with (first | (go_at_call 26; refine (bytes26 _ _ _ _ _ _ _ _ _ _ hn hnv).mono ?_; rintro e w' ⟨b, rfl, rfl⟩))
  cases b with
  | false =>
    go_wp2_with fail
    go_ret
    exact ⟨rfl, Below.refl _ _⟩
  | true =>
    go_wp2_with fail
    refine (cloneInts_any ao n c H w HH.out HN.out.1 (by omega)).mono ?_
    rintro e w1 ⟨ao1, c1, rfl, hn1, ha1, hb1⟩
    have HB1 : Hid (Below w.heap.size w w1) := hb1
    have HA1 : Hid (At w1 ao1 n (fun j => .int .i64 (H j))) := ha1
    clear ha1 hb1 hn1
    go_wp2_with fail
    refine (cloneBools_any av nv cv B w1 (HV.out.below HB1.out) HN.out.2 (by omega)).mono ?_
    rintro e w2 ⟨av2, cv2, rfl, hn2, ha2, hb2⟩
    have HB2 : Hid (Below w.heap.size w w2) := HB1.out.trans (hb2.mono HB1.out.size)
    have HA2 : Hid (At w2 ao1 n (fun j => .int .i64 (H j))) := HA1.out.below hb2
    have HV2 : Hid (At w2 av2 nv (fun j => .bool (B j))) := ha2
    clear ha2 hb2 hn2 HA1 HB1 HV HH HN
    go_wp2_with fail
    refine (build_any ao1 n c1 H av2 nv cv2 B w2 HA2.out HV2.out (by omega)).mono ?_
    rintro e w3 ⟨g, k, L, N, rfl, hL, hnL, hL1, hL2, hT, hNb, hrow, hb3⟩
    have HB3 : Hid (Below w.heap.size w w3) := HB2.out.trans (hb3.mono HB2.out.size)
    have HP3 : Hid (Parts w3 ao1 n H g L N) := ⟨HA2.out.below hb3, hrow.ge.2, fun j hj => hrow.cell hj⟩
    have HV3 : Hid (At w3 av2 nv (fun j => .bool (B j))) := HV2.out.below hb3
    have HT : Hid (L = 2 ^ k ∧ IsTree H (valN n nv B) k N ∧ (∀ j, -1 ≤ N j ∧ N j < n)) := ⟨hL, hT, hNb⟩
    clear hL hT hNb hrow hb3 HA2 HV2 HB2
    go_wp2_with fail
    refine (zzHighest_any ao1 n c1 H (valN n nv B) g k L N lo hi w3 HP3.out HT.out.1 hL2 hnL (by omega) (by omega) HT.out.2.1 HT.out.2.2 valN9_lt).mono ?_
    rintro e w4 ⟨hh, rfl, hbest, hb4⟩
    have HG : Hid (IsBest H (valN n nv B) (fun s => lo ≤ s ∧ s < hi) hh) := hbest
    have HB4 : Hid (Below w.heap.size w w4) := HB3.out.trans (hb4.mono HB3.out.size)
    have HP4 : Hid (Parts w4 ao1 n H g L N) := HP3.out.below hb4
    clear hbest hb4 HP3 HV3 HB3
    go_wp2_with fail
    refine (zzNext_any ao1 n c1 H (valN n nv B) g k L N lo hi pl w4 HP4.out HT.out.1 hL2 hnL HT.out.2.1 HT.out.2.2 valN9_lt).mono ?_
    rintro e w5 ⟨got, rfl, hfirst, hb5⟩
    have HF : Hid (IsFirst H (valN n nv B) pl (fun s => s < n ∧ (lo : Int) ≤ (s : Int) ∧ (s : Int) < (hi : Int)) got) := hfirst
    have HB5 : Hid (Below w.heap.size w w5) := HB4.out.trans (hb5.mono HB4.out.size)
    have HP5 : Hid (Parts w5 ao1 n H g L N) := HP4.out.below hb5
    clear hfirst hb5 HP4 HB4
    by_cases h0 : hh < 0
    · have he : (got == -1) = true := by simpa using agree_none HG.out HF.out (.inl h0)
      go_wp2_with fail
      go_ret
      exact ⟨rfl, HB5.out⟩
    · obtain ⟨x, rfl⟩ : ∃ x : Nat, hh = x := ⟨hh.toNat, by omega⟩
      have hxn := (HG.out.bound n valN9_lt).2
      obtain ⟨bk, off, rfl, hbs, hcell⟩ := HP5.out.ints (by omega)
      have x1 := hcell x (by omega)
      clear hcell
      have HL : Hid (Calls Try.prog 25 #[.slice (some ⟨bk, off, none⟩) n c1, .slice (some ⟨g, 0, none⟩) (2 * L) (2 * L), .int .i64 L, .int .i64 1, .int .i64 0, .int .i64 L, .int .i64 lo, .int .i64 hi, .int .i64 (H x)] w5 fun e w' => FirstEnd H (valN n nv B) n lo hi (H x) w5 e w') :=
        zzNext_any _ n c1 H (valN n nv B) g k L N lo hi (H x) w5 HP5.out HT.out.1 hL2 hnL HT.out.2.1 HT.out.2.2 valN9_lt
      have HQ : Hid (∀ u, IsFirst H (valN n nv B) (H x) (fun s => s < n ∧ (lo : Int) ≤ (s : Int) ∧ (s : Int) < (hi : Int)) u → u = (x : Int)) :=
        fun u hu => agree_top (n := n) HG.out (by omega) (by simpa using hu) (by omega)
      by_cases c1 : H x < pl
      · have HE : Hid (got = -1) := agree_none HG.out HF.out (.inr (by simpa using c1))
        have he : (got != -1) = false := by simp [HE.out]
        clear HE
        go_wp2_with fail
        refine HL.out.mono ?_
        rintro e w6 ⟨u, rfl, hu, hb6⟩
        have HB6 : Hid (Below w.heap.size w w6) := HB5.out.trans (hb6.mono HB5.out.size)
        have hq : (u == (x : Int)) = true := by simpa using HQ.out u hu
        clear hu hb6
        go_wp2_with fail
        go_ret
        exact ⟨rfl, HB6.out⟩
      · have HE := agree_some (n := n) HG.out (by omega) HF.out (by omega) (by simp; omega)
        have e1 := HE.1
        have e2 := HE.2
        clear HE
        go_wp2_with fail
        refine HL.out.mono ?_
        rintro e w6 ⟨u, rfl, hu, hb6⟩
        have HB6 : Hid (Below w.heap.size w w6) := HB5.out.trans (hb6.mono HB5.out.size)
        have hq : (u == (x : Int)) = true := by simpa using HQ.out u hu
        clear hu hb6
        go_wp2_with fail
        go_ret
        exact ⟨rfl, HB6.out⟩
end Go.Proofs.Qxb6000416a
