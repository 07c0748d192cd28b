import Derived.Test.Qxb6000416aNext
namespace Go.Proofs.Qxb6000416a
open Go.RowKit Tree

theorem valN_lt {n nv : Nat} {B : Nat → Bool} (s : Nat) (h : valN n nv B s = true) : s < n := by
  unfold valN at h; simp at h; exact h.1
theorem valN_eq {n nv : Nat} {B : Nat → Bool} {s : Nat} (h : s < n) : valN n nv B s = valB nv B s := by
  unfold valN; simp [h]
theorem scan_end {H : Nat → Int} {V : Nat → Bool} {lo hi s : Nat} {t : Int} (h : IsBest H V (fun x => lo ≤ x ∧ x < s) t) (hs : lo ≤ s ∧ (s ≤ hi ∨ s = lo)) (he : ¬ s < hi) : IsBest H V (fun x => lo ≤ x ∧ x < hi) t :=
  h.congr fun x => by omega

theorem isValid_same (ao : Option Addr) (nv c : Nat) (B : Nat → Bool) (s : Nat) (b : Bool) (hb : valB nv B s = b) (w : World) (h : At w ao nv (fun j => .bool (B j))) (hs : s ≤ 1000000) :
    Calls Try.prog 21 #[.slice ao nv c, .int .i64 s] w fun e w' => e = .returned (.bool b) ∧ w' = w :=
  (isValid_any ao nv c B s w h hs).mono fun _ _ q => ⟨by rw [q.1, hb], q.2.symm⟩

theorem bytes16 (a0 a1 : Option Addr) (n c nv cv : Nat) (f t : Int) (w : World) (h1 : n ≤ 9223372036854775807) (h2 : nv ≤ 9223372036854775807) :
    Calls Try.prog 16 #[.slice a0 n c, .slice a1 nv cv, .int .i64 f, .int .i64 t] w fun e w' => ∃ b : Bool, e = .returned (.bool b) ∧ w = w' := by
  go_enter Try.func16, Try.ntmps16
  go_wp2
  all_goals go_ret
  all_goals exact ⟨_, rfl, rfl⟩

set_option maxRecDepth 20000 in
set_option maxHeartbeats 4000000 in
theorem law6 (ao : Option Addr) (n c : Nat) (H : Nat → Int) (av : Option Addr) (nv cv : Nat) (B : Nat → Bool) (f t : Int) (w : World) (h : At w ao n (fun j => .int .i64 (H j))) (hv : At w av nv (fun j => .bool (B j)))
    (hnil : ao = none → n = 0) (hnilv : av = none → nv = 0) (hn : n ≤ 9223372036854775807) (hnv : nv ≤ 9223372036854775807) :
    Calls Try.prog 6 #[.slice ao n c, .slice av nv cv, .int .i64 f, .int .i64 t] w fun e w' => e = .returned (.bool true) ∧ Below w.heap.size w w' := by
  by_cases s1 : (65536 : Int) < (n : Int)
  · go_enter Try.func6, Try.ntmps6
    go_wp2_with (first | (go_at_call 16; refine (bytes16 _ _ _ _ _ _ _ _ _ hn hnv).mono ?_; rintro e w' ⟨b, rfl, rfl⟩))
    all_goals go_ret
    all_goals exact ⟨rfl, Below.refl _ _⟩
  by_cases s2 : (65536 : Int) < (nv : Int)
  · go_enter Try.func6, Try.ntmps6
    go_wp2_with (first | (go_at_call 16; refine (bytes16 _ _ _ _ _ _ _ _ _ hn hnv).mono ?_; rintro e w' ⟨b, rfl, rfl⟩))
    all_goals go_ret
    all_goals exact ⟨rfl, Below.refl _ _⟩
  by_cases s3 : f < 0
  · go_enter Try.func6, Try.ntmps6
    go_wp2_with (first | (go_at_call 16; refine (bytes16 _ _ _ _ _ _ _ _ _ hn hnv).mono ?_; rintro e w' ⟨b, rfl, rfl⟩))
    all_goals go_ret
    all_goals exact ⟨rfl, Below.refl _ _⟩
  by_cases s4 : (n : Int) < f
  · go_enter Try.func6, Try.ntmps6
    go_wp2_with (first | (go_at_call 16; refine (bytes16 _ _ _ _ _ _ _ _ _ hn hnv).mono ?_; rintro e w' ⟨b, rfl, rfl⟩))
    all_goals go_ret
    all_goals exact ⟨rfl, Below.refl _ _⟩
  by_cases s5 : t < 0
  · go_enter Try.func6, Try.ntmps6
    go_wp2_with (first | (go_at_call 16; refine (bytes16 _ _ _ _ _ _ _ _ _ hn hnv).mono ?_; rintro e w' ⟨b, rfl, rfl⟩))
    all_goals go_ret
    all_goals exact ⟨rfl, Below.refl _ _⟩
  by_cases s6 : (n : Int) < t
  · go_enter Try.func6, Try.ntmps6
    go_wp2_with (first | (go_at_call 16; refine (bytes16 _ _ _ _ _ _ _ _ _ hn hnv).mono ?_; rintro e w' ⟨b, rfl, rfl⟩))
    all_goals go_ret
    all_goals exact ⟨rfl, Below.refl _ _⟩
  obtain ⟨lo, rfl⟩ : ∃ lo : Nat, f = lo := ⟨f.toNat, by omega⟩
  obtain ⟨hi, rfl⟩ : ∃ hi : Nat, t = hi := ⟨t.toNat, by omega⟩
  have HH : Hid (At w ao n (fun j => .int .i64 (H j))) := h
  have HV : Hid (At w av nv (fun j => .bool (B j))) := hv
  have HN : Hid ((ao = none → n = 0) ∧ (av = none → nv = 0)) := ⟨hnil, hnilv⟩
  clear h hv hnil hnilv
  go_enter Try.func6, Try.ntmps6
  go_upto_if 20 with (first | (go_at_call 16; refine (bytes16 _ _ _ _ _ _ _ _ _ hn hnv).mono ?_; rintro e w' ⟨b, rfl, rfl⟩))
  cases b with
  | false =>
    go_wp2_with fail
    go_ret
    exact ⟨rfl, Below.refl _ _⟩
  | true =>
    go_wp2_with fail
    refine (cloneInts_any ao n c H w HH.out HN.out.1 (by omega)).mono ?_
    rintro e w1 ⟨ao1, c1, rfl, hn1, ha1, hb1⟩
    have HB1 : Hid (Below w.heap.size w w1) := hb1
    have HA1 : Hid (At w1 ao1 n (fun j => .int .i64 (H j))) := ha1
    clear ha1 hb1 hn1
    go_wp2_with fail
    refine (cloneBools_any av nv cv B w1 (HV.out.below HB1.out) HN.out.2 (by omega)).mono ?_
    rintro e w2 ⟨av2, cv2, rfl, hn2, ha2, hb2⟩
    have HB2 : Hid (Below w.heap.size w w2) := HB1.out.trans (hb2.mono HB1.out.size)
    have HA2 : Hid (At w2 ao1 n (fun j => .int .i64 (H j))) := HA1.out.below hb2
    have HV2 : Hid (At w2 av2 nv (fun j => .bool (B j))) := ha2
    clear ha2 hb2 hn2 HA1 HB1 HV HH HN
    go_wp2_with fail
    refine (build_any ao1 n c1 H av2 nv cv2 B w2 HA2.out HV2.out (by omega)).mono ?_
    rintro e w3 ⟨g, k, L, N, rfl, hL, hnL, hL1, hL2, hT, hNb, hrow, hb3⟩
    have HB3 : Hid (Below w.heap.size w w3) := HB2.out.trans (hb3.mono HB2.out.size)
    have HP3 : Hid (Parts w3 ao1 n H g L N) := ⟨HA2.out.below hb3, hrow.ge.2, fun j hj => hrow.cell hj⟩
    have HV3 : Hid (At w3 av2 nv (fun j => .bool (B j))) := HV2.out.below hb3
    have HT : Hid (L = 2 ^ k ∧ IsTree H (valN n nv B) k N ∧ (∀ j, -1 ≤ N j ∧ N j < n)) := ⟨hL, hT, hNb⟩
    clear hL hT hNb hrow hb3 HA2 HV2 HB2
    go_wp2_with fail
    refine (zzHighest_any ao1 n c1 H (valN n nv B) g k L N lo hi w3 HP3.out HT.out.1 hL2 hnL (by omega) (by omega) HT.out.2.1 HT.out.2.2 valN_lt).mono ?_
    rintro e w4 ⟨got, rfl, hbest, hb4⟩
    have HG : Hid (IsBest H (valN n nv B) (fun s => lo ≤ s ∧ s < hi) got) := hbest
    have HB4 : Hid (Below w.heap.size w w4) := HB3.out.trans (hb4.mono HB3.out.size)
    have HA4 : Hid (At w4 ao1 n (fun j => .int .i64 (H j))) := HP3.out.ints.below hb4
    have HV4 : Hid (At w4 av2 nv (fun j => .bool (B j))) := HV3.out.below hb4
    clear hbest hb4 HP3 HV3 HB3 HT
    go_wp2_with fail
    go_loopw [13, 14] (fun v13 v14 wr => ∃ (s : Nat) (want : Int), v13 = .int .i64 want ∧ v14 = .int .i64 s ∧ lo ≤ s ∧ (s ≤ hi ∨ s = lo) ∧ IsBest H (valN n nv B) (fun x => lo ≤ x ∧ x < s) want ∧ Same w4 wr) (fun _ v14 _ => hi - (intOf v14).toNat)
    case atStart => exact ⟨lo, -1, rfl, rfl, Nat.le_refl _, .inr rfl, IsBest.empty (fun s => by omega), Same.refl _⟩
    case round =>
      obtain ⟨s, want, rfl, rfl, hlos, hsh, hbw, hsm⟩ := hrel
      have HW : Hid (IsBest H (valN n nv B) (fun x => lo ≤ x ∧ x < s) want) := hbw
      have HS : Hid (Same w4 wr) := hsm
      have hwb := hbw.bound n valN_lt
      have hwl := hwb.1
      have hwh := hwb.2
      have HSH : Hid (lo ≤ s ∧ (s ≤ hi ∨ s = lo)) := ⟨hlos, hsh⟩
      clear hbw hsm hwb hsh
      by_cases hlt : s < hi
      · have hva : Hid (∀ m, At (wr.drewN m) av2 nv (fun j => .bool (B j))) := fun m => (HV4.out.same HS.out).same ⟨m, rfl⟩
        have hsn : (s : Int) < (n : Int) := by omega
        obtain ⟨bk, off, rfl, hbs, hcell⟩ := (HA4.out.same HS.out) (by omega)
        have x1 := hcell s (by omega)
        by_cases hvv : valB nv B s = true
        · have hvn : Hid (valN n nv B s = true) := by unfold Hid; rw [valN_eq (by omega)]; exact hvv
          by_cases hw0 : want < 0
          · clear hcell
            go_wp2_with fail
            go_quiet ((go_at_call 21; exact Calls.quiet_of_same (isValid_same _ _ _ B _ true hvv _ (hva.out _) (by omega))))
            go_wp2_with fail
            go_roundw
            case rel => exact ⟨s + 1, s, rfl, by go_num, by omega, by omega, scan_take HW.out hlos hvn.out (.inl hw0), HS.out.trans ⟨_, rfl⟩⟩
            case measure => simp [intOf]; omega
          · obtain ⟨x, rfl⟩ : ∃ x : Nat, want = x := ⟨want.toNat, by omega⟩
            have x2 := hcell x (by omega)
            clear hcell
            have d0 : decide ((x : Int) < 0) = false := by simp
            by_cases hgt : H x < H s
            · go_wp2_with fail
              go_quiet ((go_at_call 21; exact Calls.quiet_of_same (isValid_same _ _ _ B _ true hvv _ (hva.out _) (by omega))))
              go_wp2_with fail
              go_roundw
              case rel => exact ⟨s + 1, s, rfl, by go_num, by omega, by omega, scan_take HW.out hlos hvn.out (.inr (by simpa using hgt)), HS.out.trans ⟨_, rfl⟩⟩
              case measure => simp [intOf]; omega
            · have d1 : decide (H x < H s) = false := by simpa using hgt
              go_wp2_with fail
              go_quiet ((go_at_call 21; exact Calls.quiet_of_same (isValid_same _ _ _ B _ true hvv _ (hva.out _) (by omega))))
              go_wp2_with fail
              go_roundw
              case rel => exact ⟨s + 1, x, rfl, by go_num, by omega, by omega, scan_keep HW.out (.inr ⟨by omega, by simp; omega⟩), HS.out.trans ⟨_, rfl⟩⟩
              case measure => simp [intOf]; omega
        · have hvf : valB nv B s = false := by simpa using hvv
          have hvn : Hid (valN n nv B s = false) := by unfold Hid; rw [valN_eq (by omega)]; exact hvf
          clear hcell hvv
          go_wp2_with fail
          go_quiet ((go_at_call 21; exact Calls.quiet_of_same (isValid_same _ _ _ B _ false hvf _ (hva.out _) (by omega))))
          go_wp2_with fail
          go_roundw
          case rel => exact ⟨s + 1, want, rfl, by go_num, by omega, by omega, scan_keep HW.out (.inl hvn.out), HS.out.trans ⟨_, rfl⟩⟩
          case measure => simp [intOf]; omega
      · have HE : Hid (got = want) := HG.out.unique (scan_end HW.out HSH.out hlt)
        have he : (got == want) = true := by simpa using HE.out
        clear HE
        go_wp2_with fail
        go_ret
        exact ⟨rfl, HB4.out.trans (HS.out.below _)⟩
end Go.Proofs.Qxb6000416a
