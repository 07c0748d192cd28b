import Derived.Test.Qxb6000416aDigits
namespace Go.Proofs.Qxb6000416a
open Go.RowKit Num

/-- ZZSplitNumber hands splitNumber's answer on. -/
theorem zzSplit_any (s : ByteArray) (w : World) (hs : s.size ≤ 4611686018427387903) :
    Calls Try.prog 11 #[.string s] w fun e w' => SplitEnd s w e w' := by
  go_enter Try.func11, Try.ntmps11
  go_wp2_with (go_at_call 27; refine (split_any _ _ hs).mono ?_; rintro e w1 ⟨sg, wh, fr, ex, ok, rfl, hsy, hg⟩)
  exact bodyPost_ret (v := .tuple #[.string sg, .string wh, .string fr, .string ex, .bool ok]) (by simp [results, Try.results11, go_sem]) rfl (end_says rfl hsy hg)

theorem same_of {a b : ByteArray} (h : a.data.toList = b.data.toList) : (a.toList == b.toList) = true := by
  rw [Lib.toList_data, Lib.toList_data, h]; simp
theorem allD_mem {l : List UInt8} (h : allD l = true) : ∀ c ∈ l, isD c = true := by
  unfold allD at h; simpa using h
theorem append_data (a b : ByteArray) : (a ++ b).data.toList = a.data.toList ++ b.data.toList := by simp

set_option maxRecDepth 20000 in
set_option maxHeartbeats 4000000 in
theorem recover_walk (a0 : Bool) (a1 : ByteArray) (a2 : ByteArray) (a3 : Bool) (a4 : Bool) (a5 : Int) (a6 : ByteArray) (w1 : a1.size ≤ 9223372036854775807) (w2 : a2.size ≤ 9223372036854775807) (w6 : a6.size ≤ 9223372036854775807) (w : World) :
    Calls Try.prog 5 #[.bool a0, .string a1, .string a2, .bool a3, .bool a4, .int .i8 a5, .string a6] w fun e w' => e = .returned (.bool true) ∧ Grown w w' := by
  by_cases s1 : (262144 : Int) < (a1.size : Int)
  · go_enter Try.func5, Try.ntmps5
    go_wp2_with (first | (go_at_call 15; refine (bytes15 _ _ _ _ _ _ _ _ (by omega) (by omega) (by omega)).mono ?_; rintro e w' ⟨b, rfl, rfl⟩))
    all_goals go_ret
    all_goals exact ⟨rfl, Grown.refl _⟩
  by_cases s2 : (262144 : Int) < (a2.size : Int)
  · go_enter Try.func5, Try.ntmps5
    go_wp2_with (first | (go_at_call 15; refine (bytes15 _ _ _ _ _ _ _ _ (by omega) (by omega) (by omega)).mono ?_; rintro e w' ⟨b, rfl, rfl⟩))
    all_goals go_ret
    all_goals exact ⟨rfl, Grown.refl _⟩
  by_cases s6 : (262144 : Int) < (a6.size : Int)
  · go_enter Try.func5, Try.ntmps5
    go_wp2_with (first | (go_at_call 15; refine (bytes15 _ _ _ _ _ _ _ _ (by omega) (by omega) (by omega)).mono ?_; rintro e w' ⟨b, rfl, rfl⟩))
    all_goals go_ret
    all_goals exact ⟨rfl, Grown.refl _⟩
  go_enter Try.func5, Try.ntmps5
  go_upto_if 33 with (first | (go_at_call 15; refine (bytes15 _ _ _ _ _ _ _ _ (by omega) (by omega) (by omega)).mono ?_; rintro e w' ⟨b, rfl, rfl⟩))
  cases b with
  | false =>
    go_wp2
    go_ret
    exact ⟨rfl, Grown.refl _⟩
  | true =>
    go_upto_region 5 with fail
    by_cases hE : a1.toList = []
    · go_wp2
      go_ret
      exact ⟨rfl, Grown.refl _⟩
    have hEm : a1.toList.isEmpty = false := by simpa using hE
    by_cases hA1 : allD a1.data.toList = true
    case neg =>
      have hA1' : allD a1.data.toList = false := by simpa using hA1
      go_wp2_with (first | (go_at_call 14; refine (allDigits_any _ _ (by omega)).mono ?_; rintro e w' ⟨rfl, rfl⟩))
      go_ret
      exact ⟨rfl, Grown.refl _⟩
    by_cases hbw : badWhole a1.data.toList = true
    · have h1 : (1 : Int) < (a1.size : Int) := by
        rcases Nat.lt_or_ge 1 a1.size with h | h
        · omega
        · rw [good_one hE h] at hbw; simp at hbw
      have h0 : 0 < a1.size := by omega
      have h48 : (a1[0].toNat : Int) = 48 := by
        rcases Decidable.em ((a1[0].toNat : Int) = 48) with h | h
        · exact h
        · rw [good_two (by omega) h] at hbw; simp at hbw
      clear hbw
      go_wp2_with (first | (go_at_call 14; refine (allDigits_any _ _ (by omega)).mono ?_; rintro e w' ⟨rfl, rfl⟩))
      go_ret
      exact ⟨rfl, Grown.refl _⟩
    have hcase : (a1.size : Int) ≤ 1 ∨ ((1 : Int) < (a1.size : Int) ∧ ∀ h : 0 < a1.size, ((a1[0].toNat : Int) == 48) = false) := by
      rcases Nat.lt_or_ge 1 a1.size with h | h
      · refine .inr ⟨by omega, fun h0 => ?_⟩
        rcases Decidable.em ((a1[0].toNat : Int) = 48) with h4 | h4
        · exact absurd (bad_two h h4) hbw
        · simpa using h4
      · exact .inl (by omega)
    have HB : Hid (badWhole a1.data.toList = false) := by unfold Hid; simpa using hbw
    clear hbw
    go_cut [63] (fun v wc => v = .bool false ∧ Grown w wc)
    case first =>
      rcases hcase with h1 | ⟨h1, h2⟩
      · go_wp2_with (first | (go_at_call 14; refine (allDigits_any _ _ (by omega)).mono ?_; rintro e w' ⟨rfl, rfl⟩))
        go_meet
        case rel => exact ⟨rfl, Grown.refl _⟩
      · have h0 : 0 < a1.size := by omega
        have h3 := h2 h0
        go_wp2_with (first | (go_at_call 14; refine (allDigits_any _ _ (by omega)).mono ?_; rintro e w' ⟨rfl, rfl⟩))
        go_meet
        case rel => exact ⟨rfl, Grown.refl _⟩
    case rest =>
      obtain ⟨rfl, hg⟩ := hcut
      clear hcase
      have HA1 : Hid (allD a1.data.toList = true) := hA1
      clear hA1
      by_cases hA2 : allD a2.data.toList = true
      case neg =>
        have hA2' : allD a2.data.toList = false := by simpa using hA2
        go_wp2_with (first | (go_at_call 14; refine (allDigits_any _ _ (by omega)).mono ?_; rintro e w' ⟨rfl, rfl⟩))
        go_ret
        exact ⟨rfl, hg⟩
      go_upto_region 9 with (first | (go_at_call 14; refine (allDigits_any _ _ (by omega)).mono ?_; rintro e w' ⟨rfl, rfl⟩))
      have HA2 : Hid (allD a2.data.toList = true) := hA2
      clear hA2
      by_cases hX : a3 = true ∧ a6.toList = []
      · obtain ⟨rfl, hX⟩ := hX
        go_wp2
        go_ret
        exact ⟨rfl, hg⟩
      by_cases hY : a3 = true ∧ allD a6.data.toList = false
      · obtain ⟨rfl, hY⟩ := hY
        have hX' : ¬ a6.toList = [] := fun x => hX ⟨rfl, x⟩
        have hXm : a6.toList.isEmpty = false := by simpa using hX'
        clear hX
        go_wp2_with (first | (go_at_call 14; refine (allDigits_any _ _ (by omega)).mono ?_; rintro e w' ⟨rfl, rfl⟩))
        go_ret
        exact ⟨rfl, hg⟩
      have HXY : Hid (a3 = true → a6.toList ≠ [] ∧ allD a6.data.toList = true) := by
        intro h
        refine ⟨fun x => hX ⟨h, x⟩, ?_⟩
        rcases hb : allD a6.data.toList with _ | _
        · exact absurd ⟨h, hb⟩ hY
        · rfl
      clear hX hY
      go_cut [76] (fun v wc => v = .bool false ∧ Grown w wc)
      case first =>
        cases a3 with
        | false =>
          go_wp2
          go_meet
          case rel => exact ⟨rfl, hg⟩
        | true =>
          obtain ⟨hX', hY⟩ := HXY.out rfl
          have hXm : a6.toList.isEmpty = false := by simpa using hX'
          go_wp2_with (first | (go_at_call 14; refine (allDigits_any _ _ (by omega)).mono ?_; rintro e w' ⟨rfl, rfl⟩))
          go_meet
          case rel => exact ⟨rfl, hg⟩
      case rest =>
        obtain ⟨rfl, hgc⟩ := hcut
        clear hg
        go_upto_if 77 with fail
        go_cut [15] (fun v wc => ∃ sg : ByteArray, v = .string sg ∧ sg.size ≤ 1 ∧ sg.data.toList = (if a0 = true then [45] else []) ∧ Grown w wc)
        case first =>
          cases a0 with
          | true =>
            go_wp2
            go_meet
            case rel => exact ⟨_, rfl, by decide, rfl, hgc⟩
          | false =>
            go_wp2
            go_meet
            case rel => exact ⟨_, rfl, by decide, rfl, hgc⟩
        case rest =>
          obtain ⟨sg, rfl, hsg, hsl, hgd⟩ := hcut
          have HSG : Hid (sg.data.toList = (if a0 = true then [45] else [])) := hsl
          clear hsl hgc
          have hb1 : sg.size + a1.size ≤ 9223372036854775807 := by omega
          go_upto_region 15 with fail
          have hts : (sg ++ a1).size ≤ 262145 := by simp; omega
          have HT1 : Hid ((sg ++ a1).data.toList = (if a0 = true then [45] else []) ++ a1.data.toList) := by
            unfold Hid; rw [append_data, HSG.out]
          generalize hgen : sg ++ a1 = t1
          rw [hgen] at hts HT1
          clear hgen
          go_cut [82] (fun v wc => ∃ b : Bool, v = .bool b ∧ (b = true → a2.data.toList ≠ []) ∧ (b = false → a2.data.toList = []) ∧ Grown w wc)
          case first =>
            by_cases h2 : a2.toList = []
            · have hm : a2.toList.isEmpty = true := by rw [h2]; rfl
              go_wp2
              go_meet
              case rel => exact ⟨false, rfl, by simp, fun _ => list_of_empty h2, hgd⟩
            · have hm : a2.toList.isEmpty = false := by simpa using h2
              go_wp2
              go_meet
              case rel => exact ⟨true, rfl, fun _ x => h2 (empty_of_list x), by simp, hgd⟩
          case rest =>
            obtain ⟨b2, rfl, hbt, hbf, hge⟩ := hcut
            clear hgd
            go_upto_if 82 with fail
            go_cut [16] (fun v wc => ∃ t2 : ByteArray, v = .string t2 ∧ t2.size ≤ 524290 ∧ t2.data.toList = (if a0 = true then [45] else []) ++ a1.data.toList ++ (if a2.data.toList = [] then [] else 46 :: a2.data.toList) ∧ Grown w wc)
            case first =>
              cases b2 with
              | false =>
                have HN : Hid (a2.data.toList = []) := hbf rfl
                clear hbt hbf
                go_wp2
                go_meet
                case rel => exact ⟨_, rfl, by omega, by rw [HT1.out, HN.out]; simp, hge⟩
              | true =>
                have HN : Hid (a2.data.toList ≠ []) := hbt rfl
                have hd1 : ByteArray.size ⟨#[46]⟩ = 1 := rfl
                have hz1 : t1.size + ByteArray.size ⟨#[46]⟩ ≤ 9223372036854775807 := by rw [hd1]; omega
                have hz2 : (t1 ++ ⟨#[46]⟩ : ByteArray).size + a2.size ≤ 9223372036854775807 := by simp [hd1]; omega
                have HZ : Hid ((t1 ++ (⟨#[46]⟩ : ByteArray) ++ a2).size ≤ 524290) := by unfold Hid; simp [hd1]; omega
                clear hbt hbf
                go_wp2
                go_meet
                case rel => exact ⟨_, rfl, HZ.out, by rw [append_data, append_data, HT1.out, if_neg HN.out]; simp, hge⟩
            case rest =>
              obtain ⟨t2, rfl, hz2, hl2, hgf⟩ := hcut
              have HT2 : Hid (t2.data.toList = (if a0 = true then [45] else []) ++ a1.data.toList ++ (if a2.data.toList = [] then [] else 46 :: a2.data.toList)) := hl2
              clear hl2 hge hbt hbf HT1
              go_upto_if 87 with fail
              go_cut [16, 17, 18, 19] (fun v16 v17 v18 v19 wc => ∃ (t3 we : ByteArray) (letter : UInt8) (es : List UInt8), v16 = .string t3 ∧ v17 = .string we ∧ t3.size ≤ 1000000 ∧ (letter = 101 ∨ letter = 69) ∧ (es = [] ∨ es = [43] ∨ es = [45]) ∧
                t3.data.toList = Num.written (if a0 = true then [45] else []) a1.data.toList a2.data.toList a3 letter (es ++ a6.data.toList) ∧ we.data.toList = (if a3 = true then es ++ a6.data.toList else []) ∧ Grown w wc)
              case first =>
                cases a3 with
                | false =>
                  go_wp2
                  go_meet
                  case rel => exact ⟨_, _, 101, [], rfl, rfl, by omega, .inl rfl, .inl rfl, by rw [HT2.out]; simp [Num.written], rfl, hgf⟩
                | true =>
                  go_upto_if 89 with fail
                  go_cut [18] (fun v wc => ∃ es : ByteArray, v = .string es ∧ es.size ≤ 1 ∧ (es.data.toList = [] ∨ es.data.toList = [43] ∨ es.data.toList = [45]) ∧ Grown w wc)
                  case first =>
                    by_cases h1 : a5 = 1
                    · subst h1
                      go_wp2
                      go_meet
                      case rel => exact ⟨_, rfl, by decide, .inr (.inl rfl), hgf⟩
                    · have h1' : (a5 == 1) = false := by simpa using h1
                      by_cases h2 : a5 = 2
                      · subst h2
                        go_wp2
                        go_meet
                        case rel => exact ⟨_, rfl, by decide, .inr (.inr rfl), hgf⟩
                      · have h2' : (a5 == 2) = false := by simpa using h2
                        go_wp2
                        go_meet
                        case rel => exact ⟨_, rfl, by decide, .inl rfl, hgf⟩
                  case rest =>
                    obtain ⟨es, rfl, hzs, hes, hgg⟩ := hcut
                    have HES : Hid (es.data.toList = [] ∨ es.data.toList = [43] ∨ es.data.toList = [45]) := hes
                    clear hes hgf
                    have hb6 : es.size + a6.size ≤ 9223372036854775807 := by omega
                    go_upto_if 95 with fail
                    have hws : (es ++ a6).size ≤ 262145 := by simp; omega
                    have HWE : Hid ((es ++ a6).data.toList = es.data.toList ++ a6.data.toList) := append_data _ _
                    generalize hgen : es ++ a6 = we
                    rw [hgen] at hws HWE
                    clear hgen
                    go_cut [19] (fun v wc => ∃ lt : UInt8, v = .string ⟨#[lt]⟩ ∧ (lt = 101 ∨ lt = 69) ∧ Grown w wc)
                    case first =>
                      cases a4 with
                      | true =>
                        go_wp2
                        go_meet
                        case rel => exact ⟨69, rfl, .inr rfl, hgg⟩
                      | false =>
                        go_wp2
                        go_meet
                        case rel => exact ⟨101, rfl, .inl rfl, hgg⟩
                    case rest =>
                      obtain ⟨lt, rfl, hlt, hgh⟩ := hcut
                      have HLT : Hid (lt = 101 ∨ lt = 69) := hlt
                      clear hlt hgg
                      have hd1 : ByteArray.size ⟨#[lt]⟩ = 1 := rfl
                      have hz3 : t2.size + ByteArray.size ⟨#[lt]⟩ ≤ 9223372036854775807 := by rw [hd1]; omega
                      have hz4 : (t2 ++ ⟨#[lt]⟩ : ByteArray).size + we.size ≤ 9223372036854775807 := by simp [hd1]; omega
                      have HZ : Hid ((t2 ++ (⟨#[lt]⟩ : ByteArray) ++ we).size ≤ 1000000) := by unfold Hid; simp [hd1]; omega
                      go_wp2
                      go_meet
                      case rel => exact ⟨_, _, lt, es.data.toList, rfl, rfl, HZ.out, HLT.out, HES.out, by rw [append_data, append_data, HT2.out, HWE.out]; simp [Num.written], by rw [HWE.out]; rfl, hgh⟩
              case rest =>
                obtain ⟨t3, we, letter, es, rfl, rfl, hz3, hlet, hes, ht3, hwe, hgi⟩ := hcut
                have hlaw := splitL_written a0 a1.data.toList a2.data.toList a3 letter es a6.data.toList hlet hes (fun h => allD_mem (HXY.out h).2) (fun h x => (HXY.out h).1 (empty_of_list x)) (allD_mem HA2.out) (allD_mem HA1.out) HB.out
                rw [← ht3, ← hwe, ← HSG.out] at hlaw
                have HL : Hid (splitL t3.data.toList = { sign := sg.data.toList, whole := a1.data.toList, fraction := a2.data.toList, expo := we.data.toList, ok := true }) := hlaw
                clear hlaw ht3 hwe hlet hes hgf
                go_upto_region 30 with (go_at_call 11; refine (zzSplit_any _ _ (by omega)).mono ?_; rintro e w9 ⟨sg', wh', fr', ex', ok', rfl, hsy, hgj⟩)
                rw [HL.out] at hsy
                obtain ⟨y1, y2, y3, y4, rfl⟩ := hsy
                have z1 := same_of y1
                have z2 := same_of y2
                have z3 := same_of y3
                have z4 := same_of y4
                clear y1 y2 y3 y4
                have hgk := Grown.after hgi hgj
                clear hgi hgj
                go_wp2
                go_ret
                exact ⟨rfl, hgk⟩
end Go.Proofs.Qxb6000416a
