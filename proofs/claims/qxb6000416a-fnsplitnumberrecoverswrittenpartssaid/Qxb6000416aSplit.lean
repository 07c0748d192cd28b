import Derived.Test.Qxb6000416aPrefix
import Derived.Deep.DeepCutAuto
import Derived.Deep.Light
namespace Go.Proofs.Qxb6000416a
open Go.RowKit Num

theorem len_tk (l : List UInt8) : (tk l).length ≤ l.length := by
  have := congrArg List.length (tk_dp l); simp at this; omega
theorem len_dp (l : List UInt8) : (dp l).length ≤ l.length := by
  have := congrArg List.length (tk_dp l); simp at this; omega

/-- What splitNumber's results say. -/
def Says (sg wh fr ex : ByteArray) (ok : Bool) (p : Parts) : Prop := sg.data.toList = p.sign ∧ wh.data.toList = p.whole ∧ fr.data.toList = p.fraction ∧ ex.data.toList = p.expo ∧ ok = p.ok

theorem says_fail {p : Parts} (h : p = fail) : Says ⟨#[]⟩ ⟨#[]⟩ ⟨#[]⟩ ⟨#[]⟩ false p := by subst h; exact ⟨rfl, rfl, rfl, rfl, rfl⟩

/-! ### the tests as the walk shows them -/
theorem list_of_empty {a : ByteArray} (h : a.toList = []) : a.data.toList = [] := by rw [← Lib.toList_data]; exact h
theorem empty_of_list {a : ByteArray} (h : a.data.toList = []) : a.toList = [] := by rw [Lib.toList_data]; exact h
theorem size_of_cons {a : ByteArray} {c : UInt8} {l : List UInt8} (h : a.data.toList = c :: l) : 0 < a.size := by rw [size_cons h]; omega
theorem isEmpty_of_cons {a : ByteArray} {c : UInt8} {l : List UInt8} (h : a.data.toList = c :: l) : a.toList.isEmpty = false := by rw [Lib.toList_data, h]; rfl

theorem whole_bad {sg r wh : List UInt8} (h : wh = tk r) (hb : badWhole wh = true) : fromWhole sg r = fail := by
  rw [fromWhole, ← h, if_pos hb]
theorem whole_ok {sg r wh r2 : List UInt8} (h : wh = tk r) (h2 : r2 = dp r) (hb : badWhole wh = false) : fromWhole sg r = fromPoint sg wh r2 := by
  rw [fromWhole, ← h, ← h2, hb]; rfl
theorem unsigned_hit {c : UInt8} {l : List UInt8} (h : c = 43 ∨ c = 45) : unsigned (c :: l) = l := by rw [unsigned, if_pos h]
theorem unsigned_miss {c : UInt8} {l : List UInt8} (h : ¬ (c = 43 ∨ c = 45)) : unsigned (c :: l) = c :: l := by rw [unsigned, if_neg h]
theorem unsigned_le (l : List UInt8) : (unsigned l).length ≤ l.length := by
  cases l with
  | nil => exact Nat.le_refl _
  | cons c l => rw [unsigned]; split <;> simp
theorem bad_two {a : ByteArray} (h : 1 < a.size) (h0 : (a[0].toNat : Int) = 48) : badWhole a.data.toList = true := by
  match hl : a.data.toList with
  | [] => rfl
  | [c] => rw [size_cons hl] at h; simp at h
  | c :: d :: l =>
    have e := first_of hl (by omega)
    rw [e] at h0
    have := (eq_num c 48 (by omega)).2 h0
    simp [badWhole, this]
theorem good_two {a : ByteArray} (h : 1 < a.size) (h0 : ¬ (a[0].toNat : Int) = 48) : badWhole a.data.toList = false := by
  match hl : a.data.toList with
  | [] => rw [Lib.size_eq, hl] at h; simp at h
  | [c] => rw [size_cons hl] at h; simp at h
  | c :: d :: l =>
    have e := first_of hl (by omega)
    rw [e] at h0
    have : ¬ c = 48 := fun x => h0 ((eq_num c 48 (by omega)).1 x)
    simp [badWhole, this]
theorem good_one {a : ByteArray} (h : ¬ a.toList = []) (h1 : a.size ≤ 1) : badWhole a.data.toList = false := by
  match hl : a.data.toList with
  | [] => exact absurd (empty_of_list hl) h
  | [c] => rfl
  | c :: d :: l => rw [size_cons hl] at h1; simp at h1

/-- How a call of splitNumber ends. -/
def SplitEnd (s : ByteArray) (w : World) (e : Ending) (w' : World) : Prop :=
  ∃ (sg wh fr ex : ByteArray) (ok : Bool), e = .returned (.tuple #[.string sg, .string wh, .string fr, .string ex, .bool ok]) ∧ Says sg wh fr ex ok (splitL s.data.toList) ∧ Grown w w'
theorem end_fail {s : ByteArray} {w w' : World} (h : splitL s.data.toList = fail) (hg : Grown w w') :
    SplitEnd s w (.returned (.tuple #[.string ⟨#[]⟩, .string ⟨#[]⟩, .string ⟨#[]⟩, .string ⟨#[]⟩, .bool false])) w' :=
  ⟨_, _, _, _, _, rfl, says_fail h, hg⟩
theorem end_says {s sg wh fr ex : ByteArray} {ok : Bool} {w w' : World} {p : Parts} (h : splitL s.data.toList = p) (hs : Says sg wh fr ex ok p) (hg : Grown w w') :
    SplitEnd s w (.returned (.tuple #[.string sg, .string wh, .string fr, .string ex, .bool ok])) w' :=
  ⟨_, _, _, _, _, rfl, by rw [h]; exact hs, hg⟩

set_option maxRecDepth 20000 in
set_option maxHeartbeats 4000000 in
theorem split_any (s : ByteArray) (w : World) (hs : s.size ≤ 4611686018427387903) :
    Calls Try.prog 27 #[.string s] w fun e w' => SplitEnd s w e w' := by
  go_enter Try.func27, Try.ntmps27
  go_upto_if 20 with (go_at_call 30; refine (cutPrefix_any _ _ _ (by omega)).mono ?_; rintro e w1 ⟨r1, b1, rfl, hc1, hg1⟩)
  go_cut [2, 7] (fun v2 v7 wc => ∃ sg r : ByteArray, v2 = .string sg ∧ v7 = .string r ∧ r.size ≤ s.size ∧ splitL s.data.toList = fromWhole sg.data.toList r.data.toList ∧ Grown w wc)
  case first =>
    rcases hc1 with ⟨rfl, h⟩ | ⟨rfl, h, hn⟩
    · have HH : Hid (s.data.toList = 45 :: r1.data.toList) := h
      clear h
      go_wp2
      go_meet
      case rel =>
        refine ⟨_, _, rfl, rfl, ?_, ?_, hg1⟩
        · have := size_cons HH.out; rw [← Lib.size_eq] at this; omega
        · rw [HH.out, splitL, if_pos rfl]
    · have HH : Hid (r1.data.toList = s.data.toList ∧ s.data.toList.head? ≠ some 45) := ⟨h, hn⟩
      clear h hn
      go_wp2
      go_meet
      case rel =>
        refine ⟨_, _, rfl, rfl, Nat.le_refl _, ?_, hg1⟩
        have h2 := HH.out.2
        cases hl : s.data.toList with
        | nil => rfl
        | cons c l =>
          rw [hl] at h2
          rw [splitL, if_neg (by simpa using h2)]
  case rest =>
    obtain ⟨sg, r, rfl, rfl, hr, hsp, hg⟩ := hcut
    have HS : Hid (splitL s.data.toList = fromWhole sg.data.toList r.data.toList) := hsp
    clear hsp hc1 hg1
    go_upto_region 6 with (go_at_call 31; refine (cutDigits_any _ _ (by omega)).mono ?_; rintro e w2 ⟨wh, r2, rfl, hwh, hr2, hg2⟩)
    have hr2s : r2.size ≤ s.size := by
      have := len_dp r.data.toList
      rw [← hr2, ← Lib.size_eq, ← Lib.size_eq] at this; omega
    have hg := Grown.after hg hg2
    have HW : Hid (wh.data.toList = tk r.data.toList ∧ r2.data.toList = dp r.data.toList) := ⟨hwh, hr2⟩
    clear hwh hr2 hg2
    have HB : badWhole wh.data.toList = true → Hid (splitL s.data.toList = fail) := fun hb => HS.out.trans (whole_bad HW.out.1 hb)
    by_cases hE : wh.toList = []
    · have hf := HB (by rw [list_of_empty hE]; rfl)
      clear HB
      go_wp2_with fail
      exact bodyPost_ret (v := .tuple #[.string ⟨#[]⟩, .string ⟨#[]⟩, .string ⟨#[]⟩, .string ⟨#[]⟩, .bool false]) (by simp [results, Try.results27, go_sem]) rfl (end_fail hf.out hg)
    have hEm : wh.toList.isEmpty = false := by simpa using hE
    by_cases hbw : badWhole wh.data.toList = true
    · have hf := HB hbw
      have h1 : (1 : Int) < (wh.size : Int) := by
        rcases Nat.lt_or_ge 1 wh.size with h | h
        · omega
        · rw [good_one hE h] at hbw; simp at hbw
      have h0 : 0 < wh.size := by omega
      have h48 : (wh[0].toNat : Int) = 48 := by
        rcases Decidable.em ((wh[0].toNat : Int) = 48) with h | h
        · exact h
        · rw [good_two (by omega) h] at hbw; simp at hbw
      clear HB hbw
      go_wp2_with fail
      exact bodyPost_ret (v := .tuple #[.string ⟨#[]⟩, .string ⟨#[]⟩, .string ⟨#[]⟩, .string ⟨#[]⟩, .bool false]) (by simp [results, Try.results27, go_sem]) rfl (end_fail hf.out hg)
    have HP : Hid (splitL s.data.toList = fromPoint sg.data.toList wh.data.toList r2.data.toList) := HS.out.trans (whole_ok HW.out.1 HW.out.2 (by simpa using hbw))
    have hcase : (wh.size : Int) ≤ 1 ∨ ((1 : Int) < (wh.size : Int) ∧ ∀ h : 0 < wh.size, ((wh[0].toNat : Int) == 48) = false) := by
      rcases Nat.lt_or_ge 1 wh.size with h | h
      · refine .inr ⟨by omega, fun h0 => ?_⟩
        rcases Decidable.em ((wh[0].toNat : Int) = 48) with h4 | h4
        · exact absurd (bad_two h h4) hbw
        · simpa using h4
      · exact .inl (by omega)
    clear HB hbw
    go_cut [38] (fun v wc => v = .bool false ∧ Grown w wc)
    case first =>
      rcases hcase with h1 | ⟨h1, h2⟩
      · go_wp2
        go_meet
        case rel => exact ⟨rfl, hg⟩
      · have h0 : 0 < wh.size := by omega
        have h3 := h2 h0
        go_wp2
        go_meet
        case rel => exact ⟨rfl, hg⟩
    case rest =>
      obtain ⟨rfl, hgc⟩ := hcut
      clear hcase HS HW hg hE hEm
      go_upto_if 44 with (go_at_call 30; refine (cutPrefix_any _ _ _ (by omega)).mono ?_; rintro e w3 ⟨r3, b3, rfl, hc3, hg3⟩)
      have hg := Grown.after hgc hg3
      clear hgc hg3
      go_cut [2, 3, 4, 5, 7] (fun v2 v3 v4 v5 v7 wc => ∃ fr r4 : ByteArray, v2 = .string sg ∧ v3 = .string wh ∧ v5 = .string ⟨#[]⟩ ∧ v4 = .string fr ∧ v7 = .string r4 ∧ r4.size ≤ s.size ∧ splitL s.data.toList = fromExpo sg.data.toList wh.data.toList fr.data.toList r4.data.toList ∧ Grown w wc)
      case first =>
        rcases hc3 with ⟨rfl, h⟩ | ⟨rfl, h, hn⟩
        · have hs3 : r3.size ≤ s.size := by
            have := size_cons h; rw [← Lib.size_eq] at this; omega
          have HH : Hid (splitL s.data.toList = if tk r3.data.toList = [] then fail else fromExpo sg.data.toList wh.data.toList (tk r3.data.toList) (dp r3.data.toList)) := by
            unfold Hid; rw [HP.out, h, fromPoint, if_pos rfl]
          clear h HP
          go_upto_region 11 with (go_at_call 31; refine (cutDigits_any _ _ (by omega)).mono ?_; rintro e w4 ⟨fr, r4, rfl, hfr, hr4, hg4⟩)
          have hg := Grown.after hg hg4
          have hr4s : r4.size ≤ s.size := by
            have := len_dp r3.data.toList
            rw [← hr4, ← Lib.size_eq, ← Lib.size_eq] at this; omega
          by_cases hF : fr.toList = []
          · have hf : Hid (splitL s.data.toList = fail) := by
              unfold Hid; rw [HH.out, if_pos (by rw [← hfr]; exact list_of_empty hF)]
            clear HH hfr hr4 hg4
            go_wp2_with fail
            exact bodyPost_ret (v := .tuple #[.string ⟨#[]⟩, .string ⟨#[]⟩, .string ⟨#[]⟩, .string ⟨#[]⟩, .bool false]) (by simp [results, Try.results27, go_sem]) rfl (end_fail hf.out hg)
          · have hFm : fr.toList.isEmpty = false := by simpa using hF
            have hf : Hid (splitL s.data.toList = fromExpo sg.data.toList wh.data.toList fr.data.toList r4.data.toList) := by
              unfold Hid; rw [HH.out, if_neg (by rw [← hfr, ← Lib.toList_data]; exact hF), hfr, hr4]
            clear HH hfr hr4 hg4
            go_wp2_with fail
            go_meet
            case rel => exact ⟨fr, r4, rfl, rfl, rfl, rfl, rfl, hr4s, hf.out, hg⟩
        · have HH : Hid (splitL s.data.toList = fromExpo sg.data.toList wh.data.toList [] r2.data.toList) := by
            unfold Hid; rw [HP.out]
            cases hl : r2.data.toList with
            | nil => rfl
            | cons c l =>
              rw [hl] at hn
              rw [fromPoint, if_neg (by simpa using hn)]
          clear h hn HP
          go_wp2_with fail
          go_meet
          case rel => exact ⟨_, _, rfl, rfl, rfl, rfl, rfl, hr2s, HH.out, hg⟩
      case rest =>
        obtain ⟨fr, r4, rfl, rfl, rfl, rfl, rfl, hr4, hx, hgd⟩ := hcut
        have HX : Hid (splitL s.data.toList = fromExpo sg.data.toList wh.data.toList fr.data.toList r4.data.toList) := hx
        clear hx hc3 HP hg
        go_upto_region 13 with fail
        cases hl : r4.data.toList with
        | nil =>
          have h0 := empty_of_list hl
          have hm : r4.toList.isEmpty = true := by rw [h0]; rfl
          rw [hl] at HX
          clear hl
          go_wp2_with fail
          refine bodyPost_ret (v := .tuple #[.string sg, .string wh, .string fr, .string ⟨#[]⟩, .bool true]) (by simp [results, Try.results27, go_sem]) rfl (end_says HX.out ⟨rfl, rfl, rfl, rfl, rfl⟩ hgd)
        | cons c l =>
          have hz := size_of_cons hl
          have hm := isEmpty_of_cons hl
          have hn : ¬ r4.toList = [] := by rw [Lib.toList_data, hl]; simp
          have hc : r4[0] = c := first_of hl hz
          by_cases hE : c = 101 ∨ c = 69
          · have hL : l.length + 1 = r4.size := (size_cons hl).symm
            have HL : Hid ((r4.extract 1 r4.size).data.toList = l) := tail_of hl
            rw [hl, fromExpo, if_pos hE] at HX
            have hcase : ((r4[0].toNat : Int) == 101) = true ∨ (((r4[0].toNat : Int) == 101) = false ∧ ((r4[0].toNat : Int) == 69) = true) := by
              rw [hc]; rcases hE with rfl | rfl <;> decide
            have hz1 : (1 : Int) ≤ (r4.size : Int) := by omega
            clear hl hc hE
            go_cut [63] (fun v wc => v = .bool true ∧ Grown w wc)
            case first =>
              rcases hcase with h1 | ⟨h1, h2⟩
              · go_wp2
                go_meet
                case rel => exact ⟨rfl, hgd⟩
              · go_wp2
                go_meet
                case rel => exact ⟨rfl, hgd⟩
            case rest =>
              obtain ⟨rfl, hge⟩ := hcut
              clear hcase hgd hm hn
              go_upto_region 16 with fail
              generalize hwr : r4.extract 1 r4.size = wr
              rw [hwr] at HL
              have HZ : Hid (wr.size = l.length) := by unfold Hid; rw [Lib.size_eq, HL.out]
              have hzs : wr.size ≤ s.size := by have := HZ.out; omega
              clear hL
              clear hwr
              go_cut [78] (fun v wc => ∃ b : Bool, v = .bool b ∧ (b = true → (1 : Int) ≤ (wr.size : Int) ∧ (wr.extract 1 wr.size).data.toList = unsigned l) ∧ (b = false → wr.data.toList = unsigned l) ∧ Grown w wc)
              case first =>
                cases hw : wr.data.toList with
                | nil =>
                  have h0 := empty_of_list hw
                  have hm : wr.toList.isEmpty = true := by rw [h0]; rfl
                  have HU : Hid (wr.data.toList = unsigned l) := by
                    unfold Hid; rw [← HL.out, hw]; rfl
                  clear hw
                  go_wp2
                  go_meet
                  case rel => exact ⟨false, rfl, by simp, fun _ => HU.out, hge⟩
                | cons c2 l2 =>
                  have hzz := size_of_cons hw
                  have hm := isEmpty_of_cons hw
                  have hn : ¬ wr.toList = [] := by rw [Lib.toList_data, hw]; simp
                  have hc : wr[0] = c2 := first_of hw hzz
                  by_cases hE : c2 = 43 ∨ c2 = 45
                  · have HU : Hid ((wr.extract 1 wr.size).data.toList = unsigned l) := by
                      unfold Hid; rw [tail_of hw, ← HL.out, hw, unsigned_hit hE]
                    have hcc : ((wr[0].toNat : Int) == 43) = true ∨ (((wr[0].toNat : Int) == 43) = false ∧ ((wr[0].toNat : Int) == 45) = true) := by
                      rw [hc]; rcases hE with rfl | rfl <;> decide
                    clear hw hc hE
                    rcases hcc with h1 | ⟨h1, h2⟩
                    · go_wp2
                      go_meet
                      case rel => exact ⟨true, rfl, fun _ => ⟨by omega, HU.out⟩, by simp, hge⟩
                    · go_wp2
                      go_meet
                      case rel => exact ⟨true, rfl, fun _ => ⟨by omega, HU.out⟩, by simp, hge⟩
                  · have HU : Hid (wr.data.toList = unsigned l) := by
                      unfold Hid; rw [← HL.out, hw, unsigned_miss hE]
                    have h1 : ((wr[0].toNat : Int) == 43) = false := by
                      rw [hc]; simp; intro x; exact hE (.inl ((eq_num c2 43 (by omega)).2 x))
                    have h2 : ((wr[0].toNat : Int) == 45) = false := by
                      rw [hc]; simp; intro x; exact hE (.inr ((eq_num c2 45 (by omega)).2 x))
                    clear hw hc hE
                    go_wp2
                    go_meet
                    case rel => exact ⟨false, rfl, by simp, fun _ => HU.out, hge⟩
              case rest =>
                obtain ⟨b, rfl, hbt, hbf, hgf⟩ := hcut
                go_upto_if 78 with fail
                go_cut [7] (fun v7 wc => ∃ r5 : ByteArray, v7 = .string r5 ∧ r5.data.toList = unsigned l ∧ Grown w wc)
                case first =>
                  cases b with
                  | true =>
                    obtain ⟨h1, h2⟩ := hbt rfl
                    have HU : Hid ((wr.extract 1 wr.size).data.toList = unsigned l) := h2
                    clear hbt hbf h2
                    go_wp2
                    go_meet
                    case rel => exact ⟨_, rfl, HU.out, hgf⟩
                  | false =>
                    have HU : Hid (wr.data.toList = unsigned l) := hbf rfl
                    clear hbt hbf
                    go_wp2
                    go_meet
                    case rel => exact ⟨_, rfl, HU.out, hgf⟩
                case rest =>
                  obtain ⟨r5, rfl, hr5, hgg⟩ := hcut
                  have hs5 : r5.size ≤ wr.size := by
                    have := unsigned_le l
                    have hz := HZ.out
                    rw [← hr5, ← Lib.size_eq] at this; omega
                  have HR : Hid (r5.data.toList = unsigned l) := hr5
                  clear hr5 hbt hbf hgf hge
                  go_upto_region 20 with (go_at_call 31; refine (cutDigits_any _ _ (by omega)).mono ?_; rintro e w6 ⟨dg, r6, rfl, hdg, hr6, hg6⟩)
                  have hg := Grown.after hgg hg6
                  have hr6s : r6.size ≤ wr.size := by
                    have := len_dp r5.data.toList
                    rw [← hr6, ← Lib.size_eq, ← Lib.size_eq] at this; omega
                  rw [HR.out] at hdg hr6
                  by_cases hF : dg.toList = []
                  · have hf : Hid (splitL s.data.toList = fail) := by
                      unfold Hid; rw [HX.out, if_pos (by rw [← hdg]; exact list_of_empty hF)]
                    clear HX hdg hr6 hg6 hgg
                    go_wp2_with fail
                    exact bodyPost_ret (v := .tuple #[.string ⟨#[]⟩, .string ⟨#[]⟩, .string ⟨#[]⟩, .string ⟨#[]⟩, .bool false]) (by simp [results, Try.results27, go_sem]) rfl (end_fail hf.out hg)
                  · have hFm : dg.toList.isEmpty = false := by simpa using hF
                    have hf : Hid (splitL s.data.toList = ⟨sg.data.toList, wh.data.toList, fr.data.toList, wr.data.toList.take (wr.size - r6.size), r6.toList.isEmpty⟩) := by
                      unfold Hid; rw [HX.out, if_neg (by rw [← hdg, ← Lib.toList_data]; exact hF), ← hr6, ← HL.out, ← Lib.size_eq, ← Lib.size_eq, Lib.toList_data]
                    clear HX hdg hr6 hg6 hgg
                    go_wp2_with fail
                    refine bodyPost_ret (v := .tuple #[.string sg, .string wh, .string fr, .string (wr.extract 0 (wr.size - r6.size)), .bool r6.toList.isEmpty]) (by simp [results, Try.results27, go_sem]) rfl (end_says hf.out ⟨rfl, rfl, rfl, ?_, rfl⟩ hg)
                    rw [Lib.extract_data]; simp
          · have h1 : ((r4[0].toNat : Int) == 101) = false := by
              rw [hc]; simp; intro x; exact hE (.inl ((eq_num c 101 (by omega)).2 x))
            have h2 : ((r4[0].toNat : Int) == 69) = false := by
              rw [hc]; simp; intro x; exact hE (.inr ((eq_num c 69 (by omega)).2 x))
            rw [hl, fromExpo, if_neg hE] at HX
            clear hl hc hE
            go_wp2_with fail
            refine bodyPost_ret (v := .tuple #[.string sg, .string wh, .string fr, .string ⟨#[]⟩, .bool false]) (by simp [results, Try.results27, go_sem]) rfl (end_says HX.out ⟨rfl, rfl, rfl, rfl, rfl⟩ hgd)
end Go.Proofs.Qxb6000416a
