import Derived.Test.Qxb6601180aDigits
namespace Go.Proofs.Qxb6601180a
open Go.RowKit Rd

/-- Where the digits begin, and whether a minus stands ahead of them. -/
def StartAt (F : Nat → Int) (n : Nat) (neg : Bool) (s : Nat) : Prop := (neg = true ∧ s = 1 ∧ 0 < n ∧ F 0 = 45) ∨ (neg = false ∧ s = 0 ∧ ¬ (0 < n ∧ F 0 = 45))

/-- The parts that are handed back of an accepted text; the empty number of a refused one. -/
def PartsOf (F : Nat → Int) (n g : Nat) (neg : Bool) (s : Nat) (vn vw vf vx : Value) (ok : Bool) : Prop :=
  (ok = false ∧ NoNum F n s ∧ vn = .bool false ∧ vw = .slice none 0 0 ∧ vf = .slice none 0 0 ∧ vx = .slice none 0 0) ∨
  (ok = true ∧ vn = .bool neg ∧ ∃ a hf b hx, NumIs F n s a hf b hx ∧ IsSl g s a vw ∧ (hf = true → IsSl g (a + 1) b vf) ∧ (hf = false → vf = .slice none 0 0) ∧ (hx = true → IsSl g (b + 1) n vx) ∧ (hx = false → vx = .slice none 0 0))

/-- How a call of readNumber ends. -/
def ReadEnd (w : World) (F : Nat → Int) (n g : Nat) (neg : Bool) (s : Nat) (e : Ending) (w' : World) : Prop :=
  ∃ vn vw vf vx ok, e = .returned (.tuple #[.agg #[vn, vw, vf, vx], .bool ok]) ∧ PartsOf F n g neg s vn vw vf vx ok ∧ Below w.heap.size w w'

theorem inv_new (w : World) (g n : Nat) :
    Inv w ((((w.alloc (.cells #[.slice (some ⟨g, 0, none⟩) n n] 22)).alloc (.cells #[.bool false, .slice none 0 0, .slice none 0 0, .slice none 0 0] 30)).alloc (.cells #[.bool false, .slice none 0 0, .slice none 0 0, .slice none 0 0] 30)).alloc (.cells #[.int .i64 0] 3))
      w.heap.size (w.heap.size + 1) (w.heap.size + 1 + 1) (w.heap.size + 1 + 1 + 1) g n (.bool false) (.slice none 0 0) (.slice none 0 0) (.slice none 0 0) 0 := by
  refine ⟨by omega, by omega, by omega, ?_, ?_, ?_, ?_, ?_⟩
  · show ((((w.heap.push _).push _).push _).push _)[w.heap.size]? = _
    simp only [Array.getElem?_push, Array.size_push]
    rw [if_neg (by omega), if_neg (by omega), if_neg (by omega), if_pos trivial]
  · show ((((w.heap.push _).push _).push _).push _)[w.heap.size + 1]? = _
    simp only [Array.getElem?_push, Array.size_push]
    rw [if_neg (by omega), if_neg (by omega), if_pos trivial]
  · show ((((w.heap.push _).push _).push _).push _)[w.heap.size + 1 + 1]? = _
    simp only [Array.getElem?_push, Array.size_push]
    rw [if_neg (by omega), if_pos trivial]
  · show ((((w.heap.push _).push _).push _).push _)[w.heap.size + 1 + 1 + 1]? = _
    simp only [Array.getElem?_push, Array.size_push]
    rw [if_pos trivial]
    rfl
  · exact ((((Below.refl _ _).alloc (Nat.le_refl _) _).alloc (by simp) _).alloc (by simp; omega) _).alloc (by simp; omega) _

theorem below4 {w w3 : World} {B Br : Nat} (hb : Below B w w3) (h : B < Br) (u0 u1 u2 u3 : Value) : Below B w ((((w3.setCell ⟨Br, 0, none⟩ u0).setCell ⟨Br, 1, none⟩ u1).setCell ⟨Br, 2, none⟩ u2).setCell ⟨Br, 3, none⟩ u3) :=
  (((hb.setCell (by dsimp only; omega) _).setCell (by dsimp only; omega) _).setCell (by dsimp only; omega) _).setCell (by dsimp only; omega) _

theorem fail_end {w w3 : World} {Br : Nat} {F : Nat → Int} {n g s : Nat} {neg : Bool} (hb : Below w.heap.size w w3) (h : w.heap.size < Br) (hno : NoNum F n s) :
    ReadEnd w F n g neg s (.returned (.tuple #[.agg #[.bool false, .slice none 0 0, .slice none 0 0, .slice none 0 0], .bool false]))
      ((((w3.setCell ⟨Br, 0, none⟩ (.bool false)).setCell ⟨Br, 1, none⟩ (.slice none 0 0)).setCell ⟨Br, 2, none⟩ (.slice none 0 0)).setCell ⟨Br, 3, none⟩ (.slice none 0 0)) :=
  ⟨_, _, _, _, _, rfl, .inl ⟨rfl, hno, rfl, rfl, rfl, rfl⟩, below4 hb h _ _ _ _⟩

/-- What the exponent's branch leaves. -/
def Tail (F : Nat → Int) (n b : Nat) (hx : Bool) (vx : Value) (i g : Nat) : Prop :=
  (hx = false ∧ vx = .slice none 0 0 ∧ i = b ∧ ¬ (b < n ∧ IsE (F b))) ∨ (hx = true ∧ b < n ∧ IsE (F b) ∧ ∃ y, Sg F n (b + 1) y ∧ Run F n y i ∧ y < i ∧ IsSl g (b + 1) i vx)
theorem tail_no {F : Nat → Int} {n s a b i g : Nat} {hf hx : Bool} {vx : Value} (h : Mant F n s a hf b) (t : Tail F n b hx vx i g) (hi : i ≠ n) : NoNum F n s := by
  rcases t with ⟨_, _, rfl, he⟩ | ⟨_, hb, _, y, hs, hr, _, _⟩
  · exact no_tail h hi he
  · exact no_exp h hb hs hr (.inr hi)
theorem tail_yes {F : Nat → Int} {n s a b i g : Nat} {hf hx : Bool} {vx : Value} (h : Mant F n s a hf b) (t : Tail F n b hx vx i g) (hi : i = n) : NumIs F n s a hf b hx ∧ (hx = true → IsSl g (b + 1) n vx) ∧ (hx = false → vx = .slice none 0 0) := by
  subst hi
  rcases t with ⟨rfl, hv, e, _⟩ | ⟨rfl, hb, he, y, hs, hr, hy, hv⟩
  · exact ⟨num_plain h e.symm, by simp, fun _ => hv⟩
  · exact ⟨num_exp h hb he hs hr hy, fun _ => hv, by simp⟩

set_option maxRecDepth 20000 in
set_option maxHeartbeats 4000000 in
theorem read_any (w : World) (g n : Nat) (F : Nat → Int) (neg : Bool) (s : Nat) (ht : Txt w g n F) (hn : n ≤ 1048576) (hst : StartAt F n neg s) :
    Calls Try.prog 14 #[.slice (some ⟨g, 0, none⟩) n n] w fun e w' => ReadEnd w F n g neg s e w' := by
  have HT : Hid (Txt w g n F) := ht
  have hg := ht.lt
  have HS : Hid (StartAt F n neg s) := hst
  have HI := inv_new w g n
  clear ht hst
  go_enter Try.func14, Try.ntmps14
  go_upto_region 4 with fail
  generalize ((((w.alloc (.cells #[.slice (some ⟨g, 0, none⟩) n n] 22)).alloc (.cells #[.bool false, .slice none 0 0, .slice none 0 0, .slice none 0 0] 30)).alloc (.cells #[.bool false, .slice none 0 0, .slice none 0 0, .slice none 0 0] 30)).alloc (.cells #[.int .i64 0] 3)) = W at HI ⊢
  generalize w.heap.size + 1 + 1 + 1 = Bi at HI ⊢
  generalize w.heap.size + 1 + 1 = Bn at HI ⊢
  generalize w.heap.size + 1 = Br at HI ⊢
  have HV : Hid (Inv w W w.heap.size Br Bn Bi g n (.bool false) (.slice none 0 0) (.slice none 0 0) (.slice none 0 0) 0) := HI
  have o1 := HI.o1
  have o2 := HI.o2
  have o3 := HI.o3
  clear HI
  go_cut [19] (fun v wc => v = .bool neg ∧ Inv w wc w.heap.size Br Bn Bi g n (.bool false) (.slice none 0 0) (.slice none 0 0) (.slice none 0 0) 0)
  case first =>
    have c1 := HV.out.cText
    have c2 := HV.out.cIdx
    have hti := HT.out.below hg HV.out.below
    rcases HS.out with ⟨rfl, _, h0, h1⟩ | ⟨rfl, _, h0⟩
    · have c3 := hti.cell 0 h0
      have hb : (0 : Int) < (n : Int) := by omega
      clear hti
      go_wp2_with fail
      go_meet
      case rel => exact ⟨rfl, HV.out⟩
    · by_cases hb : 0 < n
      · have c3 := hti.cell 0 hb
        have hb' : (0 : Int) < (n : Int) := by omega
        have h1 : (F 0 == 45) = false := by simpa using fun q => h0 ⟨hb, q⟩
        clear hti h0
        go_wp2_with fail
        go_meet
        case rel => exact ⟨rfl, HV.out⟩
      · clear hti h0
        go_wp2_with fail
        go_meet
        case rel => exact ⟨rfl, HV.out⟩
  case rest =>
    obtain ⟨rfl, hv⟩ := hcut
    have HV1 : Hid (Inv w wc w.heap.size Br Bn Bi g n (.bool false) (.slice none 0 0) (.slice none 0 0) (.slice none 0 0) 0) := hv
    clear hv HV
    go_upto_if 19 with fail
    go_cut [] (fun wc => Inv w wc w.heap.size Br Bn Bi g n (.bool neg) (.slice none 0 0) (.slice none 0 0) (.slice none 0 0) s)
    case first =>
      have c2 := HV1.out.cIdx
      have c3 := HV1.out.fIdx
      have c4 := HV1.out.cNum.1
      have c5 := HV1.out.fNum 0
      rcases HS.out with ⟨rfl, rfl, _, _⟩ | ⟨rfl, rfl, _⟩
      · go_wp2_with fail
        go_meet
        case rel => exact (HV1.out.setN 0 (.bool true) (.bool true) (.slice none 0 0) (.slice none 0 0) (.slice none 0 0) rfl).setI 1
      · go_wp2_with fail
        go_meet
        case rel => exact HV1.out
    case rest =>
      have HV2 : Hid (Inv w wc w.heap.size Br Bn Bi g n (.bool neg) (.slice none 0 0) (.slice none 0 0) (.slice none 0 0) s) := hcut
      clear hcut HV1
      have hsn : s ≤ n := by rcases HS.out with ⟨_, rfl, h, _⟩ | ⟨_, rfl, _⟩ <;> omega
      go_wp2_with fail
      refine (digits_any w wc w.heap.size Br Bn Bi g n _ _ _ _ F s HV2.out HT.out hg hsn hn).mono ?_
      rintro e w2 ⟨a, vw, rfl, hra, ⟨aw, cw, rfl, haw⟩, hv⟩
      have HRA : Hid (Run F n s a) := hra
      have HAW : Hid (s < a → aw = some ⟨g, s, none⟩) := haw
      have HV3 : Hid (Inv w w2 w.heap.size Br Bn Bi g n (.bool neg) (.slice none 0 0) (.slice none 0 0) (.slice none 0 0) a) := hv
      clear hra haw hv HV2
      obtain ⟨m, hm⟩ : ∃ m, m = a - s := ⟨_, rfl⟩
      have HM : Hid (m = a - s) := hm
      rw [← hm]
      clear hm
      have f1 := HV3.out.cNum.2.1
      have f2 := HV3.out.fNum 1
      go_upto_region 8 with fail
      have HV4 : Hid (Inv w (w2.setCell ⟨Bn, 1, none⟩ (.slice aw m cw)) w.heap.size Br Bn Bi g n (.bool neg) (.slice aw m cw) (.slice none 0 0) (.slice none 0 0) a) := HV3.out.setN 1 _ _ _ _ _ rfl
      clear f1 f2
      generalize w2.setCell ⟨Bn, 1, none⟩ (.slice aw m cw) = w3 at HV4 ⊢
      clear HV3
      have f1 := HV4.out.cNum.2.1
      have r1 := HV4.out.cRes.1
      have r2 := HV4.out.cRes.2.1
      have r3 := HV4.out.cRes.2.2.1
      have r4 := HV4.out.cRes.2.2.2
      have q1 := HV4.out.fRes 0
      have q2 := HV4.out.fRes 1
      have q3 := HV4.out.fRes 2
      have q4 := HV4.out.fRes 3
      by_cases hm0 : m = 0
      · have hno : Hid (NoNum F n s) := by
          have e : a = s := by have := HRA.out.1; have := HM.out; omega
          have := HRA.out; rw [e] at this
          exact no_whole this
        have hm0' : ((m : Int) == 0) = true := by simp [hm0]
        clear hm0
        go_wp2_with fail
        exact bodyPost_ret (v := .tuple #[.agg #[.bool false, .slice none 0 0, .slice none 0 0, .slice none 0 0], .bool false]) (by simp [results, Try.results14, go_sem, r1, r2, r3, r4]) rfl (fail_end HV4.out.below o1 hno.out)
      have hsa : s < a := by have := HM.out; omega
      have haw := HAW.out hsa
      subst haw
      have hti := HT.out.below hg HV4.out.below
      have c1 := hti.cell s (by have := HRA.out.2.1; omega)
      clear hti
      have hm0' : ((m : Int) == 0) = false := by simp [hm0]
      by_cases hz : 1 < m ∧ F s = 48
      · have hno : Hid (NoNum F n s) := no_zero HRA.out (by rw [← HM.out]; exact hz)
        have hm1 : (1 : Int) < (m : Int) := by omega
        have hz' : (F s == 48) = true := by simp [hz.2]
        clear hz hm0
        go_wp2_with fail
        exact bodyPost_ret (v := .tuple #[.agg #[.bool false, .slice none 0 0, .slice none 0 0, .slice none 0 0], .bool false]) (by simp [results, Try.results14, go_sem, r1, r2, r3, r4]) rfl (fail_end HV4.out.below o1 hno.out)
      go_cut [42] (fun v wc => v = .bool false ∧ Inv w wc w.heap.size Br Bn Bi g n (.bool neg) (.slice (some ⟨g, s, none⟩) m cw) (.slice none 0 0) (.slice none 0 0) a)
      case first =>
        by_cases hm1 : (1 : Int) < (m : Int)
        · have hz' : (F s == 48) = false := by simpa using fun q => hz ⟨by omega, q⟩
          clear hz hm0
          go_wp2_with fail
          go_meet
          case rel => exact ⟨rfl, HV4.out⟩
        · clear hz hm0
          go_wp2_with fail
          go_meet
          case rel => exact ⟨rfl, HV4.out⟩
      case rest =>
        obtain ⟨rfl, hv⟩ := hcut
        have HV5 : Hid (Inv w wc w.heap.size Br Bn Bi g n (.bool neg) (.slice (some ⟨g, s, none⟩) m cw) (.slice none 0 0) (.slice none 0 0) a) := hv
        have HZ : Hid (¬ (1 < a - s ∧ F s = 48)) := by unfold Hid; rw [← HM.out]; exact hz
        clear hv HV4 f1 r1 r2 r3 r4 q1 q2 q3 q4 hz hm0 hm0' c1
        obtain ⟨pb, hpb⟩ : ∃ pb : Bool, pb = true ↔ (a < n ∧ F a = 46) := ⟨decide (a < n ∧ F a = 46), by simp⟩
        have HPB : Hid (pb = true ↔ (a < n ∧ F a = 46)) := hpb
        clear hpb
        go_upto_region 10 with fail
        go_cut [54] (fun v wc => v = .bool pb ∧ Inv w wc w.heap.size Br Bn Bi g n (.bool neg) (.slice (some ⟨g, s, none⟩) m cw) (.slice none 0 0) (.slice none 0 0) a)
        case first =>
          have c1 := HV5.out.cText
          have c2 := HV5.out.cIdx
          have hti := HT.out.below hg HV5.out.below
          by_cases hb : a < n
          · have c3 := hti.cell a hb
            have hb' : (a : Int) < (n : Int) := by omega
            clear hti
            by_cases hp : F a = 46
            · obtain rfl : pb = true := HPB.out.2 ⟨hb, hp⟩
              have hp' : (F a == 46) = true := by simp [hp]
              clear hp
              go_wp2_with fail
              go_meet
              case rel => exact ⟨rfl, HV5.out⟩
            · obtain rfl : pb = false := by
                rcases hq : pb with _ | _
                · rfl
                · exact absurd (HPB.out.1 hq).2 hp
              have hp' : (F a == 46) = false := by simp [hp]
              go_wp2_with fail
              go_meet
              case rel => exact ⟨rfl, HV5.out⟩
          · clear hti
            obtain rfl : pb = false := by
              rcases hq : pb with _ | _
              · rfl
              · exact absurd (HPB.out.1 hq).1 hb
            go_wp2_with fail
            go_meet
            case rel => exact ⟨rfl, HV5.out⟩
        case rest =>
          obtain ⟨rfl, hv⟩ := hcut
          have HV6 : Hid (Inv w wc w.heap.size Br Bn Bi g n (.bool neg) (.slice (some ⟨g, s, none⟩) m cw) (.slice none 0 0) (.slice none 0 0) a) := hv
          clear hv HV5
          go_upto_if 54 with fail
          go_cut [3] (fun v3 wc => ∃ (b : Nat) (hf : Bool) (vf : Value), v3 = .bool false ∧ Mant F n s a hf b ∧ (hf = true → IsSl g (a + 1) b vf) ∧ (hf = false → vf = .slice none 0 0) ∧ Inv w wc w.heap.size Br Bn Bi g n (.bool neg) (.slice (some ⟨g, s, none⟩) m cw) vf (.slice none 0 0) b)
          case first =>
            cases pb with
            | false =>
              have HMA : Hid (Mant F n s a false a) := ⟨HRA.out, hsa, HZ.out, by simp, fun _ => ⟨rfl, fun q => by have := HPB.out.2 q; simp at this⟩⟩
              go_wp2_with fail
              go_meet
              case rel => exact ⟨a, false, _, rfl, HMA.out, by simp, fun _ => rfl, HV6.out⟩
            | true =>
              obtain ⟨han, hap⟩ := HPB.out.1 rfl
              have HAP : Hid (F a = 46) := hap
              have c2 := HV6.out.cIdx
              have c3 := HV6.out.fIdx
              clear hap
              have HV7 : Hid (Inv w (wc.setCell ⟨Bi, 0, none⟩ (.int .i64 ((a : Int) + 1))) w.heap.size Br Bn Bi g n (.bool neg) (.slice (some ⟨g, s, none⟩) m cw) (.slice none 0 0) (.slice none 0 0) (a + 1)) := by
                unfold Hid; have := HV6.out.setI (a + 1); simpa using this
              go_wp2_with fail
              refine (digits_any w _ w.heap.size Br Bn Bi g n _ _ _ _ F (a + 1) HV7.out HT.out hg (by omega) hn).mono ?_
              rintro e w4 ⟨b, vf, rfl, hrb, ⟨af, cf, rfl, haf⟩, hv⟩
              have HRB : Hid (Run F n (a + 1) b) := hrb
              have HAF : Hid (a + 1 < b → af = some ⟨g, a + 1, none⟩) := haf
              have HV8 : Hid (Inv w w4 w.heap.size Br Bn Bi g n (.bool neg) (.slice (some ⟨g, s, none⟩) m cw) (.slice none 0 0) (.slice none 0 0) b) := hv
              clear hrb haf hv HV7 HV6 c2 c3
              obtain ⟨l, hl⟩ : ∃ l, l = b - (a + 1) := ⟨_, rfl⟩
              have HL : Hid (l = b - (a + 1)) := hl
              rw [← hl]
              clear hl
              have f1 := HV8.out.cNum.2.2.1
              have f2 := HV8.out.fNum 2
              go_upto_region 13 with fail
              have HV9 : Hid (Inv w (w4.setCell ⟨Bn, 2, none⟩ (.slice af l cf)) w.heap.size Br Bn Bi g n (.bool neg) (.slice (some ⟨g, s, none⟩) m cw) (.slice af l cf) (.slice none 0 0) b) := HV8.out.setN 2 _ _ _ _ _ rfl
              clear f1 f2
              generalize w4.setCell ⟨Bn, 2, none⟩ (.slice af l cf) = w5 at HV9 ⊢
              clear HV8
              have f1 := HV9.out.cNum.2.2.1
              by_cases hl0 : l = 0
              · have hno : Hid (NoNum F n s) := by
                  have e : b = a + 1 := by have := HRB.out.1; have := HL.out; omega
                  have := HRB.out; rw [e] at this
                  exact no_frac HRA.out han HAP.out this
                have hl0' : ((l : Int) == 0) = true := by simp [hl0]
                have r1 := HV9.out.cRes.1
                have r2 := HV9.out.cRes.2.1
                have r3 := HV9.out.cRes.2.2.1
                have r4 := HV9.out.cRes.2.2.2
                have q1 := HV9.out.fRes 0
                have q2 := HV9.out.fRes 1
                have q3 := HV9.out.fRes 2
                have q4 := HV9.out.fRes 3
                clear hl0
                go_wp2_with fail
                exact bodyPost_ret (v := .tuple #[.agg #[.bool false, .slice none 0 0, .slice none 0 0, .slice none 0 0], .bool false]) (by simp [results, Try.results14, go_sem, r1, r2, r3, r4]) rfl (fail_end HV9.out.below o1 hno.out)
              · have hab : a + 1 < b := by have := HL.out; omega
                have HMA : Hid (Mant F n s a true b) := ⟨HRA.out, hsa, HZ.out, fun _ => ⟨han, HAP.out, hab, HRB.out⟩, by simp⟩
                have hl0' : ((l : Int) == 0) = false := by simp [hl0]
                clear hl0
                go_wp2_with fail
                go_meet
                case rel => exact ⟨b, true, _, rfl, HMA.out, fun _ => ⟨_, _, by rw [HL.out], HAF.out⟩, by simp, HV9.out⟩
          case rest =>
            obtain ⟨b, hf, vf, rfl, hmant, hft, hff, hv⟩ := hcut
            have HMA : Hid (Mant F n s a hf b ∧ (hf = true → IsSl g (a + 1) b vf) ∧ (hf = false → vf = .slice none 0 0)) := ⟨hmant, hft, hff⟩
            have HW1 : Hid (Inv w wc w.heap.size Br Bn Bi g n (.bool neg) (.slice (some ⟨g, s, none⟩) m cw) vf (.slice none 0 0) b) := hv
            have hbn : b ≤ n := hmant.ble
            clear hmant hft hff hv HV6 HPB HAW
            obtain ⟨eb, heb⟩ : ∃ eb : Bool, eb = true ↔ (b < n ∧ IsE (F b)) := by
              by_cases q : b < n ∧ IsE (F b)
              · exact ⟨true, by simp [q]⟩
              · exact ⟨false, by simp [q]⟩
            have HEB : Hid (eb = true ↔ (b < n ∧ IsE (F b))) := heb
            clear heb
            go_upto_region 15 with fail
            go_cut [82] (fun v wc => v = .bool eb ∧ Inv w wc w.heap.size Br Bn Bi g n (.bool neg) (.slice (some ⟨g, s, none⟩) m cw) vf (.slice none 0 0) b)
            case first =>
              have c1 := HW1.out.cText
              have c2 := HW1.out.cIdx
              have hti := HT.out.below hg HW1.out.below
              by_cases hb : b < n
              · have c3 := hti.cell b hb
                have hb' : (b : Int) < (n : Int) := by omega
                clear hti
                by_cases hp : F b = 101
                · obtain rfl : eb = true := HEB.out.2 ⟨hb, .inl hp⟩
                  have hp' : (F b == 101) = true := by simp [hp]
                  clear hp
                  go_wp2_with fail
                  go_meet
                  case rel => exact ⟨rfl, HW1.out⟩
                · have hp' : (F b == 101) = false := by simp [hp]
                  by_cases hq : F b = 69
                  · obtain rfl : eb = true := HEB.out.2 ⟨hb, .inr hq⟩
                    have hq' : (F b == 69) = true := by simp [hq]
                    clear hq
                    go_wp2_with fail
                    go_meet
                    case rel => exact ⟨rfl, HW1.out⟩
                  · have hq' : (F b == 69) = false := by simp [hq]
                    obtain rfl : eb = false := by
                      rcases hx : eb with _ | _
                      · rfl
                      · exact absurd (HEB.out.1 hx).2 (fun z => z.elim hp hq)
                    go_wp2_with fail
                    go_meet
                    case rel => exact ⟨rfl, HW1.out⟩
              · clear hti
                obtain rfl : eb = false := by
                  rcases hq : eb with _ | _
                  · rfl
                  · exact absurd (HEB.out.1 hq).1 hb
                go_wp2_with fail
                go_meet
                case rel => exact ⟨rfl, HW1.out⟩
            case rest =>
              obtain ⟨rfl, hv⟩ := hcut
              have HW2 : Hid (Inv w wc w.heap.size Br Bn Bi g n (.bool neg) (.slice (some ⟨g, s, none⟩) m cw) vf (.slice none 0 0) b) := hv
              clear hv HW1
              go_upto_if 82 with fail
              go_cut [3, 7] (fun v3 v7 wc => ∃ (i : Nat) (hx : Bool) (vx : Value), v3 = .bool false ∧ i ≤ n ∧ Tail F n b hx vx i g ∧ Inv w wc w.heap.size Br Bn Bi g n (.bool neg) (.slice (some ⟨g, s, none⟩) m cw) vf vx i)
              case first =>
                cases eb with
                | false =>
                  have HTA : Hid (Tail F n b false (.slice none 0 0) b g) := .inl ⟨rfl, rfl, rfl, fun q => by have := HEB.out.2 q; simp at this⟩
                  go_wp2_with fail
                  go_meet
                  case rel => exact ⟨b, false, _, rfl, hbn, HTA.out, HW2.out⟩
                | true =>
                  obtain ⟨hbl, hbe⟩ := HEB.out.1 rfl
                  have HBE : Hid (IsE (F b)) := hbe
                  clear hbe
                  have c2 := HW2.out.cIdx
                  have c3 := HW2.out.fIdx
                  have HW3 : Hid (Inv w (wc.setCell ⟨Bi, 0, none⟩ (.int .i64 ((b : Int) + 1))) w.heap.size Br Bn Bi g n (.bool neg) (.slice (some ⟨g, s, none⟩) m cw) vf (.slice none 0 0) (b + 1)) := by
                    unfold Hid; have := HW2.out.setI (b + 1); simpa using this
                  go_upto_region 17 with fail
                  generalize wc.setCell ⟨Bi, 0, none⟩ (.int .i64 ((b : Int) + 1)) = w6 at HW3 ⊢
                  clear c2 c3 HW2
                  have c2 := HW3.out.cIdx
                  go_upto_region 18 with fail
                  obtain ⟨sb, hsb⟩ : ∃ sb : Bool, sb = true ↔ (b + 1 < n ∧ IsS (F (b + 1))) := by
                    by_cases q : b + 1 < n ∧ IsS (F (b + 1))
                    · exact ⟨true, by simp [q]⟩
                    · exact ⟨false, by simp [q]⟩
                  have HSB : Hid (sb = true ↔ (b + 1 < n ∧ IsS (F (b + 1)))) := hsb
                  clear hsb
                  go_cut [103] (fun v wc => v = .bool sb ∧ Inv w wc w.heap.size Br Bn Bi g n (.bool neg) (.slice (some ⟨g, s, none⟩) m cw) vf (.slice none 0 0) (b + 1))
                  case first =>
                    have c1 := HW3.out.cText
                    have hti := HT.out.below hg HW3.out.below
                    by_cases hb : b + 1 < n
                    · have c3 := hti.cell (b + 1) hb
                      have hb' : (b : Int) + 1 < (n : Int) := by omega
                      clear hti
                      by_cases hp : F (b + 1) = 43
                      · obtain rfl : sb = true := HSB.out.2 ⟨hb, .inl hp⟩
                        have hp' : (F (b + 1) == 43) = true := by simp [hp]
                        clear hp
                        go_wp2_with fail
                        go_meet
                        case rel => exact ⟨rfl, HW3.out⟩
                      · have hp' : (F (b + 1) == 43) = false := by simp [hp]
                        by_cases hq : F (b + 1) = 45
                        · obtain rfl : sb = true := HSB.out.2 ⟨hb, .inr hq⟩
                          have hq' : (F (b + 1) == 45) = true := by simp [hq]
                          clear hq
                          go_wp2_with fail
                          go_meet
                          case rel => exact ⟨rfl, HW3.out⟩
                        · have hq' : (F (b + 1) == 45) = false := by simp [hq]
                          obtain rfl : sb = false := by
                            rcases hx : sb with _ | _
                            · rfl
                            · exact absurd (HSB.out.1 hx).2 (fun z => z.elim hp hq)
                          go_wp2_with fail
                          go_meet
                          case rel => exact ⟨rfl, HW3.out⟩
                    · clear hti
                      have hb' : ¬ ((b : Int) + 1 < (n : Int)) := by omega
                      obtain rfl : sb = false := by
                        rcases hq : sb with _ | _
                        · rfl
                        · exact absurd (HSB.out.1 hq).1 hb
                      go_wp2_with fail
                      go_meet
                      case rel => exact ⟨rfl, HW3.out⟩
                  case rest =>
                    obtain ⟨rfl, hv⟩ := hcut
                    have HW4 : Hid (Inv w wc w.heap.size Br Bn Bi g n (.bool neg) (.slice (some ⟨g, s, none⟩) m cw) vf (.slice none 0 0) (b + 1)) := hv
                    clear hv HW3 c2
                    go_upto_if 103 with fail
                    go_cut [] (fun wc => ∃ y, y ≤ n ∧ Sg F n (b + 1) y ∧ Inv w wc w.heap.size Br Bn Bi g n (.bool neg) (.slice (some ⟨g, s, none⟩) m cw) vf (.slice none 0 0) y)
                    case first =>
                      cases sb with
                      | false =>
                        have HSG : Hid (Sg F n (b + 1) (b + 1)) := .inl ⟨rfl, fun q => by have := HSB.out.2 q; simp at this⟩
                        go_wp2_with fail
                        go_meet
                        case rel => exact ⟨b + 1, by omega, HSG.out, HW4.out⟩
                      | true =>
                        have HSG : Hid (Sg F n (b + 1) (b + 2)) := .inr ⟨rfl, HSB.out.1 rfl⟩
                        have hb2 : b + 2 ≤ n := by have := (HSB.out.1 rfl).1; omega
                        have c2 := HW4.out.cIdx
                        have c3 := HW4.out.fIdx
                        have HW5 : Hid (Inv w (wc.setCell ⟨Bi, 0, none⟩ (.int .i64 ((b : Int) + 2))) w.heap.size Br Bn Bi g n (.bool neg) (.slice (some ⟨g, s, none⟩) m cw) vf (.slice none 0 0) (b + 2)) := by
                          unfold Hid; have := HW4.out.setI (b + 2); simpa using this
                        go_wp2_with fail
                        go_meet
                        case rel =>
                          refine ⟨b + 2, hb2, HSG.out, ?_⟩
                          have := HW5.out
                          first | exact this | (rw [show (b : Int) + 1 + 1 = (b : Int) + 2 from by omega]; exact this)
                    case rest =>
                      obtain ⟨y, hyn, hsg, hv⟩ := hcut
                      have HSG : Hid (Sg F n (b + 1) y) := hsg
                      have HW6 : Hid (Inv w wc w.heap.size Br Bn Bi g n (.bool neg) (.slice (some ⟨g, s, none⟩) m cw) vf (.slice none 0 0) y) := hv
                      have hby : b + 1 ≤ y := by rcases hsg with ⟨q, _⟩ | ⟨q, _⟩ <;> omega
                      clear hsg hv HW4 HSB
                      go_wp2_with fail
                      refine (digits_any w _ w.heap.size Br Bn Bi g n _ _ _ _ F y HW6.out HT.out hg hyn hn).mono ?_
                      rintro e w7 ⟨z, vz, rfl, hrz, ⟨az, cz, rfl, haz⟩, hv⟩
                      have HRZ : Hid (Run F n y z) := hrz
                      have hzn : z ≤ n := hrz.2.1
                      have hyz : y ≤ z := hrz.1
                      have HW7 : Hid (Inv w w7 w.heap.size Br Bn Bi g n (.bool neg) (.slice (some ⟨g, s, none⟩) m cw) vf (.slice none 0 0) z) := hv
                      clear hrz haz hv HW6
                      obtain ⟨l, hl⟩ : ∃ l, l = z - y := ⟨_, rfl⟩
                      have HL : Hid (l = z - y) := hl
                      rw [← hl]
                      clear hl
                      by_cases hl0 : l = 0
                      · have hno : Hid (NoNum F n s) := no_exp HMA.out.1 hbl HSG.out HRZ.out (.inl (by have := HL.out; omega))
                        have hl0' : ((l : Int) == 0) = true := by simp [hl0]
                        have r1 := HW7.out.cRes.1
                        have r2 := HW7.out.cRes.2.1
                        have r3 := HW7.out.cRes.2.2.1
                        have r4 := HW7.out.cRes.2.2.2
                        have q1 := HW7.out.fRes 0
                        have q2 := HW7.out.fRes 1
                        have q3 := HW7.out.fRes 2
                        have q4 := HW7.out.fRes 3
                        clear hl0
                        go_wp2_with fail
                        exact bodyPost_ret (v := .tuple #[.agg #[.bool false, .slice none 0 0, .slice none 0 0, .slice none 0 0], .bool false]) (by simp [results, Try.results14, go_sem, r1, r2, r3, r4]) rfl (fail_end HW7.out.below o1 hno.out)
                      · have hyl : y < z := by have := HL.out; omega
                        have hl0' : ((l : Int) == 0) = false := by simp [hl0]
                        clear hl0
                        have c1 := HW7.out.cText
                        have c2 := HW7.out.cIdx
                        have f1 := HW7.out.cNum.2.2.2
                        have f2 := HW7.out.fNum 3
                        have hb1 : b + 1 < n := by omega
                        go_wp2_with fail
                        go_meet
                        case rel => exact ⟨z, true, _, rfl, hzn, .inr ⟨rfl, hbl, HBE.out, y, HSG.out, HRZ.out, hyl, ⟨_, _, rfl, fun _ => rfl⟩⟩, HW7.out.setN 3 _ _ _ _ _ rfl⟩
              case rest =>
                obtain ⟨i, hx, vx, rfl, hin, htail, hv⟩ := hcut
                have HTA : Hid (Tail F n b hx vx i g) := htail
                have HX1 : Hid (Inv w wc w.heap.size Br Bn Bi g n (.bool neg) (.slice (some ⟨g, s, none⟩) m cw) vf vx i) := hv
                clear htail hv HW2 HEB
                have c1 := HX1.out.cText
                have c2 := HX1.out.cIdx
                have r1 := HX1.out.cRes.1
                have r2 := HX1.out.cRes.2.1
                have r3 := HX1.out.cRes.2.2.1
                have r4 := HX1.out.cRes.2.2.2
                have q1 := HX1.out.fRes 0
                have q2 := HX1.out.fRes 1
                have q3 := HX1.out.fRes 2
                have q4 := HX1.out.fRes 3
                by_cases hie : i = n
                · obtain ⟨xf, lf, cf, rfl⟩ : ∃ x l c, vf = .slice x l c := by
                    cases hf with
                    | true => obtain ⟨x, c, q, _⟩ := HMA.out.2.1 rfl; exact ⟨_, _, _, q⟩
                    | false => exact ⟨_, _, _, HMA.out.2.2 rfl⟩
                  obtain ⟨xx, lx, cx, rfl⟩ : ∃ x l c, vx = .slice x l c := by
                    rcases HTA.out with ⟨_, q, _⟩ | ⟨_, _, _, _, _, _, _, x, c, q, _⟩
                    · exact ⟨_, _, _, q⟩
                    · exact ⟨_, _, _, q⟩
                  have HY := tail_yes HMA.out.1 HTA.out hie
                  have HE : Hid (∀ w', Below w.heap.size w w' → ReadEnd w F n g neg s (.returned (.tuple #[.agg #[.bool neg, .slice (some ⟨g, s, none⟩) m cw, .slice xf lf cf, .slice xx lx cx], .bool true])) w') :=
                    fun w' hb => ⟨_, _, _, _, _, rfl, .inr ⟨rfl, rfl, a, hf, b, hx, HY.1, ⟨_, _, by rw [HM.out], fun _ => rfl⟩, HMA.out.2.1, HMA.out.2.2, HY.2.1, HY.2.2⟩, hb⟩
                  have hie' : ((i : Int) != (n : Int)) = false := by simp [hie]
                  have f0 := HX1.out.cNum.1
                  have f1 := HX1.out.cNum.2.1
                  have f2 := HX1.out.cNum.2.2.1
                  have f3 := HX1.out.cNum.2.2.2
                  clear hie HY
                  go_wp2_with fail
                  exact bodyPost_ret (v := .tuple #[.agg #[.bool neg, .slice (some ⟨g, s, none⟩) m cw, .slice xf lf cf, .slice xx lx cx], .bool true]) (by simp [results, Try.results14, go_sem, r1, r2, r3, r4]) rfl (HE.out _ (below4 HX1.out.below o1 _ _ _ _))
                · have hno : Hid (NoNum F n s) := tail_no HMA.out.1 HTA.out hie
                  have hie' : ((i : Int) != (n : Int)) = true := by simp; omega
                  clear hie
                  go_wp2_with fail
                  exact bodyPost_ret (v := .tuple #[.agg #[.bool false, .slice none 0 0, .slice none 0 0, .slice none 0 0], .bool false]) (by simp [results, Try.results14, go_sem, r1, r2, r3, r4]) rfl (fail_end HX1.out.below o1 hno.out)
end Go.Proofs.Qxb6601180a
