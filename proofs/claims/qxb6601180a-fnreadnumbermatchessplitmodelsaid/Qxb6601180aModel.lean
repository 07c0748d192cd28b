import Derived.Test.Qxb6601180aRead
import Derived.Test.Qxb6601180aFind
namespace Go.Proofs.Qxb6601180a
open Go.RowKit Rd

/-- How a call of zzModelNumber ends. -/
def ModelEnd (w : World) (F : Nat → Int) (n g : Nat) (neg : Bool) (s : Nat) (e : Ending) (w' : World) : Prop :=
  ∃ vn vw vf vx ok, e = .returned (.tuple #[vn, vw, vf, vx, .bool ok]) ∧ PartsOf F n g neg s vn vw vf vx ok ∧ w = w'
theorem model_fail {w : World} {F : Nat → Int} {n g s : Nat} {neg : Bool} (h : NoNum F n s) : ModelEnd w F n g neg s (.returned (.tuple #[.bool false, .slice none 0 0, .slice none 0 0, .slice none 0 0, .bool false])) w :=
  ⟨_, _, _, _, _, rfl, .inl ⟨rfl, h, rfl, rfl, rfl, rfl⟩, rfl⟩
/-- A piece of the text, by its value's parts. -/
def Pc (g lo hi : Nat) (ao : Option Addr) (l c : Nat) : Prop := l = hi - lo ∧ (lo < hi → ao = some ⟨g, lo, none⟩) ∧ l ≤ c

theorem Pc.sl {w : World} {g n lo hi : Nat} {F : Nat → Int} {ao : Option Addr} {l c : Nat} (h : Pc g lo hi ao l c) (ht : Txt w g n F) (hn : hi ≤ n) : Sl w (.slice ao l c) g lo hi F := by
  obtain ⟨rfl, h2, h3⟩ := h
  exact ⟨⟨_, _, rfl, h2, h3⟩, fun j _ j2 => ht.cell j (by omega)⟩
theorem Pc.is {g lo hi : Nat} {ao : Option Addr} {l c : Nat} (h : Pc g lo hi ao l c) : IsSl g lo hi (.slice ao l c) := ⟨ao, c, by rw [h.1], h.2.1⟩

set_option maxRecDepth 20000 in
set_option maxHeartbeats 4000000 in
theorem model_any (w : World) (g n : Nat) (F : Nat → Int) (neg : Bool) (s : Nat) (ht : Txt w g n F) (hn : n ≤ 1048576) (hst : StartAt F n neg s) :
    Calls Try.prog 9 #[.slice (some ⟨g, 0, none⟩) n n] w fun e w' => ModelEnd w F n g neg s e w' := by
  have HT : Hid (Txt w g n F) := ht
  have HS : Hid (StartAt F n neg s) := hst
  have hsn : s ≤ n := by rcases hst with ⟨_, rfl, h, _⟩ | ⟨_, rfl, _⟩ <;> omega
  clear ht hst
  go_enter Try.func9, Try.ntmps9
  go_upto_region 3 with fail
  go_cut [27] (fun v wc => v = .bool neg ∧ wc = w)
  case first =>
    rcases HS.out with ⟨rfl, _, h0, h1⟩ | ⟨rfl, _, h0⟩
    · have c3 := HT.out.cell 0 h0
      have hb : (0 : Int) < (n : Int) := by omega
      go_wp2_with fail
      go_meet
      case rel => exact ⟨rfl, rfl⟩
    · by_cases hb : 0 < n
      · have c3 := HT.out.cell 0 hb
        have hb' : (0 : Int) < (n : Int) := by omega
        have h1 : (F 0 == 45) = false := by simpa using fun q => h0 ⟨hb, q⟩
        clear h0
        go_wp2_with fail
        go_meet
        case rel => exact ⟨rfl, rfl⟩
      · clear h0
        go_wp2_with fail
        go_meet
        case rel => exact ⟨rfl, rfl⟩
  case rest =>
    obtain ⟨rfl, hw⟩ := hcut
    obtain rfl := hw.symm
    clear hw
    go_upto_if 27 with fail
    go_cut [7, 8] (fun v7 v8 wc => ∃ ao l c, v7 = .slice ao l c ∧ v8 = .bool neg ∧ Pc g s n ao l c ∧ wc = w)
    case first =>
      rcases HS.out with ⟨rfl, rfl, h0, _⟩ | ⟨rfl, rfl, _⟩
      · by_cases h1 : 1 < n
        · go_wp2_with fail
          go_meet
          case rel => exact ⟨_, _, _, rfl, rfl, ⟨rfl, fun _ => rfl, Nat.le_refl _⟩, rfl⟩
        · obtain rfl : n = 1 := by omega
          go_wp2_with fail
          go_meet
          case rel => exact ⟨_, _, _, rfl, rfl, ⟨rfl, fun q => by omega, Nat.le_refl _⟩, rfl⟩
      · go_wp2_with fail
        go_meet
        case rel => exact ⟨_, _, _, rfl, rfl, ⟨by omega, fun _ => rfl, Nat.le_refl _⟩, rfl⟩
    case rest =>
      obtain ⟨ar, lr, cr, rfl, rfl, hpr, hw⟩ := hcut
      obtain rfl := hw.symm
      have HPR : Hid (Pc g s n ar lr cr) := hpr
      clear hw hpr HS
      go_wp2_with fail
      refine (indexE_any w _ g s n F (HPR.out.sl HT.out (Nat.le_refl _)) hn hsn).mono ?_
      rintro e w1 ⟨hx, m, hfm, rfl, hw⟩
      obtain rfl := hw
      have HFM : Hid (FirstIn IsE F s n hx m) := hfm
      clear hfm
      have hmn : m ≤ n ∧ s ≤ m := by
        cases hx with
        | true => have := HFM.out.1 rfl; omega
        | false => have := (HFM.out.2 rfl).1; omega
      obtain ⟨hmn, hsm⟩ := hmn
      generalize hkv : (if hx = true then ((m - s : Nat) : Int) else -1) = kv
      have HK : Hid ((hx = true → kv = ((m - s : Nat) : Int)) ∧ (hx = false → kv = -1)) := ⟨fun q => by rw [← hkv, if_pos q], fun q => by rw [← hkv, if_neg (by simp [q])]⟩
      clear hkv
      go_upto_if 34 with fail
      go_cut [9, 10, 11] (fun v9 v10 v11 wc => ∃ am lm cm ax lx cx, v9 = .slice am lm cm ∧ v10 = .slice ax lx cx ∧ v11 = .bool hx ∧ Pc g s m am lm cm ∧ (hx = true → Pc g (m + 1) n ax lx cx) ∧ (hx = false → ax = none ∧ lx = 0 ∧ cx = 0) ∧ wc = w)
      case first =>
        have p1 : s + lr = n := by have := HPR.out.1; omega
        have p2 : Hid (s < n → ar = some ⟨g, s, none⟩) := HPR.out.2.1
        have p3 := HPR.out.2.2
        cases hx with
        | false =>
          have hkv := HK.out.2 rfl
          have hmm := (HFM.out.2 rfl).1
          subst hkv
          go_wp2_with fail
          go_meet
          case rel => exact ⟨_, _, _, _, _, _, rfl, rfl, rfl, ⟨by omega, fun q => p2.out (by omega), p3⟩, by simp, fun _ => ⟨rfl, rfl, rfl⟩, rfl⟩
        | true =>
          have hkv := HK.out.1 rfl
          have hfm := HFM.out.1 rfl
          have hml := hfm.2.1
          have hsm2 := hfm.1
          clear hfm
          obtain ⟨k, rfl⟩ : ∃ k, m = s + k := ⟨m - s, by omega⟩
          obtain rfl : kv = (k : Int) := by rw [hkv]; omega
          clear hkv
          obtain rfl := p2.out (by omega)
          have b1 : (k : Int) ≤ (lr : Int) := by omega
          have b2 : (k : Int) + 1 ≤ (lr : Int) := by omega
          have b3 : (lr : Int) ≤ (cr : Int) := by omega
          by_cases hk1 : k + 1 < cr
          · go_wp2_with fail
            go_meet
            case rel => exact ⟨_, _, _, _, _, _, rfl, rfl, rfl, ⟨by omega, fun q => rfl, by omega⟩, fun _ => ⟨by omega, fun q => rfl, by omega⟩, by simp, rfl⟩
          · obtain rfl : cr = k + 1 := by omega
            go_wp2_with fail
            go_meet
            case rel => exact ⟨_, _, _, _, _, _, rfl, rfl, rfl, ⟨by omega, fun q => rfl, by omega⟩, fun _ => ⟨by omega, fun q => by omega, by omega⟩, by simp, rfl⟩
      case rest =>
        obtain ⟨am, lm, cm, ax, lx, cx, rfl, rfl, rfl, hpm, hpx, hpn, hw⟩ := hcut
        obtain rfl := hw.symm
        have HPM : Hid (Pc g s m am lm cm) := hpm
        have HPX : Hid ((hx = true → Pc g (m + 1) n ax lx cx) ∧ (hx = false → ax = none ∧ lx = 0 ∧ cx = 0)) := ⟨hpx, hpn⟩
        clear hw hpm hpx hpn HPR HK
        go_wp2_with fail
        refine (indexP_any w _ g s m F (HPM.out.sl HT.out hmn) (by omega) hsm).mono ?_
        rintro e w1 ⟨hf, a, hfa, rfl, hw⟩
        obtain rfl := hw
        have HFA : Hid (FirstIn (· = 46) F s m hf a) := hfa
        clear hfa
        have ham : a ≤ m ∧ s ≤ a := by
          cases hf with
          | true => have := HFA.out.1 rfl; omega
          | false => have := (HFA.out.2 rfl).1; omega
        obtain ⟨ham, hsa⟩ := ham
        generalize hkv : (if hf = true then ((a - s : Nat) : Int) else -1) = kd
        have HK : Hid ((hf = true → kd = ((a - s : Nat) : Int)) ∧ (hf = false → kd = -1)) := ⟨fun q => by rw [← hkv, if_pos q], fun q => by rw [← hkv, if_neg (by simp [q])]⟩
        clear hkv
        go_upto_if 46 with fail
        go_cut [13, 14, 15] (fun v13 v14 v15 wc => ∃ aw lw cw af lf cf, v13 = .slice aw lw cw ∧ v14 = .slice af lf cf ∧ v15 = .bool hf ∧ Pc g s a aw lw cw ∧ (hf = true → Pc g (a + 1) m af lf cf) ∧ (hf = false → af = none ∧ lf = 0 ∧ cf = 0) ∧ wc = w)
        case first =>
          have p1 : s + lm = m := by have := HPM.out.1; omega
          have p2 : Hid (s < m → am = some ⟨g, s, none⟩) := HPM.out.2.1
          have p3 := HPM.out.2.2
          cases hf with
          | false =>
            have hkv := HK.out.2 rfl
            have hmm := (HFA.out.2 rfl).1
            subst hkv
            go_wp2_with fail
            go_meet
            case rel => exact ⟨_, _, _, _, _, _, rfl, rfl, rfl, ⟨by omega, fun q => p2.out (by omega), p3⟩, by simp, fun _ => ⟨rfl, rfl, rfl⟩, rfl⟩
          | true =>
            have hkv := HK.out.1 rfl
            have hfa := HFA.out.1 rfl
            have hal := hfa.2.1
            clear hfa
            obtain ⟨k, rfl⟩ : ∃ k, a = s + k := ⟨a - s, by omega⟩
            obtain rfl : kd = (k : Int) := by rw [hkv]; omega
            clear hkv
            obtain rfl := p2.out (by omega)
            have b1 : (k : Int) ≤ (lm : Int) := by omega
            have b2 : (k : Int) + 1 ≤ (lm : Int) := by omega
            have b3 : (lm : Int) ≤ (cm : Int) := by omega
            by_cases hk1 : k + 1 < cm
            · go_wp2_with fail
              go_meet
              case rel => exact ⟨_, _, _, _, _, _, rfl, rfl, rfl, ⟨by omega, fun q => rfl, by omega⟩, fun _ => ⟨by omega, fun q => rfl, by omega⟩, by simp, rfl⟩
            · obtain rfl : cm = k + 1 := by omega
              go_wp2_with fail
              go_meet
              case rel => exact ⟨_, _, _, _, _, _, rfl, rfl, rfl, ⟨by omega, fun q => rfl, by omega⟩, fun _ => ⟨by omega, fun q => by omega, by omega⟩, by simp, rfl⟩
        case rest =>
          obtain ⟨aw, lw, cw, af, lf, cf, rfl, rfl, rfl, hpw, hpf, hpn, hw⟩ := hcut
          obtain rfl := hw.symm
          have HPW : Hid (Pc g s a aw lw cw) := hpw
          have HPF : Hid ((hf = true → Pc g (a + 1) m af lf cf) ∧ (hf = false → af = none ∧ lf = 0 ∧ cf = 0)) := ⟨hpf, hpn⟩
          have hlw : lw = a - s := hpw.1
          have HLW : Hid (lw = a - s) := hlw
          clear hw hpw hpf hpn HPM HK hlw
          go_upto_region 22 with fail
          by_cases hw0 : lw = 0
          · have hno : Hid (NoNum F n s) := cut_no HFM.out HFA.out (.inl fun q => by have := HLW.out; omega)
            have hw0' : ((lw : Int) == 0) = true := by simp [hw0]
            clear hw0
            go_wp2_with fail
            exact bodyPost_ret (v := .tuple #[.bool false, .slice none 0 0, .slice none 0 0, .slice none 0 0, .bool false]) (by simp [results, Try.results9, go_sem]) rfl (model_fail hno.out)
          have hsl : s < a := by have := HLW.out; omega
          have hw0' : ((lw : Int) == 0) = false := by simp [hw0]
          clear hw0
          go_upto_if 61 with (go_at_call 17; refine (allD_any w _ g s a F (HPW.out.sl HT.out (by omega)) (by omega) hsa).mono ?_; rintro e w1 ⟨bw, hbw, rfl, rfl⟩)
          cases bw with
          | false =>
            have hno : Hid (NoNum F n s) := cut_no HFM.out HFA.out (.inl fun q => by have := hbw.2 q.2; simp at this)
            clear hbw
            go_wp2_with fail
            exact bodyPost_ret (v := .tuple #[.bool false, .slice none 0 0, .slice none 0 0, .slice none 0 0, .bool false]) (by simp [results, Try.results9, go_sem]) rfl (model_fail hno.out)
          | true =>
            have HAL : Hid (Al F s a) := hbw.1 rfl
            clear hbw
            go_upto_region 24 with fail
            have haw := HPW.out.2.1 hsl
            subst haw
            have c1 := HT.out.cell s (by omega)
            by_cases hz : 1 < lw ∧ F s = 48
            · have hno : Hid (NoNum F n s) := cut_no HFM.out HFA.out (.inr (.inl (by rw [← HLW.out]; exact hz)))
              have hz1 : (1 : Int) < (lw : Int) := by omega
              have hz2 : (F s == 48) = true := by simp [hz.2]
              clear hz
              go_wp2_with fail
              exact bodyPost_ret (v := .tuple #[.bool false, .slice none 0 0, .slice none 0 0, .slice none 0 0, .bool false]) (by simp [results, Try.results9, go_sem]) rfl (model_fail hno.out)
            have HZ : Hid (¬ (1 < a - s ∧ F s = 48)) := by unfold Hid; rw [← HLW.out]; exact hz
            go_cut [70] (fun v wc => v = .bool false ∧ wc = w)
            case first =>
              by_cases hz1 : (1 : Int) < (lw : Int)
              · have hz2 : (F s == 48) = false := by simpa using fun q => hz ⟨by omega, q⟩
                clear hz
                go_wp2_with fail
                go_meet
                case rel => exact ⟨rfl, rfl⟩
              · clear hz
                go_wp2_with fail
                go_meet
                case rel => exact ⟨rfl, rfl⟩
            case rest =>
              obtain ⟨rfl, hw⟩ := hcut
              obtain rfl := hw.symm
              clear hw hz c1
              go_upto_region 26 with fail
              go_cut [81] (fun v wc => ∃ fb : Bool, v = .bool fb ∧ (fb = true → NoNum F n s) ∧ (fb = false → hf = true → a + 1 < m ∧ Al F (a + 1) m) ∧ wc = w)
              case first =>
                cases hf with
                | false =>
                  go_wp2_with fail
                  go_meet
                  case rel => exact ⟨false, rfl, by simp, by simp, rfl⟩
                | true =>
                  have HPF1 : Hid (Pc g (a + 1) m af lf cf) := HPF.out.1 rfl
                  by_cases hl0 : lf = 0
                  · have hno : Hid (NoNum F n s) := cut_no HFM.out HFA.out (.inr (.inr (.inl ⟨rfl, fun q => by have := HPF1.out.1; omega⟩)))
                    have hl0' : ((lf : Int) == 0) = true := by simp [hl0]
                    clear hl0
                    go_wp2_with fail
                    go_meet
                    case rel => exact ⟨true, rfl, fun _ => hno.out, by simp, rfl⟩
                  · have hl0' : ((lf : Int) == 0) = false := by simp [hl0]
                    have hlf : a + 1 < m := by have := HPF1.out.1; omega
                    clear hl0
                    go_wp2_with fail
                    refine (allD_any w _ g (a + 1) m F (HPF1.out.sl HT.out hmn) (by omega) (by omega)).mono ?_
                    rintro e w1 ⟨bf, hbf, rfl, hw⟩
                    obtain rfl := hw
                    cases bf with
                    | true =>
                      have HAF : Hid (Al F (a + 1) m) := hbf.1 rfl
                      clear hbf
                      go_wp2_with fail
                      go_meet
                      case rel => exact ⟨false, rfl, by simp, fun _ _ => ⟨hlf, HAF.out⟩, rfl⟩
                    | false =>
                      have hno : Hid (NoNum F n s) := cut_no HFM.out HFA.out (.inr (.inr (.inl ⟨rfl, fun q => by have := hbf.2 q.2; simp at this⟩)))
                      clear hbf
                      go_wp2_with fail
                      go_meet
                      case rel => exact ⟨true, rfl, fun _ => hno.out, by simp, rfl⟩
              case rest =>
                obtain ⟨fb, rfl, hft, hff, hw⟩ := hcut
                obtain rfl := hw.symm
                clear hw
                cases fb with
                | true =>
                  have hno : Hid (NoNum F n s) := hft rfl
                  clear hft hff
                  go_wp2_with fail
                  exact bodyPost_ret (v := .tuple #[.bool false, .slice none 0 0, .slice none 0 0, .slice none 0 0, .bool false]) (by simp [results, Try.results9, go_sem]) rfl (model_fail hno.out)
                | false =>
                  have HFF : Hid (hf = true → a + 1 < m ∧ Al F (a + 1) m) := hff rfl
                  clear hft hff
                  go_upto_if 82 with fail
                  go_cut [17] (fun v17 wc => (hx = true → ExpOK F n (m + 1)) ∧ wc = w)
                  case first =>
                    cases hx with
                    | false =>
                      go_wp2_with fail
                      go_meet
                      case rel => exact ⟨by simp, rfl⟩
                    | true =>
                      have HPX1 : Hid (Pc g (m + 1) n ax lx cx) := HPX.out.1 rfl
                      have hmn1 : m < n := (HFM.out.1 rfl).2.1
                      obtain ⟨sb, hsb⟩ : ∃ sb : Bool, sb = true ↔ (m + 1 < n ∧ IsS (F (m + 1))) := by
                        by_cases q : m + 1 < n ∧ IsS (F (m + 1))
                        · exact ⟨true, by simp [q]⟩
                        · exact ⟨false, by simp [q]⟩
                      have HSB : Hid (sb = true ↔ (m + 1 < n ∧ IsS (F (m + 1)))) := hsb
                      clear hsb
                      go_upto_region 30 with fail
                      go_cut [98] (fun v wc => v = .bool sb ∧ wc = w)
                      case first =>
                        by_cases hb : m + 1 < n
                        · have c3 := HT.out.cell (m + 1) hb
                          have hxx := HPX1.out.2.1 hb
                          subst hxx
                          have hb' : (0 : Int) < (lx : Int) := by have := HPX1.out.1; omega
                          by_cases hp : F (m + 1) = 43
                          · obtain rfl : sb = true := HSB.out.2 ⟨hb, .inl hp⟩
                            have hp' : (F (m + 1) == 43) = true := by simp [hp]
                            clear hp
                            go_wp2_with fail
                            go_meet
                            case rel => exact ⟨rfl, rfl⟩
                          · have hp' : (F (m + 1) == 43) = false := by simp [hp]
                            by_cases hq : F (m + 1) = 45
                            · obtain rfl : sb = true := HSB.out.2 ⟨hb, .inr hq⟩
                              have hq' : (F (m + 1) == 45) = true := by simp [hq]
                              clear hq
                              go_wp2_with fail
                              go_meet
                              case rel => exact ⟨rfl, rfl⟩
                            · have hq' : (F (m + 1) == 45) = false := by simp [hq]
                              obtain rfl : sb = false := by
                                rcases hz : sb with _ | _
                                · rfl
                                · exact absurd (HSB.out.1 hz).2 (fun z => z.elim hp hq)
                              go_wp2_with fail
                              go_meet
                              case rel => exact ⟨rfl, rfl⟩
                        · have hb' : ¬ ((0 : Int) < (lx : Int)) := by have := HPX1.out.1; omega
                          obtain rfl : sb = false := by
                            rcases hq : sb with _ | _
                            · rfl
                            · exact absurd (HSB.out.1 hq).1 hb
                          go_wp2_with fail
                          go_meet
                          case rel => exact ⟨rfl, rfl⟩
                      case rest =>
                        obtain ⟨rfl, hw⟩ := hcut
                        obtain rfl := hw.symm
                        clear hw
                        go_upto_if 98 with fail
                        go_cut [17] (fun v17 wc => ∃ ay ly cy y, v17 = .slice ay ly cy ∧ y ≤ n ∧ Sg F n (m + 1) y ∧ Pc g y n ay ly cy ∧ wc = w)
                        case first =>
                          cases sb with
                          | false =>
                            have HSG : Hid (Sg F n (m + 1) (m + 1)) := .inl ⟨rfl, fun q => by have := HSB.out.2 q; simp at this⟩
                            go_wp2_with fail
                            go_meet
                            case rel => exact ⟨_, _, _, m + 1, rfl, by omega, HSG.out, HPX1.out, rfl⟩
                          | true =>
                            have hb := (HSB.out.1 rfl).1
                            have HSG : Hid (Sg F n (m + 1) (m + 2)) := .inr ⟨rfl, HSB.out.1 rfl⟩
                            have hxx := HPX1.out.2.1 hb
                            subst hxx
                            have p1 : m + 1 + lx = n := by have := HPX1.out.1; omega
                            have p3 := HPX1.out.2.2
                            have b1 : (1 : Int) ≤ (lx : Int) := by omega
                            by_cases hk1 : 1 < cx
                            · go_wp2_with fail
                              go_meet
                              case rel => exact ⟨_, _, _, m + 2, rfl, by omega, HSG.out, ⟨by omega, fun q => rfl, by omega⟩, rfl⟩
                            · obtain rfl : cx = 1 := by omega
                              go_wp2_with fail
                              go_meet
                              case rel => exact ⟨_, _, _, m + 2, rfl, by omega, HSG.out, ⟨by omega, fun q => by omega, by omega⟩, rfl⟩
                        case rest =>
                          obtain ⟨ay, ly, cy, y, rfl, hyn, hsg, hpy, hw⟩ := hcut
                          obtain rfl := hw.symm
                          have HSG : Hid (Sg F n (m + 1) y) := hsg
                          have HPY : Hid (Pc g y n ay ly cy) := hpy
                          clear hw hsg hpy
                          go_upto_region 32 with fail
                          by_cases hl0 : ly = 0
                          · have hno : Hid (NoNum F n s) := cut_no HFM.out HFA.out (.inr (.inr (.inr ⟨rfl, by
                              rintro ⟨y', h1, h2, h3⟩
                              have := sg_unique HSG.out h1
                              have := HPY.out.1
                              omega⟩)))
                            have hl0' : ((ly : Int) == 0) = true := by simp [hl0]
                            clear hl0
                            go_wp2_with fail
                            exact bodyPost_ret (v := .tuple #[.bool false, .slice none 0 0, .slice none 0 0, .slice none 0 0, .bool false]) (by simp [results, Try.results9, go_sem]) rfl (model_fail hno.out)
                          · have hl0' : ((ly : Int) == 0) = false := by simp [hl0]
                            have hyl : y < n := by have := HPY.out.1; omega
                            clear hl0
                            go_wp2_with fail
                            refine (allD_any w _ g y n F (HPY.out.sl HT.out (Nat.le_refl _)) hn hyn).mono ?_
                            rintro e w1 ⟨by_, hby, rfl, hw⟩
                            obtain rfl := hw
                            cases by_ with
                            | true =>
                              have HEX : Hid (ExpOK F n (m + 1)) := ⟨y, HSG.out, hyl, hby.1 rfl⟩
                              clear hby
                              go_wp2_with fail
                              go_meet
                              case rel => exact ⟨fun _ => HEX.out, rfl⟩
                            | false =>
                              have hno : Hid (NoNum F n s) := cut_no HFM.out HFA.out (.inr (.inr (.inr ⟨rfl, by
                                rintro ⟨y', h1, h2, h3⟩
                                have e := sg_unique HSG.out h1
                                subst e
                                have := hby.2 h3
                                simp at this⟩)))
                              clear hby
                              go_wp2_with fail
                              exact bodyPost_ret (v := .tuple #[.bool false, .slice none 0 0, .slice none 0 0, .slice none 0 0, .bool false]) (by simp [results, Try.results9, go_sem]) rfl (model_fail hno.out)
                  case rest =>
                    obtain ⟨hxe, hw⟩ := hcut
                    obtain rfl := hw.symm
                    have HNU : Hid (NumIs F n s a hf m hx) := cut_yes HFM.out HFA.out hsl HAL.out HZ.out HFF.out hxe
                    have HE : Hid (ModelEnd w F n g neg s (.returned (.tuple #[.bool neg, .slice (some ⟨g, s, none⟩) lw cw, .slice af lf cf, .slice ax lx cx, .bool true])) w) :=
                      ⟨_, _, _, _, _, rfl, .inr ⟨rfl, rfl, a, hf, m, hx, HNU.out, HPW.out.is, fun q => (HPF.out.1 q).is, fun q => by obtain ⟨r1, r2, r3⟩ := HPF.out.2 q; rw [r1, r2, r3], fun q => (HPX.out.1 q).is, fun q => by obtain ⟨r1, r2, r3⟩ := HPX.out.2 q; rw [r1, r2, r3]⟩, rfl⟩
                    clear hw hxe
                    go_wp2_with fail
                    exact bodyPost_ret (v := .tuple #[.bool neg, .slice (some ⟨g, s, none⟩) lw cw, .slice af lf cf, .slice ax lx cx, .bool true]) (by simp [results, Try.results9, go_sem]) rfl HE.out
end Go.Proofs.Qxb6601180a
