import Derived.Test.Qxb6601201aLaw6
import Derived.Deep.RegionWith
import Derived.Deep.RegionHeld3
namespace Go.Proofs.Qxb6601201a
open Go.RowKit Ins

theorem bytes11 (s : ByteArray) (w : World) (h : s.size ≤ 9223372036854775807) : Calls Try.prog 11 #[.string s] w fun e w' => ∃ b : Bool, e = .returned (.bool b) ∧ w = w' := by
  go_enter Try.func11, Try.ntmps11
  go_wp2
  all_goals go_ret
  all_goals exact ⟨_, rfl, rfl⟩

theorem Own.later {w0 w w' : World} {v : Value} {l : List UInt8} (h : Own w0 w v l) (hb : Below w.heap.size w w') : Own w0 w' v l := by
  refine ⟨⟨h.1.1, ?_⟩, h.2.trans (hb.mono h.2.size)⟩
  rcases h.1.2 with q | ⟨g, cap, cur, hv, hg, hh, r⟩
  · exact .inl q
  · exact .inr ⟨g, cap, cur, hv, hg, by rw [hb.block g (lt_of_block hh)]; exact hh, r⟩

theorem ins_take (s : ByteArray) (k : Nat) (h : k < s.size) : ins 0 (s.data.toList.take (k + 1)) = ins 0 (s.data.toList.take k) ++ (if 0 < k ∧ k % 4 = 0 then [45, s[k]] else [s[k]]) := by
  rw [take_snoc s k h, ins_snoc, Nat.zero_add, List.length_take, ← Lib.size_eq, Nat.min_eq_left (by omega)]

set_option maxRecDepth 20000 in
set_option maxHeartbeats 4000000 in
theorem law5 (s : ByteArray) (w : World) (hs : s.size ≤ 9223372036854775807) :
    Calls Try.prog 5 #[.string s] w fun e w' => e = .returned (.bool true) ∧ Below w.heap.size w w' := by
  by_cases s1 : (1048576 : Int) < (s.size : Int)
  · go_enter Try.func5, Try.ntmps5
    go_wp2_with (first | (go_at_call 11; refine (bytes11 _ _ hs).mono ?_; rintro e w' ⟨b, rfl, rfl⟩))
    all_goals go_ret
    all_goals exact ⟨rfl, Below.refl _ _⟩
  obtain ⟨i0, hi, hz0, hz1, hz2⟩ := info_parts Try.info5
  go_enter Try.func5, Try.ntmps5
  go_upto_if 7 with (first | (go_at_call 11; refine (bytes11 _ _ hs).mono ?_; rintro e w' ⟨b, rfl, rfl⟩))
  cases b with
  | false =>
    go_wp2_with fail
    go_ret
    exact ⟨rfl, Below.refl _ _⟩
  | true =>
    go_wp2_with (at_make; refine wpList_make_own _ rfl _ _ 26 rfl w.heap.size 5 i0 (.int .u8 0) 1 Try.underlying26 hi hz0 hz1 _ _ _ (s.size + s.size / 4) rfl rfl (by omega) (by rw [hz2]; omega) (by unfold maxLen; omega) (Nat.le_refl _) ?_; intro w2 hown hgrow)
    have hown0 : Own w w2 (.slice (some ⟨w.heap.size, 0, none⟩) 0 (s.size + s.size / 4)) [] := ⟨hown, (Below.refl _ _).grown hgrow (Nat.le_refl _) (by simp)⟩
    clear hown hgrow
    go_loopw [3, 4] (fun v i wr => ∃ (k : Nat) (v3 : Value), k ≤ s.size ∧ v3 = v ∧ i = .int .i64 k ∧ Own w wr v3 (ins 0 (s.data.toList.take k))) (fun _ i _ => s.size - (intOf i).toNat)
    case atStart => exact ⟨0, _, Nat.zero_le _, rfl, rfl, by simpa [ins] using hown0⟩
    case round =>
      obtain ⟨k, v3, hk, rfl, rfl, howk⟩ := hrel
      have HO : Hid (Own w wr v3 (ins 0 (s.data.toList.take k))) := howk
      have hwr := howk.2.size
      have hul := (ins_len 0 (s.data.toList.take k)).2
      have htl : (s.data.toList.take k).length = k := by rw [List.length_take, ← Lib.size_eq]; omega
      rw [htl] at hul
      clear howk hown0 htl
      by_cases hlt : k < s.size
      · have HS : Hid (ins 0 (s.data.toList.take (k + 1)) = ins 0 (s.data.toList.take k) ++ (if 0 < k ∧ k % 4 = 0 then [45, s[k]] else [s[k]])) := ins_take s k hlt
        generalize hU : ins 0 (s.data.toList.take k) = U at HO HS hul
        clear hU
        by_cases h4 : 0 < k ∧ k % 4 = 0
        · have h41 : (0 : Int) < (k : Int) := by omega
          have h42 : ((k : Int) % 4 == 0) = true := by simp; omega
          go_wp2_with (first | (at_builtin; refine wpList_append_own _ rfl (.tmp 31) (.tmp 32) 26 rfl w.heap.size 5 i0 (.int .u8 0) 1 1 Try.underlying26 hi hz0 hz1 hz2 rfl (by decide) _ _ _ rfl (HO.out.1.alloc _) ⟨wr.heap.size, 0, none⟩ 1 1 [.int .u8 45] rfl rfl (one_newb _ _ _) (by simp [Value.oneCell']) (by unfold maxLen; omega) (by omega) (by simp; omega) ?_; intro v' w3 hown' hgrow' _; have HO2 := hid (own_snoc (c := 45) HO.out hown' hgrow'); have hw3 := HO2.out.2.size; clear hown' hgrow') | (at_builtin; refine wpList_append_own _ rfl (.tmp 34) (.tmp 38) 26 rfl w.heap.size 5 i0 (.int .u8 0) 1 1 Try.underlying26 hi hz0 hz1 hz2 rfl (by decide) _ _ _ rfl (HO2.out.1.alloc _) ⟨w3.heap.size, 0, none⟩ 1 1 [.int .u8 (s[k].toNat : Int)] rfl rfl (one_newb _ _ _) (by simp [Value.oneCell']) (by simp; unfold maxLen; omega) (by simp; omega) (by simp; omega) ?_; intro v'' w4 hown' hgrow' _; have HO3 := hid (own_snoc HO2.out hown' hgrow'); clear hown' hgrow'))
          go_roundw
          case rel => exact ⟨k + 1, _, by omega, rfl, by go_num, by rw [HS.out, if_pos h4]; have := HO3.out; simpa using this⟩
          case measure => simp [intOf]; omega
        · by_cases h0 : 0 < k
          · have h41 : (0 : Int) < (k : Int) := by omega
            have h42 : ((k : Int) % 4 == 0) = false := by simp; omega
            go_wp2_with (at_builtin; refine wpList_append_own _ rfl (.tmp 34) (.tmp 38) 26 rfl w.heap.size 5 i0 (.int .u8 0) 1 1 Try.underlying26 hi hz0 hz1 hz2 rfl (by decide) _ _ _ rfl (HO.out.1.alloc _) ⟨wr.heap.size, 0, none⟩ 1 1 [.int .u8 (s[k].toNat : Int)] rfl rfl (one_newb _ _ _) (by simp [Value.oneCell']) (by unfold maxLen; omega) (by omega) (by simp; omega) ?_; intro v' w3 hown' hgrow' _; have HO2 := hid (own_snoc HO.out hown' hgrow'); clear hown' hgrow')
            go_roundw
            case rel => exact ⟨k + 1, _, by omega, rfl, by go_num, by rw [HS.out, if_neg h4]; exact HO2.out⟩
            case measure => simp [intOf]; omega
          · obtain rfl : k = 0 := by omega
            go_wp2_with (at_builtin; refine wpList_append_own _ rfl (.tmp 34) (.tmp 38) 26 rfl w.heap.size 5 i0 (.int .u8 0) 1 1 Try.underlying26 hi hz0 hz1 hz2 rfl (by decide) _ _ _ rfl (HO.out.1.alloc _) ⟨wr.heap.size, 0, none⟩ 1 1 [.int .u8 (s[0].toNat : Int)] rfl rfl (one_newb _ _ _) (by simp [Value.oneCell']) (by unfold maxLen; omega) (by omega) (by simp; omega) ?_; intro v' w3 hown' hgrow' _; have HO2 := hid (own_snoc HO.out hown' hgrow'); clear hown' hgrow')
            go_roundw
            case rel => exact ⟨1, _, by omega, rfl, by go_num, by rw [HS.out, if_neg h4]; exact HO2.out⟩
            case measure => simp [intOf]; omega
      · have hU : ins 0 (s.data.toList.take k) = ins 0 s.data.toList := by
          rw [List.take_of_length_le (by rw [← Lib.size_eq]; omega)]
        rw [hU] at HO
        obtain ⟨R, hR⟩ : ∃ R : ByteArray, R = ⟨(ins 0 s.data.toList).toArray⟩ := ⟨_, rfl⟩
        have HR : Hid (R.data.toList = ins 0 s.data.toList) := by unfold Hid; rw [hR]
        have HCV : Hid (∀ W, Below wr.heap.size wr W → (convert 26 9 v3).run Try.prog W = .ok (.string R) W) := fun W hW => by rw [hR]; exact own_conv (HO.out.later hW)
        clear hU hul hR
        go_wp2_with fail
        go_region_held3 (fun w' => (convert 26 9 v3).run Try.prog w' = .ok (.string R) w') (first | (exact HCV.out _ (Below.refl _ _)) | (exact HCV.out _ ((Below.refl _ _).drew)) | (exact HCV.out _ (by assumption))) ((go_at_call 9; refine (show_any s _ (by omega)).mono ?_; rintro e w5 ⟨t, rfl, ht, hb5⟩; have hb6 : Below wr.heap.size wr w5 := ⟨hb5.os, hb5.tape, hb5.output, hb5.size, hb5.block⟩; have he : (t.toList == R.toList) = true := by rw [Lib.toList_data, Lib.toList_data, ht, HR.out]; simp))
        go_wp2_with fail
        go_ret
        refine ⟨?_, ?_⟩
        · first | rfl | (exact congrArg (fun b => Ending.returned (Value.bool b)) (by assumption))
        · refine HO.out.2.trans (Below.mono (B := wr.heap.size) ?_ HO.out.2.size)
          assumption
end Go.Proofs.Qxb6601201a
