import Derived.Test.Qxb6601201aShow
import Derived.Laws.IdiomStrings
import Derived.Laws.BytesArg
namespace Go.Proofs.Qxb6601201a
open Go.RowKit Ins

theorem Try.info5 : (Try.prog.info? 5).map (fun i => (i.zero, i.size, i.bytes)) = some (some (.int .u8 0), 1, 1) := by kernel_rfl

/-- A slice of bytes of the call's own. -/
def Own (w0 w : World) (v : Value) (l : List UInt8) : Prop := w.ownsRow w0.heap.size 5 1 v l.length (l.map fun c => Value.int .u8 (c.toNat : Int)) ∧ Below w0.heap.size w0 w

theorem own_snoc {w0 w w1 : World} {v v' : Value} {l : List UInt8} {c : UInt8} {o : Obj} (h : Own w0 w v l) (hown : w1.ownsRow w0.heap.size 5 1 v' (l.length + 1) ((l.map fun c => Value.int .u8 (c.toNat : Int)) ++ [.int .u8 (c.toNat : Int)]))
    (hg : (w.alloc o).grownBy w1 v.ownBlock) : Own w0 w1 v' (l ++ [c]) := by
  refine ⟨?_, ?_⟩
  · simpa using hown
  · have hb := h.2.alloc h.2.size o
    refine hb.grown hg (by have := h.2.size; simp; omega) fun k hk => ?_
    rcases h.1.2 with ⟨rfl, _⟩ | ⟨g, cap, cur, rfl, hg, _⟩
    · simp [Value.ownBlock] at hk
    · simp [Value.ownBlock] at hk; omega

theorem own_conv {w0 w : World} {v : Value} {l : List UInt8} (h : Own w0 w v l) : (convert 26 9 v).run Try.prog w = .ok (.string ⟨l.toArray⟩) w := by
  obtain ⟨hown, _⟩ := h
  have h' := hown
  rcases hown.2 with ⟨rfl, q⟩ | ⟨g, cap, cur, rfl, hg, hh, _⟩
  · have e : l = [] := List.length_eq_zero_iff.1 q
    subst e
    rw [run_convert_bytes_nil w 26 5 Try.underlying26 Try.underlying5 0 0 9 Try.underlying9]
    rfl
  · refine run_convert_bytes_back w 26 9 5 ⟨g, 0, none⟩ cap l Try.underlying26 Try.underlying5 Try.underlying9 fun j hj => ?_
    have e : (⟨g, 0, none⟩ : Addr).add j = ⟨g, j, none⟩ := by unfold Addr.add; split <;> simp_all
    rw [e, World.ownsRow.cellAt h' j (by omega)]
    simp [hj]

theorem one_newb (w : World) (u : Value) (t : TypeId) : ∀ j v, [u][j]? = some v → (w.alloc (.cells #[u] t)).cell? ((⟨w.heap.size, 0, none⟩ : Addr).add j) = some v := one_new w u t

theorem take_snoc (s : ByteArray) (k : Nat) (h : k < s.size) : s.data.toList.take (k + 1) = s.data.toList.take k ++ [s[k]] := by
  rw [List.take_succ_eq_append_getElem (by simpa using h)]; rfl

theorem bytes12 (s : ByteArray) (w : World) (h : s.size ≤ 9223372036854775807) : Calls Try.prog 12 #[.string s] w fun e w' => ∃ b : Bool, e = .returned (.bool b) ∧ w = w' := by
  go_enter Try.func12, Try.ntmps12
  go_wp2
  all_goals go_ret
  all_goals exact ⟨_, rfl, rfl⟩

theorem size_shown {s t : ByteArray} (h : t.data.toList = ins 0 s.data.toList) : t.size = if 0 < s.size then s.size + (s.size - 1) / 4 else 0 := by
  rw [Lib.size_eq, h, ins_length, ← Lib.size_eq]

theorem unsh_len (j : Nat) (l : List UInt8) : (unsh j l).length ≤ l.length := by
  induction l generalizing j with
  | nil => exact Nat.le_refl _
  | cons c l ih =>
    have := ih (j + 1)
    simp only [unsh]; split <;> simp <;> omega

set_option maxRecDepth 20000 in
set_option maxHeartbeats 4000000 in
theorem law6 (s : ByteArray) (w : World) (hs : s.size ≤ 9223372036854775807) :
    Calls Try.prog 6 #[.string s] w fun e w' => e = .returned (.bool true) ∧ Below w.heap.size w w' := by
  by_cases s1 : (1048576 : Int) < (s.size : Int)
  · go_enter Try.func6, Try.ntmps6
    go_wp2_with (first | (go_at_call 12; refine (bytes12 _ _ hs).mono ?_; rintro e w' ⟨b, rfl, rfl⟩))
    all_goals go_ret
    all_goals exact ⟨rfl, Below.refl _ _⟩
  obtain ⟨i0, hi, hz0, hz1, hz2⟩ := info_parts Try.info5
  go_enter Try.func6, Try.ntmps6
  go_upto_if 10 with (first | (go_at_call 12; refine (bytes12 _ _ hs).mono ?_; rintro e w' ⟨b, rfl, rfl⟩))
  cases b with
  | false =>
    go_wp2_with fail
    go_ret
    exact ⟨rfl, Below.refl _ _⟩
  | true =>
    go_wp2_with fail
    refine (show_any s w (by omega)).mono ?_
    rintro e w1 ⟨t, rfl, ht, hb1⟩
    have HT : Hid (t.data.toList = ins 0 s.data.toList) := ht
    have HB1 : Hid (Below w.heap.size w w1) := hb1
    have HZ : Hid (t.size = if 0 < s.size then s.size + (s.size - 1) / 4 else 0) := size_shown ht
    have htz : t.size ≤ 2 * 1048576 := by
      have := (ins_len 0 s.data.toList).2
      rw [← ht, ← Lib.size_eq, ← Lib.size_eq] at this
      omega
    clear ht hb1
    go_upto_if 19 with fail
    go_cut [5] (fun v wc => v = .int .i64 t.size ∧ wc = w1)
    case first =>
      by_cases h0 : 0 < s.size
      · have e := HZ.out
        rw [if_pos h0] at e
        have HE : Hid (t.size = s.size + (s.size - 1) / 4) := e
        clear e
        have h0' : (0 : Int) < (s.size : Int) := by omega
        go_wp2_with fail
        go_meet
        case rel => exact ⟨by rw [HE.out]; congr 1; omega, rfl⟩
      · have e := HZ.out
        rw [if_neg h0] at e
        have HE : Hid (t.size = 0) := e
        clear e
        go_wp2_with fail
        go_meet
        case rel => exact ⟨by rw [HE.out]; rfl, rfl⟩
    case rest =>
      obtain ⟨rfl, hw⟩ := hcut
      obtain rfl := hw.symm
      clear hw
      go_wp2_with (at_make; refine wpList_make_own _ rfl _ _ 26 rfl w.heap.size 5 i0 (.int .u8 0) 1 Try.underlying26 hi hz0 hz1 _ _ _ t.size rfl rfl rfl (by rw [hz2]; omega) (by unfold maxLen; omega) HB1.out.size ?_; intro w2 hown hgrow)
      have hown0 : Own w w2 (.slice (some ⟨w1.heap.size, 0, none⟩) 0 t.size) [] := ⟨hown, HB1.out.grown hgrow HB1.out.size (by simp)⟩
      clear hown hgrow
      go_loopw [6, 7] (fun v i wr => ∃ (k : Nat) (v6 : Value), k ≤ t.size ∧ v6 = v ∧ i = .int .i64 k ∧ Own w wr v6 (unsh 0 (t.data.toList.take k))) (fun _ i _ => t.size - (intOf i).toNat)
      case atStart => exact ⟨0, _, Nat.zero_le _, rfl, rfl, by simpa [unsh] using hown0⟩
      case round =>
        obtain ⟨k, v6, hk, rfl, rfl, howk⟩ := hrel
        have HO : Hid (Own w wr v6 (unsh 0 (t.data.toList.take k))) := howk
        have hwr := howk.2.size
        have hul := unsh_len 0 (t.data.toList.take k)
        have htl : (t.data.toList.take k).length = k := by rw [List.length_take, ← Lib.size_eq]; omega
        rw [htl] at hul
        have HTL : Hid ((t.data.toList.take k).length = k) := htl
        clear howk hown0 htl
        by_cases hlt : k < t.size
        · have HS : Hid (unsh 0 (t.data.toList.take (k + 1)) = unsh 0 (t.data.toList.take k) ++ (if k % 5 = 4 then [] else [t[k]])) := by
            unfold Hid; rw [take_snoc t k hlt, unsh_snoc, HTL.out, Nat.zero_add]
          by_cases h5 : k % 5 = 4
          · have h5' : ((k : Int) % 5 == 4) = true := by simp; omega
            have hy : (t[k].toNat : Int) = 45 := by
              have hh := (show_back s.data.toList).2
              rw [← HT.out] at hh
              have := hyph_at 0 t.data.toList hh k (by rw [← Lib.size_eq]; exact hlt) (by simpa using h5)
              have e : t[k] = t.data.toList[k]'(by rw [← Lib.size_eq]; exact hlt) := rfl
              rw [e, this]; rfl
            have hy' : ((t[k].toNat : Int) != 45) = false := by simp [hy]
            clear hy
            go_wp2_with fail
            go_roundw
            case rel => exact ⟨k + 1, _, by omega, rfl, by go_num, by rw [HS.out, if_pos h5, List.append_nil]; exact HO.out⟩
            case measure => simp [intOf]; omega
          · have h5' : ((k : Int) % 5 == 4) = false := by simp; omega
            generalize hU : unsh 0 (t.data.toList.take k) = U at HO HS hul
            clear hU
            go_wp2_with (at_builtin; refine wpList_append_own _ rfl _ _ 26 rfl w.heap.size 5 i0 (.int .u8 0) 1 1 Try.underlying26 hi hz0 hz1 hz2 rfl (by decide) _ _ _ rfl (HO.out.1.alloc _) ⟨wr.heap.size, 0, none⟩ 1 1 [.int .u8 (t[k].toNat : Int)] rfl rfl (one_newb _ _ _) (by simp [Value.oneCell']) (by unfold maxLen; omega) (by omega) (by simp; omega) ?_; intro v' w3 hown' hgrow' _; have HO2 := hid (own_snoc HO.out hown' hgrow'); clear hown' hgrow')
            go_roundw
            case rel => exact ⟨k + 1, _, by omega, rfl, by go_num, by rw [HS.out, if_neg h5]; exact HO2.out⟩
            case measure => simp [intOf]; omega
        · have hU : unsh 0 (t.data.toList.take k) = s.data.toList := by
            rw [List.take_of_length_le (by rw [← Lib.size_eq]; omega), HT.out]; exact (show_back _).1
          rw [hU] at HO
          have hcv := own_conv HO.out
          have he : (s.data.toList == s.toList) = true := by rw [Lib.toList_data]; simp
          clear hU hul
          go_wp2_with fail
          go_ret
          exact ⟨rfl, HO.out.2⟩
end Go.Proofs.Qxb6601201a
