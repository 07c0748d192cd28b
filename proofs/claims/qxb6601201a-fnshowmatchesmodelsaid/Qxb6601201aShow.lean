import Derived.Test.Qxb6601201aShelf
import Derived.Test.Qxb6601201aIns
import Derived.WalkKit
import Derived.WalkSpells
import Derived.RegionTactic
import Derived.Deep.QuietTactic
import Derived.BigQuiet
import Derived.Deep.DeepCutAuto
import Derived.Deep.Light
import Derived.Deep.LoopGhost
import Derived.Lib.Strings
import Derived.Lib.Join
import Derived.OneCell
namespace Go.Proofs.Qxb6601201a
open Go.RowKit Ins

theorem Try.info9 : (Try.prog.info? 9).map (fun i => (i.zero, i.size, i.bytes)) = some (some (.string ⟨#[]⟩), 1, 16) := by kernel_rfl

/-- What Show hands back. -/
def ShowEnd (s : ByteArray) (w : World) (e : Ending) (w' : World) : Prop := ∃ t : ByteArray, e = .returned (.string t) ∧ t.data.toList = ins 0 s.data.toList ∧ Below w.heap.size w w'

/-- The groups in memory. -/
def Groups (w0 w : World) (v : Value) (gs : List ByteArray) : Prop := w.ownsRow w0.heap.size 9 1 v gs.length (gs.map Value.string) ∧ Below w0.heap.size w0 w

theorem one_new (w : World) (u : Value) (t : TypeId) : ∀ j v, [u][j]? = some v → (w.alloc (.cells #[u] t)).cell? ((⟨w.heap.size, 0, none⟩ : Addr).add j) = some v := by
  intro j v hj
  match j, hj with
  | 0, hj => simp at hj; subst hj; simp [Addr.add]

theorem groups_snoc {w0 w w1 : World} {v v' : Value} {gs : List ByteArray} {x : ByteArray} {o : Obj} (h : Groups w0 w v gs) (hown : w1.ownsRow w0.heap.size 9 1 v' (gs.length + 1) (gs.map Value.string ++ [.string x]))
    (hg : (w.alloc o).grownBy w1 v.ownBlock) : Groups w0 w1 v' (gs ++ [x]) := by
  refine ⟨?_, ?_⟩
  · simpa using hown
  · have hb := h.2.alloc h.2.size o
    refine hb.grown hg (by have := h.2.size; simp; omega) fun k hk => ?_
    rcases h.1.2 with ⟨rfl, _⟩ | ⟨g, cap, cur, rfl, hg, _⟩
    · simp [Value.ownBlock] at hk
    · simp [Value.ownBlock] at hk; omega

/-- What the loop has done: the groups so far and what is left. -/
def Left (s : ByteArray) (gs : List ByteArray) (code : ByteArray) : Prop := ins 0 s.data.toList = pre (gs.map (·.data.toList)) ++ ins 0 code.data.toList ∧ 4 * gs.length + code.size ≤ s.size

theorem hid {p : Prop} (h : p) : Hid p := h
theorem left_step {s code : ByteArray} {gs : List ByteArray} (h : Left s gs code) (hlt : 4 < code.size) : Left s (gs ++ [code.extract 0 4]) (code.extract 4 code.size) := by
  obtain ⟨h1, h2⟩ := h
  refine ⟨?_, ?_⟩
  · rw [h1, ins_four _ (by rw [← Lib.size_eq]; exact hlt), List.map_append, List.map_cons, List.map_nil, pre_snoc, Lib.extract_data, Lib.extract_data]
    have e : List.take (code.size - 4) (List.drop 4 code.data.toList) = List.drop 4 code.data.toList := List.take_of_length_le (by rw [List.length_drop, ← Lib.size_eq]; exact Nat.le_refl _)
    rw [e]
    simp
  · simp; omega
theorem left_end {s code : ByteArray} {gs : List ByteArray} (h : Left s gs code) (hle : code.size ≤ 4) : Lib.join ((gs ++ [code]).map (·.data.toList)) [45] = ins 0 s.data.toList := by
  rw [h.1, ins_few _ (by rw [← Lib.size_eq]; exact hle), List.map_append, List.map_cons, List.map_nil]
  exact inter_snoc _ _

theorem groups_join {w0 w : World} {v : Value} {gs : List ByteArray} {x s : ByteArray} (h : Groups w0 w v (gs ++ [x])) (hj : Lib.join ((gs ++ [x]).map (·.data.toList)) [45] = ins 0 s.data.toList) (hs : s.size ≤ 1048576) (hl : gs.length ≤ 1048576) :
    ∃ g cap, v = .slice (some ⟨g, 0, none⟩) (gs.length + 1) cap ∧ Calls Try.prog 14 #[.slice (some ⟨g, 0, none⟩) (gs.length + 1) cap, .string ⟨#[45]⟩] w fun e w' => ShowEnd s w e w' := by
  obtain ⟨hown, hb⟩ := h
  rcases hown.2 with ⟨_, q⟩ | ⟨g, cap, cur, rfl, hg, hh, hn, hm, _⟩
  · simp at q
  · have hl1 : (gs ++ [x]).length = gs.length + 1 := by simp
    refine ⟨g, cap, by rw [hl1], ?_⟩
    have hlen := ins_len 0 s.data.toList
    have := Try.strings_Join g 0 cap (gs ++ [x]) ⟨#[45]⟩ w (fun j y hy => by
      have hjl : j < (gs ++ [x]).length := (List.getElem?_eq_some_iff.1 hy).1
      rw [Nat.zero_add, World.ownsRow.cellAt hown j (by omega), List.getElem?_map, hy]; rfl) (lt_of_block hh) (by rw [hl1]; omega) hn (by
        show (Lib.join ((gs ++ [x]).map (·.data.toList)) [45]).length ≤ _
        rw [hj]; have := Lib.size_eq s; omega)
    rw [hl1] at this
    refine this.mono fun e w' q => ⟨_, q.1, ?_, q.2⟩
    show Lib.join ((gs ++ [x]).map (·.data.toList)) [45] = _
    exact hj

set_option maxRecDepth 20000 in
set_option maxHeartbeats 1000000 in
theorem show_any (s : ByteArray) (w : World) (hs : s.size ≤ 1048576) : Calls Try.prog 9 #[.string s] w fun e w' => ShowEnd s w e w' := by
  obtain ⟨i0, hi, hz0, hz1, hz2⟩ := info_parts Try.info9
  go_enter Try.func9, Try.ntmps9
  go_wp2_with fail
  go_loopg [0, 3] s.size (fun k c v wr => ∃ (gs : List ByteArray) (code : ByteArray) (v3 : Value), c = .string code ∧ v3 = v ∧ k = code.size ∧ Left s gs code ∧ Groups w wr v3 gs)
  case atStart => exact ⟨[], s, _, rfl, rfl, rfl, ⟨by simp [pre], by simp⟩, World.ownsRow_nil _ _ _ _, Below.refl _ _⟩
  case round =>
    obtain ⟨gs, code, v3, rfl, rfl, rfl, hleft, hgr⟩ := hrel
    have HL : Hid (Left s gs code) := hleft
    have HG : Hid (Groups w wr v3 gs) := hgr
    have hsz := hleft.2
    have hwr := hgr.2.size
    clear hleft hgr
    by_cases hlt : 4 < code.size
    · have hlt' : (4 : Int) ≤ (code.size : Int) := by omega
      go_wp2_with (at_builtin; refine wpList_append_own _ rfl _ _ 28 rfl w.heap.size 9 i0 (.string ⟨#[]⟩) 1 16 Try.underlying28 hi hz0 hz1 hz2 rfl (by decide) _ _ _ rfl (HG.out.1.alloc _) ⟨wr.heap.size, 0, none⟩ 1 1 [.string (code.extract 0 4)] rfl rfl (one_new _ _ _) (by simp [Value.oneCell']) (by unfold maxLen; omega) (by omega) (by simp; omega) ?_; intro v' w1 hown' hgrow' _)
      have HG2 : Hid (Groups w w1 v' (gs ++ [code.extract 0 4])) := groups_snoc HG.out hown' hgrow'
      clear hown' hgrow'
      go_wp2_with fail
      go_roundg (code.extract 4 code.size).size
      case measure => simp; omega
      case rel => exact ⟨_, _, _, rfl, rfl, rfl, left_step HL.out hlt, HG2.out⟩
    · have hle : code.size ≤ 4 := by omega
      go_upto_region 5 with fail
      go_wp2_with (at_builtin; refine wpList_append_own _ rfl _ _ 28 rfl w.heap.size 9 i0 (.string ⟨#[]⟩) 1 16 Try.underlying28 hi hz0 hz1 hz2 rfl (by decide) _ _ _ rfl (HG.out.1.alloc _) ⟨wr.heap.size, 0, none⟩ 1 1 [.string code] rfl rfl (one_new _ _ _) (by simp [Value.oneCell']) (by unfold maxLen; omega) (by omega) (by simp; omega) ?_; intro v' w1 hown' hgrow' _; obtain ⟨g, cap, rfl, hcall⟩ := groups_join (groups_snoc HG.out hown' hgrow') (left_end HL.out hle) hs (by omega); have HC := hid hcall; have HB1 : Hid (Below w.heap.size w w1) := (groups_snoc HG.out hown' hgrow').2; clear hcall hown' hgrow')
      refine HC.out.mono ?_
      rintro e w2 ⟨t, rfl, ht, hb2⟩
      have HE : Hid (ShowEnd s w (.returned (.string t)) w2) := ⟨t, rfl, ht, HB1.out.trans (hb2.mono HB1.out.size)⟩
      clear ht hb2
      go_wp2_with fail
      go_ret
      exact HE.out
end Go.Proofs.Qxb6601201a
