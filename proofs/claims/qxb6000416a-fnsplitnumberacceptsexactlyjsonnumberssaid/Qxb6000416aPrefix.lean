import Derived.Test.Qxb6000416aCut
namespace Go.Proofs.Qxb6000416a
open Go.RowKit Num

/-- A string whose first byte is k. -/
theorem size_cons {s : ByteArray} {k : UInt8} {l : List UInt8} (h : s.data.toList = k :: l) : s.size = l.length + 1 := by
  rw [Lib.size_eq, h]; rfl
theorem first_of {s : ByteArray} {k : UInt8} {l : List UInt8} (h : s.data.toList = k :: l) (h0 : 0 < s.size) : s[0] = k := by
  have e := drop_at s 0 h0
  rw [h] at e
  simp at e
  exact e.symm
theorem tail_of {s : ByteArray} {k : UInt8} {l : List UInt8} (h : s.data.toList = k :: l) : (s.extract 1 s.size).data.toList = l := by
  rw [Lib.extract_data, h, size_cons h]; simp
theorem head_hit {s : ByteArray} {k : UInt8} {l : List UInt8} (h : s.data.toList = k :: l) : ((s.extract 0 1).toList == [k]) = true := by
  rw [Lib.extract_toList, h]; simp
theorem head_miss {s : ByteArray} {k c : UInt8} {l : List UInt8} (h : s.data.toList = c :: l) (hc : c ≠ k) : ((s.extract 0 1).toList == [k]) = false := by
  rw [Lib.extract_toList, h]; simp [hc]

theorem cutPrefix_hit (s : ByteArray) (k : UInt8) (l : List UInt8) (w : World) (h : s.data.toList = k :: l) (hm : s.size ≤ 9223372036854775807) :
    Calls Try.prog 30 #[.string s, .string ⟨#[k]⟩] w fun e w' => ∃ r : ByteArray, e = .returned (.tuple #[.string r, .bool true]) ∧ r.data.toList = l ∧ w' = w := by
  have hk : ByteArray.size ⟨#[k]⟩ = 1 := rfl
  have h1 : 1 ≤ s.size := by rw [size_cons h]; omega
  have he := head_hit h
  have ht : Hid ((s.extract 1 s.size).data.toList = l) := tail_of h
  clear h
  go_enter Try.func30, Try.ntmps30
  go_wp2
  go_ret2
  exact ⟨_, rfl, ht.out, rfl⟩

theorem cutPrefix_miss (s : ByteArray) (k c : UInt8) (l : List UInt8) (w : World) (h : s.data.toList = c :: l) (hc : c ≠ k) (hm : s.size ≤ 9223372036854775807) :
    Calls Try.prog 30 #[.string s, .string ⟨#[k]⟩] w fun e w' => e = .returned (.tuple #[.string s, .bool false]) ∧ w' = w := by
  have hk : ByteArray.size ⟨#[k]⟩ = 1 := rfl
  have h1 : 1 ≤ s.size := by rw [size_cons h]; omega
  have he := head_miss h hc
  clear h
  go_enter Try.func30, Try.ntmps30
  go_wp2
  go_ret2
  exact ⟨rfl, rfl⟩

theorem cutPrefix_empty (s : ByteArray) (k : UInt8) (w : World) (h : s.size = 0) :
    Calls Try.prog 30 #[.string s, .string ⟨#[k]⟩] w fun e w' => e = .returned (.tuple #[.string s, .bool false]) ∧ w' = w := by
  have hk : ByteArray.size ⟨#[k]⟩ = 1 := rfl
  have h1 : s.size < 1 := by omega
  clear h
  go_enter Try.func30, Try.ntmps30
  go_wp2
  go_ret2
  exact ⟨rfl, rfl⟩

/-- What CutPrefix hands back where it is asked for one byte. -/
def CutAt (k : UInt8) (l r : List UInt8) (b : Bool) : Prop := (b = true ∧ l = k :: r) ∨ (b = false ∧ r = l ∧ l.head? ≠ some k)

theorem cutPrefix_any (s : ByteArray) (k : UInt8) (w : World) (hm : s.size ≤ 9223372036854775807) :
    Calls Try.prog 30 #[.string s, .string ⟨#[k]⟩] w fun e w' => ∃ (r : ByteArray) (b : Bool), e = .returned (.tuple #[.string r, .bool b]) ∧ CutAt k s.data.toList r.data.toList b ∧ Grown w w' := by
  cases h : s.data.toList with
  | nil =>
    refine (cutPrefix_empty s k w (by rw [Lib.size_eq, h]; rfl)).mono ?_
    rintro e w' ⟨rfl, rfl⟩
    exact ⟨s, false, rfl, .inr ⟨rfl, h, by simp⟩, Grown.refl _⟩
  | cons c l =>
    by_cases hc : c = k
    · subst hc
      refine (cutPrefix_hit s c l w h hm).mono ?_
      rintro e w' ⟨r, rfl, hr, rfl⟩
      exact ⟨r, true, rfl, .inl ⟨rfl, by rw [hr]⟩, Grown.refl _⟩
    · refine (cutPrefix_miss s k c l w h hc hm).mono ?_
      rintro e w' ⟨rfl, rfl⟩
      exact ⟨s, false, rfl, .inr ⟨rfl, h, by simpa using hc⟩, Grown.refl _⟩
end Go.Proofs.Qxb6000416a
