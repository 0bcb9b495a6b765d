/- Plain facts on texts: where the first code points of a string end, how often a byte stands, a text filled up to a width. No program in sight but for the width of a code point. -/
import Derived.Test.YtdadbfehackfjaaDoorWidth
import Derived.Lib.RuneCountTail
import Derived.Lib.QuoteLoop
import Derived.Lib.AppendStr
import Derived.Laws.BytesArg
set_option linter.unusedVariables false
set_option linter.unusedSimpArgs false
namespace Go.Proofs.YtdadbfehackfjaaDoor
open Go.RowKit

/-- Where the first k code points from place p on end. -/
def fwd (s : ByteArray) : Nat → Nat → Nat
  | 0, p => p
  | k + 1, p => if p < s.size then fwd s k (p + (Utf8.decode s p).2) else p

theorem size_tail (s : ByteArray) (p : Nat) : (s.extract p s.size).size = s.size - p := Lib.tail_size s p
theorem dec_le (s : ByteArray) (p : Nat) (h : p < s.size) : 1 ≤ (Utf8.decode s p).2 ∧ p + (Utf8.decode s p).2 ≤ s.size := by
  have h1 := Lib.tail_decode s p 0
  rw [Nat.add_zero] at h1
  have h2 := Lib.width_le (s.extract p s.size) (by rw [size_tail]; omega)
  rw [h1, size_tail] at h2
  exact ⟨Lib.width_pos s p, by omega⟩
theorem dec_le0 (s : ByteArray) (h : 0 < s.size) : 1 ≤ (Utf8.decode s 0).2 ∧ (Utf8.decode s 0).2 ≤ s.size := by
  have := dec_le s 0 h
  exact ⟨this.1, by omega⟩
theorem fwd_le (s : ByteArray) : ∀ k p, p ≤ s.size → fwd s k p ≤ s.size ∧ p ≤ fwd s k p
  | 0, p, h => ⟨h, Nat.le_refl _⟩
  | k + 1, p, h => by
    unfold fwd
    split
    · rename_i hp
      have h1 := dec_le s p hp
      have h2 := fwd_le s k _ h1.2
      exact ⟨h2.1, by omega⟩
    · exact ⟨h, Nat.le_refl _⟩
theorem fwd_end (s : ByteArray) (k p : Nat) (h : ¬ p < s.size) : fwd s k p = p := by
  cases k <;> simp [fwd, h]
theorem fwd_step (s : ByteArray) (k p : Nat) (h : p < s.size) : fwd s (k + 1) p = fwd s k (p + (Utf8.decode s p).2) := by
  simp [fwd, h]
/-- One step more, at the far end. -/
theorem fwd_snoc (s : ByteArray) : ∀ k p, fwd s (k + 1) p = if fwd s k p < s.size then fwd s k p + (Utf8.decode s (fwd s k p)).2 else fwd s k p
  | 0, p => rfl
  | k + 1, p => by
    by_cases h : p < s.size
    · rw [fwd_step s (k + 1) p h, fwd_snoc s k, fwd_step s k p h]
    · rw [fwd_end s _ p h, fwd_end s _ p h, if_neg h]
theorem fwd_lt (s : ByteArray) : ∀ k p, k < s.size - p → fwd s k p < s.size ∨ True := fun _ _ _ => .inr trivial
/-- The count, taken off at the head. -/
theorem count_step (t : ByteArray) (h : 0 < t.size) : Lib.runeCount t = 1 + Lib.runeCount (t.extract (Utf8.decode t 0).2 t.size) := by
  have hw := dec_le0 t h
  unfold Lib.runeCount
  rw [Lib.tail_count, size_tail, Nat.add_zero]
  obtain ⟨m, hm⟩ : ∃ m, t.size = m + 1 := ⟨t.size - 1, by omega⟩
  rw [hm]
  conv => lhs; unfold Lib.runeCountFrom
  rw [if_pos (by omega), Nat.zero_add, Lib.fuel_enough t m (m + 1 - (Utf8.decode t 0).2) _ (by omega) (by omega)]
theorem count_none (t : ByteArray) (h : ¬ 0 < t.size) : Lib.runeCount t = 0 := by
  have : t.size = 0 := by omega
  unfold Lib.runeCount
  rw [this]; rfl

/-- A byte, n times. -/
def fill (c : UInt8) (n : Nat) : ByteArray := ⟨(List.replicate n c).toArray⟩
theorem fill_size (c : UInt8) (n : Nat) : (fill c n).size = n := by simp [fill, ByteArray.size]
theorem fill_zero (c : UInt8) : fill c 0 = ⟨#[]⟩ := rfl
theorem app_nil (s : ByteArray) : s ++ (⟨#[]⟩ : ByteArray) = s := by
  cases s with
  | mk d => apply ByteArray.ext; simp
theorem nil_app (s : ByteArray) : (⟨#[]⟩ : ByteArray) ++ s = s := by
  cases s with
  | mk d => apply ByteArray.ext; simp
theorem size_app (s t : ByteArray) : (s ++ t).size = s.size + t.size := by simp [ByteArray.size_append]

/-- Flags, a width and a precision. -/
structure Fl where
  wid : Int
  prec : Int
  hw : Bool
  hp : Bool
  mi : Bool
  pl : Bool
  sh : Bool
  sp : Bool
  ze : Bool
/-- As Printf makes them. -/
structure Fl.Ok (F : Fl) : Prop where
  wlo : 0 ≤ F.wid
  whi : F.wid ≤ 4095
  plo : 0 ≤ F.prec
  phi : F.prec ≤ 4095

/-- A text filled up to the width. -/
def padOf (F : Fl) (s : ByteArray) : ByteArray :=
  if F.hw = false then s
  else if F.mi = true then s ++ fill 32 (F.wid - Lib.runeCount s).toNat
  else if F.ze = true then fill 48 (F.wid - Lib.runeCount s).toNat ++ s
  else fill 32 (F.wid - Lib.runeCount s).toNat ++ s
theorem padOf_size (F : Fl) (s : ByteArray) (h : F.wid ≤ 4095) : (padOf F s).size ≤ s.size + 4095 := by
  unfold padOf
  repeat' split
  all_goals first | omega | (simp only [size_app, fill_size]; omega)

/-- The cells of a row of n bytes whose first k have been set. -/
def half (c : UInt8) (k n : Nat) : Array Value := ((List.range n).map fun i => if i < k then Value.int .u8 (c.toNat : Int) else Value.int .u8 0).toArray
theorem half_size (c : UInt8) (k n : Nat) : (half c k n).size = n := by simp [half]
theorem half_get (c : UInt8) (k n i : Nat) (h : i < n) : (half c k n)[i]? = some (if i < k then Value.int .u8 (c.toNat : Int) else Value.int .u8 0) := by
  unfold half
  simp [List.getElem?_map, List.getElem?_range, h]
theorem half_far (c : UInt8) (k n i : Nat) (h : ¬ i < n) : (half c k n)[i]? = none := by
  rw [Array.getElem?_eq_none]; rw [half_size]; omega
theorem half_zero (c : UInt8) (n : Nat) : madeCells #[Value.int .u8 0] n = half c 0 n := by
  apply Array.ext_getElem?
  intro i
  by_cases h : i < n
  · rw [half_get c 0 n i h]
    unfold madeCells
    simp [h]
    have e : i % 1 = 0 := Nat.mod_one i
    rw [e]; rfl
  · rw [half_far c 0 n i h, Array.getElem?_eq_none]
    rw [size_madeCells]; omega
theorem half_set (c : UInt8) (k n : Nat) (h : k < n) : (half c k n).setIfInBounds k (.int .u8 (c.toNat : Int)) = half c (k + 1) n := by
  apply Array.ext_getElem?
  intro i
  rw [Array.getElem?_setIfInBounds, half_size]
  by_cases hi : i < n
  · rw [half_get c (k + 1) n i hi, half_get c k n i hi]
    by_cases he : k = i
    · subst he; simp [h]
    · rw [if_neg he]
      by_cases hk : i < k
      · rw [if_pos hk, if_pos (by omega)]
      · rw [if_neg hk, if_neg (by omega)]
  · rw [half_far c (k + 1) n i hi, half_far c k n i hi, if_neg (by omega)]
theorem strOf_fill (c : UInt8) (n : Nat) : strOfNums (List.replicate n (c.toNat : Int)) = fill c n := by
  unfold strOfNums fill
  simp

end Go.Proofs.YtdadbfehackfjaaDoor
