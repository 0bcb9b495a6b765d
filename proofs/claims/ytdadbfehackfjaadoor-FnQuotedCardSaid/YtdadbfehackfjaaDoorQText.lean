/- What strconv writes for a string between double quotes, in plain words, that it means the string, and that it is ASCII where it should be; which strings can stand between backquotes. No walk stands here. -/
import Derived.Test.YtdadbfehackfjaaDoorLit
set_option linter.unusedVariables false
set_option linter.unusedSimpArgs false
namespace Go.Proofs.YtdadbfehackfjaaDoor
open Go.RowKit Go.Deep

theorem dec_sc (t : ByteArray) : Sc (Utf8.decode t 0).1 := by
  have h := Lib.decodeN_valid (t.size - 0) (t.get! 0).toNat (t.get! (0 + 1)).toNat (t.get! (0 + 2)).toNat (t.get! (0 + 3)).toNat (UInt8.toNat_lt _)
  rw [← Lib.decode_at] at h
  exact h
/-- A rune that was read is encoded as it stood. -/
theorem re_enc (t : ByteArray) (h0 : 0 < t.size) (hw : ¬ ((Utf8.decode t 0).1 = 65533 ∧ (Utf8.decode t 0).2 = 1)) : enc ((Utf8.decode t 0).1 : Nat) = t.extract 0 (Utf8.decode t 0).2 := by
  have hd : Lib.decodeL t.data.toList = Utf8.decode t 0 := by
    have := Lib.decodeL_drop t 0
    rwa [List.drop_zero] at this
  have hne : t.data.toList ≠ [] := by
    intro e
    have : t.data.toList.length = 0 := by rw [e]; rfl
    rw [Array.length_toList] at this
    have : t.size = 0 := this
    omega
  have h := Lib.encode_decode t.data.toList hne (by rw [hd]; exact hw)
  rw [hd] at h
  apply ByteArray.ext
  apply Array.ext'
  have e : (enc ((Utf8.decode t 0).1 : Nat)).data.toList = Lib.encodeRune ((Utf8.decode t 0).1 : Nat) := by
    show (strOfNums _).data.toList = _
    rw [strOf_data]
    rfl
  rw [e, h]
  simp [ByteArray.data_extract]

/-- Is there no code point at the head? -/
def badH (t : ByteArray) : Prop := (Utf8.decode t 0).1 = 65533 ∧ (Utf8.decode t 0).2 = 1
instance (t : ByteArray) : Decidable (badH t) := by unfold badH; exact inferInstance
theorem wid_badH (t : ByteArray) : (wid t = 0 ↔ badH t) := by
  unfold wid badH
  have := Lib.width_pos t 0
  split
  · rename_i h; simp [h]
  · rename_i h
    constructor
    · intro h2; omega
    · intro h2; exact absurd h2 h
/-- What is written for the code point at the head. -/
def pieceQ (A : Bool) (t : ByteArray) : ByteArray := if badH t then one 92 ++ (one 120 ++ hexn (t.get! 0).toNat 2) else escT 34 A (Utf8.decode t 0).1
theorem pieceQ_size (A : Bool) (t : ByteArray) : 1 ≤ (pieceQ A t).size ∧ (pieceQ A t).size ≤ 10 := by
  unfold pieceQ
  split
  · rw [size_app, size_app, one_size, one_size, hexn_size]; omega
  · exact escT_size _ _ _
/-- What is left behind it. -/
abbrev restQ (t : ByteArray) : ByteArray := t.extract (Utf8.decode t 0).2 t.size
theorem restQ_size (t : ByteArray) (h : 0 < t.size) : (restQ t).size + (Utf8.decode t 0).2 = t.size ∧ 1 ≤ (Utf8.decode t 0).2 ∧ (Utf8.decode t 0).2 ≤ t.size := by
  have h1 := dec_le0 t h
  have h2 : (restQ t).size = t.size - (Utf8.decode t 0).2 := size_tail t (Utf8.decode t 0).2
  omega
/-- What is written between the quotes; fuel n. -/
def qB (A : Bool) : Nat → ByteArray → ByteArray
  | 0, _ => ⟨#[]⟩
  | n + 1, t => if 0 < t.size then pieceQ A t ++ qB A n (restQ t) else ⟨#[]⟩
theorem qB_none (A : Bool) (n : Nat) (t : ByteArray) (h : ¬ 0 < t.size) : qB A n t = ⟨#[]⟩ := by
  cases n with
  | zero => rfl
  | succ n => rw [qB, if_neg h]
theorem qB_size (A : Bool) : ∀ n t, (qB A n t).size ≤ 10 * t.size
  | 0, t => by rw [qB]; exact Nat.zero_le _
  | n + 1, t => by
    rw [qB]
    split
    · rename_i h
      have h1 := pieceQ_size A t
      have h2 := qB_size A n (restQ t)
      have h3 := restQ_size t h
      rw [size_app]
      omega
    · exact Nat.zero_le _
theorem split_at (t : ByteArray) (d : Nat) (h : d ≤ t.size) : t.extract 0 d ++ t.extract d t.size = t := by
  rw [← ByteArray.extract_eq_extract_append_extract (a := t) (i := 0) (k := t.size) d (by omega) h]
  exact ByteArray.extract_zero_size
/-- It means the string. -/
theorem qB_lit (A : Bool) : ∀ n t, t.size ≤ n → Lit 34 (qB A n t) t
  | n, t, hn => by
    by_cases h : 0 < t.size
    · obtain ⟨n, rfl⟩ : ∃ k, n = k + 1 := ⟨n - 1, by omega⟩
      have h3 := restQ_size t h
      have ih := qB_lit A n (restQ t) (by omega)
      rw [qB, if_pos h]
      unfold pieceQ
      split
      · rename_i hb
        have e : t = one (UInt8.ofNat (t.get! 0).toNat) ++ restQ t := by
          have h1 := split_at t 1 (by omega)
          have h2 := byte_extract t 0 h
          rw [h2] at h1
          have h4 : restQ t = t.extract 1 t.size := by rw [restQ, hb.2]
          rw [h4]
          have h5 : UInt8.ofNat (t.get! 0).toNat = t.get! 0 := by simp
          rw [h5]
          exact h1.symm
        have := Lit.byte (q := 34) (t.get! 0).toNat (qB A n (restQ t)) (restQ t) (UInt8.toNat_lt _) ih
        rw [← e] at this
        exact this
      · rename_i hb
        have e : t = enc ((Utf8.decode t 0).1 : Nat) ++ restQ t := by
          rw [re_enc t h hb]
          exact (split_at t _ (by omega)).symm
        have := Lit.rune (q := 34) A (Utf8.decode t 0).1 (qB A n (restQ t)) (restQ t) (dec_sc t) ih
        rw [← e] at this
        exact this
    · rw [qB_none A n t h]
      have : t = ⟨#[]⟩ := empty_of_size t (by omega)
      rw [this]
      exact Lit.nil
  termination_by n => n
theorem qB_asc : ∀ n t, Asc (qB true n t)
  | 0, t => Asc.nil
  | n + 1, t => by
    rw [qB]
    split
    · refine Asc.app ?_ (qB_asc n _)
      unfold pieceQ
      split
      · exact (Asc.one (by decide)).app ((Asc.one (by decide)).app (Asc.hexn _ _))
      · exact Asc.escT 34 _ (by decide)
    · exact Asc.nil

/-- Can the code point at the head stand between backquotes? -/
def okB (t : ByteArray) : Bool :=
  if 1 < (Utf8.decode t 0).2 then decide ((Utf8.decode t 0).1 ≠ 65279)
  else decide ((Utf8.decode t 0).1 ≠ 65533 ∧ ¬ ((Utf8.decode t 0).1 < 32 ∧ (Utf8.decode t 0).1 ≠ 9) ∧ (Utf8.decode t 0).1 ≠ 96 ∧ (Utf8.decode t 0).1 ≠ 127)
/-- Can a string? Fuel n. -/
def rawB : Nat → ByteArray → Bool
  | 0, _ => true
  | n + 1, t => if 0 < t.size then okB t && rawB n (restQ t) else true
theorem rawB_none (n : Nat) (t : ByteArray) (h : ¬ 0 < t.size) : rawB n t = true := by
  cases n with
  | zero => rfl
  | succ n => rw [rawB, if_neg h]
/-- Is it UTF-8? Fuel n. -/
def utfB : Nat → ByteArray → Bool
  | 0, _ => true
  | n + 1, t => if 0 < t.size then !decide (badH t) && utfB n (restQ t) else true
theorem utfB_none (n : Nat) (t : ByteArray) (h : ¬ 0 < t.size) : utfB n t = true := by
  cases n with
  | zero => rfl
  | succ n => rw [utfB, if_neg h]
theorem okB_bad (t : ByteArray) (h : badH t) : okB t = false := by
  unfold okB
  rw [if_neg (by have := h.2; omega)]
  rw [h.1]
  rfl
theorem rawB_utf : ∀ n t, utfB n t = false → rawB n t = false
  | 0, t, h => by rw [utfB] at h; cases h
  | n + 1, t, h => by
    rw [utfB] at h
    rw [rawB]
    split
    · rename_i h0
      rw [if_pos h0] at h
      by_cases hb : badH t
      · rw [okB_bad t hb]; rfl
      · rw [decide_eq_false hb] at h
        rw [rawB_utf n _ (by simpa using h)]
        simp
    · rename_i h0
      rw [if_neg h0] at h
      cases h

/-- A rune's first byte, and its width. -/
theorem dec_small (t : ByteArray) (h0 : 0 < t.size) (hb : ¬ badH t) : ((Utf8.decode t 0).2 = 1 ∧ (Utf8.decode t 0).1 = (t.get! 0).toNat ∧ (t.get! 0).toNat < 128) ∨ (1 < (Utf8.decode t 0).2 ∧ 128 ≤ (t.get! 0).toNat ∧ 128 ≤ (Utf8.decode t 0).1) := by
  rcases Lib.decodeN_shape (t.size - 0) (t.get! 0).toNat (t.get! (0 + 1)).toNat (t.get! (0 + 2)).toNat (t.get! (0 + 3)).toNat with ⟨c, e⟩ | ⟨c1, c2, c3, cv, e⟩ | ⟨c1, c2, c3, c4, cv, cs, e⟩ | ⟨c1, c2, c3, c4, c5, cv, cw, e⟩ | e
  all_goals rw [← Lib.decode_at] at e
  · left; rw [e]; exact ⟨rfl, rfl, c⟩
  · right; rw [e]; refine ⟨by simp, by omega, by simpa using cv⟩
  · right; rw [e]; refine ⟨by simp, by omega, ?_⟩; simp only; omega
  · right; rw [e]; refine ⟨by simp, by omega, ?_⟩; simp only; omega
  · exact absurd ⟨by rw [e], by rw [e]⟩ hb
/-- The bytes of a rune that is no ASCII are none. -/
theorem dec_high (t : ByteArray) (h0 : 0 < t.size) (h : 1 < (Utf8.decode t 0).2) : ∀ j, j < (Utf8.decode t 0).2 → 128 ≤ (t.get! j).toNat := by
  intro j hj
  rcases Lib.decodeN_shape (t.size - 0) (t.get! 0).toNat (t.get! (0 + 1)).toNat (t.get! (0 + 2)).toNat (t.get! (0 + 3)).toNat with ⟨c, e⟩ | ⟨c1, c2, c3, cv, e⟩ | ⟨c1, c2, c3, c4, cv, cs, e⟩ | ⟨c1, c2, c3, c4, c5, cv, cw, e⟩ | e
  all_goals rw [← Lib.decode_at] at e
  all_goals rw [e] at h hj
  all_goals simp only at h hj
  · omega
  · obtain rfl | rfl : j = 0 ∨ j = 1 := by omega
    · omega
    · simp only [Nat.zero_add] at c3; omega
  · obtain rfl | rfl | rfl : j = 0 ∨ j = 1 ∨ j = 2 := by omega
    · omega
    · simp only [Nat.zero_add] at c3; omega
    · simp only [Nat.zero_add] at c4; omega
  · obtain rfl | rfl | rfl | rfl : j = 0 ∨ j = 1 ∨ j = 2 ∨ j = 3 := by omega
    · omega
    · simp only [Nat.zero_add] at c3; omega
    · simp only [Nat.zero_add] at c4; omega
    · simp only [Nat.zero_add] at c5; omega
  · omega

/-- No backquote and no carriage return. -/
def NoBq (t : ByteArray) : Prop := ∀ j, j < t.size → (t.get! j).toNat ≠ 96 ∧ (t.get! j).toNat ≠ 13
theorem get_rest (t : ByteArray) (d j : Nat) (h : d + j < t.size) : (t.extract d t.size).get! j = t.get! (d + j) := Lib.tail_get! t d j
theorem rawB_no : ∀ n t, t.size ≤ n → rawB n t = true → NoBq t
  | 0, t, hn, _ => fun j hj => by omega
  | n + 1, t, hn, h => by
    by_cases h0 : 0 < t.size
    · rw [rawB, if_pos h0, Bool.and_eq_true] at h
      have h3 := restQ_size t h0
      have ih := rawB_no n (restQ t) (by omega) h.2
      intro j hj
      by_cases hjd : j < (Utf8.decode t 0).2
      · have hb : ¬ badH t := fun hb => by rw [okB_bad t hb] at h; cases h.1
        rcases dec_small t h0 hb with ⟨h5, h6, h7⟩ | ⟨h5, h6, h7⟩
        · obtain rfl : j = 0 := by omega
          have hk := h.1
          unfold okB at hk
          rw [if_neg (by omega), decide_eq_true_eq] at hk
          omega
        · have := dec_high t h0 h5 j hjd
          omega
      · obtain ⟨i, rfl⟩ : ∃ i, j = (Utf8.decode t 0).2 + i := ⟨j - (Utf8.decode t 0).2, by omega⟩
        have := ih i (by omega)
        rw [get_rest t _ i hj] at this
        exact this
    · intro j hj; omega

end Go.Proofs.YtdadbfehackfjaaDoor
