/- Texts that stand between the quotes of a literal, piece by piece, beside what they mean; and what spec.Unquote finds at the head of such a text. Conditions: each piece is what strconv writes for a rune that may be encoded, or the two-digit escape of a byte. -/
import Derived.Test.YtdadbfehackfjaaDoorUnquote
set_option linter.unusedVariables false
set_option linter.unusedSimpArgs false
namespace Go.Proofs.YtdadbfehackfjaaDoor
open Go.RowKit Go.Deep

theorem ext_left (a b : ByteArray) : (a ++ b).extract 0 a.size = a := ByteArray.extract_append_eq_left rfl
theorem ext_right (a b : ByteArray) : (a ++ b).extract a.size (a ++ b).size = b := ByteArray.extract_append_eq_right rfl (by rw [size_app])
theorem ext_mid (a b c : ByteArray) : (a ++ (b ++ c)).extract a.size (a.size + b.size) = b := by
  have h := ByteArray.extract_append_size_add (a := a) (b := b ++ c) (i := 0) (j := b.size)
  rw [Nat.add_zero] at h
  rw [h]
  exact ext_left b c
theorem get_app_one (c : UInt8) (t : ByteArray) : (one c ++ t).get! 0 = c := by
  rw [get_app_left (one c) t 0 (by rw [one_size]; omega)]
  rfl
theorem get_app_two (c d : UInt8) (t : ByteArray) : (one c ++ (one d ++ t)).get! 1 = d := by
  have h := get_app_right (one c) (one d ++ t) 0 (by rw [size_app, one_size]; omega)
  rw [one_size] at h
  exact h.trans (get_app_one d t)

/-- The inside of a literal with the quotes q, and what it means. -/
inductive Lit (q : Nat) : ByteArray → ByteArray → Prop
  | nil : Lit q ⟨#[]⟩ ⟨#[]⟩
  | rune (A : Bool) (r : Nat) (t m : ByteArray) : Sc r → Lit q t m → Lit q (escT q A r ++ t) (enc r ++ m)
  | byte (b : Nat) (t m : ByteArray) : b < 256 → Lit q t m → Lit q ((one 92 ++ (one 120 ++ hexn b 2)) ++ t) (one (UInt8.ofNat b) ++ m)

/-- What stands at its head. -/
def Head (q : Nat) (t m : ByteArray) : Prop :=
  (∃ k m', 1 ≤ k ∧ k ≤ t.size ∧ wid t = k ∧ (t.get! 0).toNat ≠ 92 ∧ (t.get! 0).toNat ≠ q ∧ (t.get! 0).toNat ≠ 10 ∧ m = t.extract 0 k ++ m' ∧ Lit q (t.extract k t.size) m') ∨
  (∃ p n m', 1 ≤ n ∧ n ≤ t.size ∧ (t.get! 0).toNat = 92 ∧ (∀ w, Calls Tryd.prog 32 #[.string t, .int .u8 (q : Int)] w fun e w' => e = .returned (.tuple #[.string p, .int .i64 (n : Nat)]) ∧ Below w.heap.size w w') ∧ m = p ++ m' ∧ Lit q (t.extract n t.size) m')

theorem head_esc {q : Nat} (p : ByteArray) (e t m' : ByteArray) (he : 1 ≤ e.size) (h0 : (e.get! 0).toNat = 92) (hl : Lit q t m')
    (hc : ∀ w, Calls Tryd.prog 32 #[.string (e ++ t), .int .u8 (q : Int)] w fun x w' => x = .returned (.tuple #[.string p, .int .i64 (e.size : Nat)]) ∧ Below w.heap.size w w') : Head q (e ++ t) (p ++ m') := by
  refine .inr ⟨p, e.size, m', he, by rw [size_app]; omega, ?_, hc, rfl, ?_⟩
  · rw [get_app_left e t 0 (by omega)]; exact h0
  · rw [ext_right]; exact hl

theorem head_hex {q : Nat} (hq : q = 34 ∨ q = 39) (c : UInt8) (y n : Nat) (t m' : ByteArray) (hl : Lit q t m') (p : ByteArray)
    (hc : ∀ s : ByteArray, n + 2 ≤ s.size → s.get! 1 = c → s.extract 2 (n + 2) = hexn y n → ∀ w, Calls Tryd.prog 32 #[.string s, .int .u8 (q : Int)] w fun x w' => x = .returned (.tuple #[.string p, .int .i64 ((n + 2 : Nat) : Int)]) ∧ Below w.heap.size w w') : Head q ((one 92 ++ (one c ++ hexn y n)) ++ t) (p ++ m') := by
  have hs : (one 92 ++ (one c ++ hexn y n)).size = n + 2 := by rw [size_app, size_app, one_size, one_size, hexn_size]; omega
  refine head_esc p _ t m' (by omega) (by rw [get_app_one]; rfl) hl ?_
  rw [hs]
  refine hc _ (by rw [size_app]; omega) ?_ ?_
  · rw [app_assoc, app_assoc, get_app_two]
  · have h := ext_mid (one 92 ++ one c) (hexn y n) t
    have e2 : (one 92 ++ one c).size = 2 := rfl
    rw [e2, hexn_size, Nat.add_comm 2 n] at h
    rw [app_assoc, app_assoc]
    rw [app_assoc] at h
    exact h

theorem head_rune {q : Nat} (hq : q = 34 ∨ q = 39) (A : Bool) (r : Nat) (hr : Sc r) (t m' : ByteArray) (hl : Lit q t m') : Head q (escT q A r ++ t) (enc r ++ m') := by
  have hqi : q < 128 := by omega
  unfold escT
  split
  · rename_i h
    have hr8 : r < 128 := by omega
    have e : enc r = one (UInt8.ofNat r) := enc_one r hr8
    rw [e]
    refine head_esc _ _ t m' (by rw [size_app, one_size, one_size]; omega) (by rw [get_app_one]; rfl) hl ?_
    intro w
    have hs : (one 92 ++ one (UInt8.ofNat r)).size = 2 := rfl
    rw [hs]
    refine escape_two (UInt8.ofNat r) q hq ?_ _ (by rw [size_app, hs]; omega) ?_ w
    · rcases h with h | h
      · right; rw [UInt8.toNat_ofNat']; omega
      · left; rw [h]; rfl
    · rw [app_assoc, get_app_two]
  split
  · rename_i h1 h2
    have hp : prn r = true := by rw [Bool.and_eq_true] at h2; exact h2.2
    have hh := enc_head r hr
    have hle := enc_le (r : Int)
    have hn10 : r ≠ 10 := by
      rintro rfl
      rw [prn_low _ (by decide)] at hp
      cases hp
    have hg : ((enc r ++ t).get! 0).toNat = ((enc r).get! 0).toNat := by rw [get_app_left _ _ 0 (by omega)]
    refine .inl ⟨(enc r).size, m', hle.1, by rw [size_app]; omega, wid_enc r hr t, ?_, ?_, ?_, by rw [ext_left], by rw [ext_right]; exact hl⟩
    all_goals
      rw [hg]
      by_cases h8 : r < 128
      · rw [hh.2 h8]; omega
      · have := hh.1 (by omega); omega
  split
  · rename_i h1 h2 h3
    rw [enc_one r (by omega)]
    refine head_esc _ _ t m' (by rw [size_app, one_size, one_size]; omega) (by rw [get_app_one]; rfl) hl ?_
    intro w
    have hs : (one 92 ++ one (nam r)).size = 2 := rfl
    rw [hs]
    exact escape_named r h3 (q : Int) _ (by rw [size_app, hs]; omega) (by rw [app_assoc, get_app_two]) w
  split
  · rename_i h1 h2 h3 h4
    rw [enc_one r (by omega)]
    exact head_hex hq 120 r 2 t m' hl _ (fun s h1 h2 h3 w => escape_hex2 r (by omega) q hq s h1 h2 h3 w)
  split
  · rename_i h1 h2 h3 h4 h5
    exact head_hex hq 117 r 4 t m' hl _ (fun s h1 h2 h3 w => escape_hex4 r h5 hr q hq s h1 h2 h3 w)
  · exact head_hex hq 85 r 8 t m' hl _ (fun s h1 h2 h3 w => escape_hex8 r hr q hq s h1 h2 h3 w)

theorem Lit.head {q : Nat} (hq : q = 34 ∨ q = 39) {t m : ByteArray} (h : Lit q t m) (h0 : 0 < t.size) : Head q t m := by
  cases h with
  | nil => exact absurd h0 (Nat.lt_irrefl 0)
  | rune A r t m hr hl => exact head_rune hq A r hr t m hl
  | byte b t m hb hl => exact head_hex hq 120 b 2 t m hl _ (fun s h1 h2 h3 w => escape_hex2 b hb q hq s h1 h2 h3 w)
theorem Lit.none {q : Nat} {t m : ByteArray} (h : Lit q t m) (h0 : ¬ 0 < t.size) : m = ⟨#[]⟩ := by
  cases h with
  | nil => rfl
  | rune A r t m hr hl => have := (escT_size q A r).1; rw [size_app] at h0; omega
  | byte b t m hb hl => rw [size_app, size_app, one_size] at h0; omega

end Go.Proofs.YtdadbfehackfjaaDoor
