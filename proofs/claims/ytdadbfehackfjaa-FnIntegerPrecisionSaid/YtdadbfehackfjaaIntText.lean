/- What the verbs of integers write, as the code builds it: plain definitions and facts; no program in sight. -/
import Derived.Test.YtdadbfehackfjaaTail
import Derived.Test.YtdadbfehackfjaaHexLaw
set_option linter.unusedVariables false
set_option linter.unusedSimpArgs false
namespace Go.Proofs.Ytdadbfehackfjaa
open Go.RowKit Go.Deep

theorem fill_succ (c : UInt8) (k : Nat) : fill c (k + 1) = one c ++ fill c k := by
  apply ByteArray.ext
  simp [fill, one, ByteArray.data_append, List.replicate_succ]

/-- Is the number below nought? -/
def negOf (sg : Bool) (u : Nat) : Bool := sg && decide (9223372036854775808 ≤ u)
/-- The number without its sign. -/
def magOf (sg : Bool) (u : Nat) : Nat := if negOf sg u then 18446744073709551616 - u else u
/-- How many digits at least. -/
def precOf (F : Fl) (neg : Bool) : Int := if F.hp then F.prec else if F.ze && !F.mi && F.hw then (if neg || F.pl || F.sp then F.wid - 1 else F.wid) else 0
/-- The digits, noughts ahead of them. -/
def numOf (P : Int) (b : Nat) (U : Bool) (m : Nat) : ByteArray := fill 48 (P.toNat - (digB b U m).size) ++ digB b U m
/-- What the flag # puts ahead. -/
def sharpOf (sh : Bool) (b : Nat) (U : Bool) (t : ByteArray) : ByteArray :=
  if sh then (if b = 2 then one 48 ++ (one 98 ++ t) else if b = 8 then (if t.get! 0 = 48 then t else one 48 ++ t) else if b = 16 then one 48 ++ (one (if U then 88 else 120) ++ t) else t) else t
/-- What the verb O puts ahead. -/
def ohOf (O : Bool) (t : ByteArray) : ByteArray := if O then one 48 ++ (one 111 ++ t) else t
/-- The sign. -/
def signOf (F : Fl) (neg : Bool) (t : ByteArray) : ByteArray := if neg then one 45 ++ t else if F.pl then one 43 ++ t else if F.sp then one 32 ++ t else t
def intText (F : Fl) (sg : Bool) (u b : Nat) (O U : Bool) : ByteArray :=
  signOf F (negOf sg u) (ohOf O (sharpOf F.sh b U (numOf (precOf F (negOf sg u)) b U (magOf sg u))))

theorem magOf_le (sg : Bool) (u : Nat) (h : (u : Int) ≤ 18446744073709551615) : (magOf sg u : Int) ≤ 18446744073709551615 := by
  unfold magOf
  split
  · rename_i hn
    unfold negOf at hn
    simp only [Bool.and_eq_true, decide_eq_true_eq] at hn
    omega
  · exact h

theorem digB_pos (b : Nat) (U : Bool) (hb : 2 ≤ b) (n : Nat) : 1 ≤ (digB b U n).size := by
  by_cases h : n < b
  · rw [digB_small b U n h, one_size]; omega
  · rw [digB_step b U n hb h, size_app, one_size]; omega
/-- In base 8 a number has 22 digits at most. -/
theorem digB_size8 (U : Bool) : ∀ j n, n < 8 ^ (j + 1) → (digB 8 U n).size ≤ j + 1
  | 0, n, h => by
    rw [digB_small 8 U n (by omega)]
    exact Nat.le_refl _
  | j + 1, n, h => by
    by_cases hn : n < 8
    · rw [digB_small 8 U n hn]
      have := one_size (hexd U n)
      omega
    · rw [digB_step 8 U n (by omega) hn, size_app, one_size]
      have := digB_size8 U j (n / 8) (by rw [Nat.pow_succ] at h; omega)
      omega
theorem digB_eight (U : Bool) (n : Nat) (h : (n : Int) ≤ 18446744073709551615) : (digB 8 U n).size ≤ 22 := digB_size8 U 21 n (by omega)

theorem numOf_size (P : Int) (b : Nat) (U : Bool) (m : Nat) : (numOf P b U m).size = max P.toNat (digB b U m).size := by
  unfold numOf
  rw [size_app, fill_size]
  omega
theorem numOf_head (P : Int) (b : Nat) (U : Bool) (m : Nat) (h : (digB b U m).size < P.toNat) : (numOf P b U m).get! 0 = 48 := by
  unfold numOf
  obtain ⟨k, hk⟩ : ∃ k, P.toNat - (digB b U m).size = k + 1 := ⟨P.toNat - (digB b U m).size - 1, by omega⟩
  rw [hk, get_of_lt _ 0 (by rw [size_app, fill_size]; omega), ByteArray.getElem_append_left (by rw [fill_size]; omega)]
  rfl

/-- All that is written fits. -/
theorem sharpOf_size (sh : Bool) (b : Nat) (U : Bool) (t : ByteArray) : (sharpOf sh b U t).size ≤ t.size + 2 := by
  unfold sharpOf
  repeat' split
  all_goals (try simp only [size_app, one_size])
  all_goals omega
theorem sharpOf_ge (sh : Bool) (b : Nat) (U : Bool) (t : ByteArray) : t.size ≤ (sharpOf sh b U t).size := by
  unfold sharpOf
  repeat' split
  all_goals (try simp only [size_app, one_size])
  all_goals omega
theorem signOf_ge (F : Fl) (neg : Bool) (t : ByteArray) : t.size ≤ (signOf F neg t).size ∧ (signOf F neg t).size ≤ t.size + 1 := by
  unfold signOf
  repeat' split
  all_goals (try simp only [size_app, one_size])
  all_goals omega
theorem sharpOf_size8 (sh : Bool) (U : Bool) (t : ByteArray) : (sharpOf sh 8 U t).size ≤ t.size + (if t.get! 0 = 48 then 0 else 1) := by
  unfold sharpOf
  cases sh
  · simp
  · simp only [if_true]
    rw [if_neg (by omega)]
    split
    · rename_i h; simp [h]
    · simp only [size_app, one_size]; omega
theorem ohOf_size (O : Bool) (t : ByteArray) : (ohOf O t).size = t.size + (if O then 2 else 0) := by
  cases O <;> simp only [ohOf, Bool.false_eq_true, if_false, if_true, size_app, one_size] <;> omega

theorem precOf_le (F : Fl) (hF : F.Ok) (neg : Bool) : precOf F neg ≤ F.wid + F.prec := by
  have := hF.wlo; have := hF.plo
  unfold precOf
  repeat' split
  all_goals omega
/-- How many bytes the slice has. -/
def roomOf (F : Fl) : Nat := if (F.hw = true ∨ F.hp = true) ∧ 68 < F.wid + F.prec + 3 then (F.wid + F.prec + 3).toNat else 68
theorem roomOf_ge (F : Fl) (hF : F.Ok) : 68 ≤ roomOf F ∧ roomOf F ≤ 8193 := by
  have := hF.wlo; have := hF.whi; have := hF.plo; have := hF.phi
  unfold roomOf
  split <;> omega
theorem roomOf_prec (F : Fl) (hF : F.Ok) (neg : Bool) : precOf F neg ≤ 65 ∨ precOf F neg + 3 ≤ roomOf F := by
  have := hF.wlo; have := hF.whi; have := hF.plo; have := hF.phi
  have h1 := precOf_le F hF neg
  by_cases h : (F.hw = true ∨ F.hp = true)
  · unfold roomOf
    split
    · right; omega
    · left
      rename_i h2
      have : ¬ 68 < F.wid + F.prec + 3 := fun h3 => h2 ⟨h, h3⟩
      omega
  · left
    have hw : F.hw = false := by cases hx : F.hw; rfl; exact absurd (Or.inl hx) h
    have hp : F.hp = false := by cases hx : F.hp; rfl; exact absurd (Or.inr hx) h
    unfold precOf
    rw [hp, hw]
    simp
theorem int_fits (F : Fl) (hF : F.Ok) (neg : Bool) (b : Nat) (hb : 2 ≤ b) (O U : Bool) (hO : O = true → b = 8) (m : Nat) (hm : (m : Int) ≤ 18446744073709551615) :
    (ohOf O (sharpOf F.sh b U (numOf (precOf F neg) b U m))).size + 1 ≤ roomOf F := by
  obtain ⟨h1, h2⟩ := roomOf_ge F hF
  have h3 := roomOf_prec F hF neg
  have h4 := digB_size b U hb m hm
  have h5 := numOf_size (precOf F neg) b U m
  have h6 := sharpOf_size F.sh b U (numOf (precOf F neg) b U m)
  rw [ohOf_size]
  cases O
  · simp only [Bool.false_eq_true, if_false]
    omega
  · obtain rfl := hO rfl
    have h7 := digB_eight U m hm
    have h8 := sharpOf_size8 F.sh U (numOf (precOf F neg) 8 U m)
    simp only [if_true]
    by_cases h9 : (digB 8 U m).size < (precOf F neg).toNat
    · rw [numOf_head _ _ _ _ h9] at h8
      simp only [if_true] at h8
      omega
    · omega

end Go.Proofs.Ytdadbfehackfjaa
