/- The plain law of FnInteger: what the code writes of an integer is what the documentation says, where it says something. No program in sight. -/
import Derived.Test.YtdadbfehackfjaaSpecInt
set_option linter.unusedVariables false
set_option linter.unusedSimpArgs false
namespace Go.Proofs.Ytdadbfehackfjaa
open Go.RowKit Go.Deep

theorem digB_asc (b : Nat) (U : Bool) (hb : 2 ≤ b) (hb1 : b ≤ 16) : ∀ k n, n ≤ k → Asc (digB b U n)
  | 0, n, h => by
    rw [digB_small b U n (by omega)]
    exact Asc.one (hexd_asc U n (by omega))
  | k + 1, n, h => by
    by_cases hn : n < b
    · rw [digB_small b U n hn]
      exact Asc.one (hexd_asc U n (by omega))
    · rw [digB_step b U n hb hn]
      have hd : n / b < n := Nat.div_lt_self (by omega) (by omega)
      exact Asc.app (digB_asc b U hb hb1 k (n / b) (by omega)) (Asc.one (hexd_asc U _ (by have := Nat.mod_lt n (show 0 < b by omega); omega)))
theorem digB_asc' (b : Nat) (U : Bool) (hb : 2 ≤ b) (hb1 : b ≤ 16) (n : Nat) : Asc (digB b U n) := digB_asc b U hb hb1 n n (Nat.le_refl _)

theorem get_app_left (a t : ByteArray) (j : Nat) (h : j < a.size) : (a ++ t).get! j = a.get! j := by
  rw [get_of_lt _ j (by rw [size_app]; omega), get_of_lt a j h, ByteArray.getElem_append_left h]
theorem get_one (c : UInt8) : (one c).get! 0 = c := rfl
theorem hexd_ne (U : Bool) (d : Nat) (h : d < 16) (h0 : d ≠ 0) : hexd U d ≠ 48 := by
  have : ∀ (U : Bool) (d : Fin 16), d.val ≠ 0 → hexd U d.val ≠ 48 := by decide
  exact this U ⟨d, h⟩ h0
theorem digB_head (b : Nat) (U : Bool) (hb : 2 ≤ b) (hb1 : b ≤ 16) : ∀ k n, n ≤ k → n ≠ 0 → (digB b U n).get! 0 ≠ 48
  | 0, n, h, h0 => by omega
  | k + 1, n, h, h0 => by
    by_cases hn : n < b
    · rw [digB_small b U n hn, get_one]
      exact hexd_ne U n (by omega) h0
    · rw [digB_step b U n hb hn]
      have hd : n / b < n := Nat.div_lt_self (by omega) (by omega)
      have hp := digB_pos b U hb (n / b)
      rw [get_app_left _ _ 0 (by omega)]
      exact digB_head b U hb hb1 k (n / b) (by omega) (by have := Nat.div_pos (show b ≤ n by omega) (show 0 < b by omega); omega)

theorem signOf_app (F : Fl) (ng : Bool) (t : ByteArray) : signOf F ng t = signOf F ng ⟨#[]⟩ ++ t := by
  unfold signOf
  repeat' split
  all_goals first | rw [app_assoc, nil_app] | rw [nil_app]
theorem signOf_size (F : Fl) (ng : Bool) : (signOf F ng ⟨#[]⟩).size = if ng || F.pl || F.sp then 1 else 0 := by
  unfold signOf
  cases ng <;> cases F.pl <;> cases F.sp <;> rfl
theorem signOf_asc (F : Fl) (ng : Bool) : Asc (signOf F ng ⟨#[]⟩) := by
  unfold signOf
  repeat' split
  all_goals first | exact Asc.app (Asc.one (by decide)) Asc.nil | exact Asc.nil

/-- The flag zero of no weight. -/
theorem padOf_ze (F : Fl) (t : ByteArray) (h : zerOf F = false) : padOf { F with ze := false } t = padOf F t := by
  unfold zerOf at h
  unfold padOf
  simp only
  cases hw : F.hw
  · simp
  · cases hm : F.mi
    · rw [hw, hm] at h
      simp at h
      rw [h]
    · simp

theorem magOf_zero (sg : Bool) (u : Nat) (hu : (u : Int) ≤ 18446744073709551615) : magOf sg u = 0 ↔ u = 0 := by
  unfold magOf
  split
  · rename_i h
    unfold negOf at h
    simp only [Bool.and_eq_true, decide_eq_true_eq] at h
    omega
  · exact Iff.rfl

theorem head_law (sh : Bool) (b : Nat) (O U : Bool) (m : Nat) (hb : b = 2 ∨ b = 8 ∨ b = 10 ∨ b = 16) (hs : sh = true → O = false ∧ ¬ (b = 8 ∧ m = 0)) :
    ohOf O (sharpOf sh b U (digB b U m)) = headOf sh b O U ++ digB b U m := by
  cases O
  · cases sh
    · exact (nil_app _).symm
    · have h2 := (hs rfl).2
      rcases hb with rfl | rfl | rfl | rfl
      · show one 48 ++ (one 98 ++ _) = _
        rw [← app_assoc]; rfl
      · have h3 := digB_head 8 U (by omega) (by omega) m m (Nat.le_refl _) (fun h => h2 ⟨rfl, h⟩)
        unfold ohOf sharpOf headOf
        simp only [Bool.false_eq_true, if_false, if_true]
        rw [if_neg (by decide), if_neg h3]
        rfl
      · exact (nil_app _).symm
      · cases U
        · show one 48 ++ (one 120 ++ _) = _
          rw [← app_assoc]; rfl
        · show one 48 ++ (one 88 ++ _) = _
          rw [← app_assoc]; rfl
  · cases sh
    · show one 48 ++ (one 111 ++ _) = _
      rw [← app_assoc]; rfl
    · exact absurd (hs rfl).1 (by decide)

theorem int_law_pad (F : Fl) (hF : F.Ok) (sg : Bool) (u b : Nat) (O U : Bool) (hu : (u : Int) ≤ 18446744073709551615) (hb : b = 2 ∨ b = 8 ∨ b = 10 ∨ b = 16) (ho : opnOf F b u O = false) (hz : zerOf F = false) :
    outOf F sg u b O U = padOf F (signOf F (negOf sg u) ⟨#[]⟩ ++ headOf F.sh b O U ++ digB b U (magOf sg u)) := by
  unfold opnOf at ho
  simp only [Bool.or_eq_false_iff] at ho
  obtain ⟨⟨hp, _⟩, hs⟩ := ho
  have hs' : F.sh = true → O = false ∧ ¬ (b = 8 ∧ magOf sg u = 0) := by
    intro h
    rw [h] at hs
    simp only [Bool.true_and, Bool.or_eq_false_iff] at hs
    refine ⟨hs.1, fun ⟨h1, h2⟩ => ?_⟩
    rw [magOf_zero sg u hu] at h2
    rw [h1, h2] at hs
    exact absurd hs.2 (by decide)
  unfold outOf
  rw [if_neg (fun h => by rw [hp] at h; exact absurd h.1 (by decide)), padOf_ze F _ hz, intText, signOf_app, app_assoc]
  have hP : precOf F (negOf sg u) = 0 := by
    unfold precOf
    unfold zerOf at hz
    rw [hp, hz]; rfl
  have hN : numOf (precOf F (negOf sg u)) b U (magOf sg u) = digB b U (magOf sg u) := by
    rw [hP]
    unfold numOf
    rw [show (0 : Int).toNat - (digB b U (magOf sg u)).size = 0 by omega, fill_zero, nil_app]
  rw [hN, head_law F.sh b O U _ hb hs']

theorem int_law_zero (F : Fl) (hF : F.Ok) (sg : Bool) (u b : Nat) (O U : Bool) (hb : b = 2 ∨ b = 8 ∨ b = 10 ∨ b = 16) (hp : F.hp = false) (hz : zerOf F = true) (hh : headOf F.sh b O U = ⟨#[]⟩) :
    outOf F sg u b O U = signOf F (negOf sg u) ⟨#[]⟩ ++ fill 48 (F.wid - (signOf F (negOf sg u) ⟨#[]⟩).size - (digB b U (magOf sg u)).size).toNat ++ digB b U (magOf sg u) := by
  have hsz := signOf_size F (negOf sg u)
  have hO : O = false := by
    cases O
    · rfl
    · exact absurd (show (⟨#[48, 111]⟩ : ByteArray) = ⟨#[]⟩ from hh) (by decide)
  subst hO
  have hsh : ∀ t, sharpOf F.sh b U t = t := by
    intro t
    cases hs : F.sh
    · rfl
    · rw [hs] at hh
      rcases hb with rfl | rfl | rfl | rfl
      · exact absurd (show (⟨#[48, 98]⟩ : ByteArray) = ⟨#[]⟩ from hh) (by decide)
      · exact absurd (show (⟨#[48]⟩ : ByteArray) = ⟨#[]⟩ from hh) (by decide)
      · rfl
      · cases U
        · exact absurd (show (⟨#[48, 120]⟩ : ByteArray) = ⟨#[]⟩ from hh) (by decide)
        · exact absurd (show (⟨#[48, 88]⟩ : ByteArray) = ⟨#[]⟩ from hh) (by decide)
  unfold outOf
  rw [if_neg (fun h => by rw [hp] at h; exact absurd h.1 (by decide)), intText, signOf_app, hsh]
  have hP : precOf F (negOf sg u) = F.wid - (signOf F (negOf sg u) ⟨#[]⟩).size := by
    unfold precOf
    unfold zerOf at hz
    rw [hp, hz, hsz]
    simp only [Bool.false_eq_true, if_false, if_true]
    split <;> simp
  rw [hP]
  obtain ⟨S, hS⟩ : ∃ S, signOf F (negOf sg u) ⟨#[]⟩ = S := ⟨_, rfl⟩
  have hSa : Asc S := by rw [← hS]; exact signOf_asc F (negOf sg u)
  have hDa : Asc (digB b U (magOf sg u)) := digB_asc' b U (by omega) (by omega) _
  rw [hS]
  unfold numOf
  generalize digB b U (magOf sg u) = D at *
  rw [show (F.wid - (S.size : Int)).toNat - D.size = (F.wid - S.size - D.size).toNat by omega]
  show padOf { F with ze := false } (S ++ (fill 48 (F.wid - S.size - D.size).toNat ++ D)) = _
  have hT : Asc (S ++ (fill 48 (F.wid - S.size - D.size).toNat ++ D)) := hSa.app ((Asc.fill 48 _ (by decide)).app hDa)
  have hTs : (S ++ (fill 48 (F.wid - S.size - D.size).toNat ++ D)).size = S.size + ((F.wid - S.size - D.size).toNat + D.size) := by
    rw [size_app, size_app, fill_size]
  unfold zerOf at hz
  simp only [Bool.and_eq_true, Bool.not_eq_true'] at hz
  rw [padOf_left { F with ze := false } _ hz.2 hz.1.2, hT.runes, hTs, app_assoc]
  rw [show (F.wid - ((S.size + ((F.wid - (S.size : Int) - (D.size : Int)).toNat + D.size) : Nat) : Int)).toNat = 0 by omega, fill_zero, nil_app]

end Go.Proofs.Ytdadbfehackfjaa
