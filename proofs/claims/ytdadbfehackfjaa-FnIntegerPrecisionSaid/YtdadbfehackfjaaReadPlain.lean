/- The plain law of FnIntegerIsRead: what is written of an integer is spaces, a sign, what stands ahead of the digits, and digits that mean it. No program in sight. -/
import Derived.Test.YtdadbfehackfjaaValue
set_option linter.unusedVariables false
set_option linter.unusedSimpArgs false
namespace Go.Proofs.Ytdadbfehackfjaa
open Go.RowKit Go.Deep

/-- All bytes have a property. -/
def All (p : UInt8 → Prop) (t : ByteArray) : Prop := ∀ x ∈ t.data.toList, p x
theorem All.app {p : UInt8 → Prop} {a b : ByteArray} (ha : All p a) (hb : All p b) : All p (a ++ b) := by
  intro x hx
  rw [ByteArray.data_append, Array.toList_append, List.mem_append] at hx
  rcases hx with hx | hx
  · exact ha x hx
  · exact hb x hx
theorem All.one {p : UInt8 → Prop} {c : UInt8} (h : p c) : All p (Go.Proofs.Ytdadbfehackfjaa.one c) := by
  intro x hx
  simp only [Go.Proofs.Ytdadbfehackfjaa.one, List.mem_singleton] at hx
  rw [hx]; exact h
theorem All.fill {p : UInt8 → Prop} {c : UInt8} (h : p c) (n : Nat) : All p (Go.Proofs.Ytdadbfehackfjaa.fill c n) := by
  intro x hx
  unfold Go.Proofs.Ytdadbfehackfjaa.fill at hx
  simp only [List.toList_toArray] at hx
  rw [List.eq_of_mem_replicate hx]
  exact h
theorem All.at {p : UInt8 → Prop} {t : ByteArray} (h : All p t) (j : Nat) (hj : j < t.size) : p (t.get! j) := by
  rw [get_of_lt t j hj]
  cases t with
  | mk d => exact h _ (by show d[j] ∈ d.toList; simp)
theorem digB_all (p : UInt8 → Prop) (b : Nat) (U : Bool) (hb : 2 ≤ b) (h : ∀ d, d < b → p (hexd U d)) : ∀ k n, n ≤ k → All p (digB b U n)
  | 0, n, hk => by
    rw [digB_small b U n (by omega)]
    exact All.one (h n (by omega))
  | k + 1, n, hk => by
    by_cases hn : n < b
    · rw [digB_small b U n hn]
      exact All.one (h n hn)
    · rw [digB_step b U n hb hn]
      have hd : n / b < n := Nat.div_lt_self (by omega) (by omega)
      exact All.app (digB_all p b U hb h k (n / b) (by omega)) (All.one (h _ (Nat.mod_lt n (by omega))))

/-- Not below the digit 0. -/
def Hi (t : ByteArray) : Prop := All (fun x => 48 ≤ x.toNat) t
theorem hexd_hi (U : Bool) (d : Nat) (h : d < 16) : 48 ≤ (hexd U d).toNat := by
  have : ∀ (U : Bool) (d : Fin 16), 48 ≤ (hexd U d.val).toNat := by decide
  exact this U ⟨d, h⟩
theorem hi_ne {t : ByteArray} (h : Hi t) (j : Nat) (hj : j < t.size) (c : UInt8) (hc : c.toNat < 48) : t.get! j ≠ c := by
  intro e
  have := All.at h j hj
  rw [e] at this
  omega

theorem numAt_app (b : Nat) (a t : ByteArray) : ∀ j, j ≤ a.size → numAt b (a ++ t) j = numAt b a j
  | 0, _ => rfl
  | j + 1, h => by
    rw [numAt, numAt, numAt_app b a t j (by omega), get_app_left a t j (by omega)]
theorem numAt_zeros (b : Nat) (t : ByteArray) (k : Nat) : ∀ j, j ≤ t.size → numAt b (fill 48 k ++ t) (k + j) = numAt b t j
  | 0, _ => by
    rw [Nat.add_zero, numAt_app b _ t k (by rw [fill_size]; exact Nat.le_refl _)]
    have : ∀ i, i ≤ k → numAt b (fill 48 k) i = 0 := by
      intro i
      induction i with
      | zero => intro _; rfl
      | succ i ih =>
        intro hi
        have h48 : (fill 48 k).get! i = 48 := by
          have := All.at (All.fill (p := fun x => x = 48) rfl k) i (by rw [fill_size]; omega)
          exact this
        rw [numAt, ih (by omega), h48, Nat.zero_mul]
        rfl
    rw [this k (Nat.le_refl _)]
    rfl
  | j + 1, h => by
    rw [← Nat.add_assoc, numAt, numAt, numAt_zeros b t k j (by omega)]
    have := get_app_right (fill 48 k) t j (by omega)
    rw [fill_size] at this
    rw [this]
theorem numAt_digB (b : Nat) (U : Bool) (hb : 2 ≤ b) (hb1 : b ≤ 16) : ∀ k n, n ≤ k → numAt b (digB b U n) (digB b U n).size = n
  | 0, n, h => by
    rw [digB_small b U n (by omega), one_size, numAt, numAt, get_one, dv_hexd U n (by omega)]
    omega
  | k + 1, n, h => by
    by_cases hn : n < b
    · rw [digB_small b U n hn, one_size, numAt, numAt, get_one, dv_hexd U n (by omega)]
      omega
    · rw [digB_step b U n hb hn, size_app, one_size, numAt, numAt_app b _ _ _ (Nat.le_refl _)]
      have hd : n / b < n := Nat.div_lt_self (by omega) (by omega)
      have hm := Nat.mod_lt n (show 0 < b by omega)
      have := get_app_right (digB b U (n / b)) (one (hexd U (n % b))) 0 (by rw [one_size]; omega)
      rw [Nat.add_zero] at this
      rw [this, get_one, dv_hexd U _ (by omega), numAt_digB b U hb hb1 k (n / b) (by omega)]
      exact Nat.div_add_mod' n b

/-- What the digits of a number are good for, noughts ahead of them. -/
theorem digits_read (b : Nat) (U : Bool) (hb : 2 ≤ b) (hb1 : b ≤ 16) (k m : Nat) :
    0 < (fill 48 k ++ digB b U m).size ∧ (∀ i, i < (fill 48 k ++ digB b U m).size → dv ((fill 48 k ++ digB b U m).get! i) < b) ∧ numAt b (fill 48 k ++ digB b U m) (fill 48 k ++ digB b U m).size = m ∧ Hi (fill 48 k ++ digB b U m) := by
  refine ⟨?_, ?_, ?_, ?_⟩
  · have := digB_pos b U hb m
    rw [size_app]; omega
  · intro i hi
    exact All.at (p := fun x => dv x < b) (All.app (All.fill (by show 0 < b; omega) k) (digB_all _ b U hb (fun d hd => by rw [dv_hexd U d (by omega)]; exact hd) m m (Nat.le_refl _))) i hi
  · rw [size_app, fill_size, numAt_zeros b _ k _ (Nat.le_refl _)]
    exact numAt_digB b U hb hb1 m m (Nat.le_refl _)
  · exact All.app (All.fill (by decide) k) (digB_all _ b U hb (fun d hd => hexd_hi U d (by omega)) m m (Nat.le_refl _))

theorem ahead_none (T : ByteArray) (b : Nat) (O : Bool) (hO : O = false) (hd : ∀ i, i < T.size → dv (T.get! i) < b) (h0 : 0 < T.size) : Ahead T T b O := by
  refine .inr ⟨rfl, ?_⟩
  by_cases h1 : T.size = 1
  · exact .inl h1
  · refine .inr (.inr ⟨(fun h => by rw [hO] at h; cases h), ?_, ?_⟩)
    · rintro rfl e
      have := hd 1 (by omega)
      rw [e] at this
      exact absurd this (by decide)
    · rintro rfl
      refine ⟨fun e => ?_, fun e => ?_⟩
      · have := hd 1 (by omega)
        rw [e] at this
        exact absurd this (by decide)
      · have := hd 1 (by omega)
        rw [e] at this
        exact absurd this (by decide)

theorem numOf_form (P : Int) (b : Nat) (U : Bool) (m : Nat) : ∃ k, numOf P b U m = fill 48 k ++ digB b U m := ⟨_, rfl⟩
theorem sharp8_form (sh : Bool) (U : Bool) (k m : Nat) : ∃ k', sharpOf sh 8 U (fill 48 k ++ digB 8 U m) = fill 48 k' ++ digB 8 U m := by
  unfold sharpOf
  cases sh
  · exact ⟨k, rfl⟩
  · simp only [if_true]
    rw [if_neg (by decide)]
    split
    · exact ⟨k, rfl⟩
    · exact ⟨k + 1, by rw [fill_succ, app_assoc]⟩

/-- What stands behind the sign. -/
theorem body_read (sh : Bool) (b : Nat) (hb : b = 2 ∨ b = 8 ∨ b = 10 ∨ b = 16) (O U : Bool) (hO : O = true → b = 8) (P : Int) (m : Nat) :
    ∃ T, Ahead (ohOf O (sharpOf sh b U (numOf P b U m))) T b O ∧ 0 < T.size ∧ (∀ i, i < T.size → dv (T.get! i) < b) ∧ numAt b T T.size = m ∧ Hi (ohOf O (sharpOf sh b U (numOf P b U m))) ∧ (numOf P b U m).size ≤ T.size := by
  obtain ⟨k, hk⟩ := numOf_form P b U m
  rw [hk]
  cases O
  · cases sh
    · obtain ⟨h1, h2, h3, h4⟩ := digits_read b U (by omega) (by omega) k m
      exact ⟨_, ahead_none _ b false rfl h2 h1, h1, h2, h3, h4, Nat.le_refl _⟩
    · rcases hb with rfl | rfl | rfl | rfl
      · obtain ⟨h1, h2, h3, h4⟩ := digits_read 2 U (by omega) (by omega) k m
        exact ⟨_, .inl ⟨98, rfl, .inr (.inl ⟨rfl, rfl, rfl⟩)⟩, h1, h2, h3, All.app (All.one (by decide)) (All.app (All.one (by decide)) h4), Nat.le_refl _⟩
      · obtain ⟨k', hk'⟩ := sharp8_form true U k m
        obtain ⟨h1, h2, h3, h4⟩ := digits_read 8 U (by omega) (by omega) k' m
        have hs := sharpOf_ge true 8 U (fill 48 k ++ digB 8 U m)
        rw [hk'] at hs
        refine ⟨fill 48 k' ++ digB 8 U m, ?_, h1, h2, h3, ?_, hs⟩
        · show Ahead (sharpOf true 8 U _) _ _ _
          rw [hk']
          exact ahead_none _ 8 false rfl h2 h1
        · show Hi (sharpOf true 8 U _)
          rw [hk']; exact h4
      · obtain ⟨h1, h2, h3, h4⟩ := digits_read 10 U (by omega) (by omega) k m
        exact ⟨_, ahead_none _ 10 false rfl h2 h1, h1, h2, h3, h4, Nat.le_refl _⟩
      · obtain ⟨h1, h2, h3, h4⟩ := digits_read 16 U (by omega) (by omega) k m
        refine ⟨_, .inl ⟨if U then 88 else 120, rfl, .inr (.inr ⟨rfl, rfl, ?_⟩)⟩, h1, h2, h3, All.app (All.one (by decide)) (All.app (All.one (by cases U <;> decide)) h4), Nat.le_refl _⟩
        cases U
        · exact .inl rfl
        · exact .inr rfl
  · obtain rfl := hO rfl
    obtain ⟨k', hk'⟩ := sharp8_form sh U k m
    obtain ⟨h1, h2, h3, h4⟩ := digits_read 8 U (by omega) (by omega) k' m
    have hs := sharpOf_ge sh 8 U (fill 48 k ++ digB 8 U m)
    rw [hk'] at hs ⊢
    exact ⟨_, .inl ⟨111, rfl, .inl ⟨rfl, rfl⟩⟩, h1, h2, h3, All.app (All.one (by decide)) (All.app (All.one (by decide)) h4), hs⟩

/-- The spaces around a text that has been filled up with spaces. -/
theorem padOf_sp (F : Fl) (t : ByteArray) (hz : F.ze = false) : ∃ a c, padOf F t = fill 32 a ++ (t ++ fill 32 c) := by
  cases hw : F.hw
  · exact ⟨0, 0, by rw [padOf_none F t hw, fill_zero, nil_app, app_nil]⟩
  · cases hm : F.mi
    · exact ⟨(F.wid - Lib.runeCount t).toNat, 0, by rw [padOf_left F t hw hm, hz, hm, fill_zero, app_nil]; rfl⟩
    · exact ⟨0, (F.wid - Lib.runeCount t).toNat, by rw [padOf_right F t hw hm, hz, hm, fill_zero, nil_app]; rfl⟩

theorem sign_read (F : Fl) (ng : Bool) (W : ByteArray) (hW : Hi W) (h0 : 0 < W.size) :
    ∃ a X, signOf F ng W = fill 32 a ++ X ∧ Signed X W ng ∧ X.get! 0 ≠ 32 ∧ X.get! (X.size - 1) ≠ 32 := by
  have k1 := hi_ne hW 0 h0 45 (by decide)
  have k2 := hi_ne hW 0 h0 43 (by decide)
  have k3 := hi_ne hW 0 h0 32 (by decide)
  have k4 := hi_ne hW (W.size - 1) (by omega) 32 (by decide)
  have k5 : ∀ c : UInt8, c ≠ 32 → (one c ++ W).get! 0 ≠ 32 ∧ (one c ++ W).get! ((one c ++ W).size - 1) ≠ 32 := by
    intro c hc
    refine ⟨?_, ?_⟩
    · rw [get_app_left _ _ 0 (by rw [one_size]; omega)]; exact hc
    · have := get_app_right (one c) W (W.size - 1) (by omega)
      rw [one_size] at this
      rw [size_app, one_size, show 1 + W.size - 1 = 1 + (W.size - 1) by omega, this]
      exact k4
  unfold signOf
  cases ng
  · cases F.pl
    · cases F.sp
      · exact ⟨0, W, by rw [fill_zero, nil_app]; rfl, .inl ⟨rfl, rfl, k1, k2⟩, k3, k4⟩
      · exact ⟨1, W, rfl, .inl ⟨rfl, rfl, k1, k2⟩, k3, k4⟩
    · exact ⟨0, one 43 ++ W, by rw [fill_zero, nil_app]; rfl, .inr (.inr ⟨rfl, rfl⟩), k5 43 (by decide)⟩
  · exact ⟨0, one 45 ++ W, by rw [fill_zero, nil_app]; rfl, .inr (.inl ⟨rfl, rfl⟩), k5 45 (by decide)⟩

theorem fill_fill (c : UInt8) (a b : Nat) : fill c a ++ fill c b = fill c (a + b) := by
  apply ByteArray.ext
  apply Array.ext'
  simp [fill, ByteArray.data_append, List.replicate_append_replicate]

/-- What is written of an integer is read as this integer. -/
theorem out_read (F : Fl) (sg : Bool) (u b : Nat) (O U : Bool) (hb : b = 2 ∨ b = 8 ∨ b = 10 ∨ b = 16) (hO : O = true → b = 8) (hn : ¬ (F.hp = true ∧ F.prec = 0 ∧ magOf sg u = 0)) :
    ∃ a c X W T, outOf F sg u b O U = fill 32 a ++ (X ++ fill 32 c) ∧ X.get! 0 ≠ 32 ∧ X.get! (X.size - 1) ≠ 32 ∧ Signed X W (negOf sg u) ∧ Ahead W T b O ∧ 0 < T.size ∧ (∀ i, i < T.size → dv (T.get! i) < b) ∧ numAt b T T.size = magOf sg u := by
  obtain ⟨T, h1, h2, h3, h4, h5, _⟩ := body_read F.sh b hb O U hO (precOf F (negOf sg u)) (magOf sg u)
  have hW0 : 0 < (ohOf O (sharpOf F.sh b U (numOf (precOf F (negOf sg u)) b U (magOf sg u)))).size := by
    have := ohOf_size O (sharpOf F.sh b U (numOf (precOf F (negOf sg u)) b U (magOf sg u)))
    have := sharpOf_ge F.sh b U (numOf (precOf F (negOf sg u)) b U (magOf sg u))
    have := numOf_size (precOf F (negOf sg u)) b U (magOf sg u)
    have := digB_pos b U (by omega) (magOf sg u)
    omega
  obtain ⟨a, X, k1, k2, k3, k4⟩ := sign_read F (negOf sg u) _ h5 hW0
  obtain ⟨a', c, k5⟩ := padOf_sp { F with ze := false } (intText F sg u b O U) rfl
  refine ⟨a' + a, c, X, _, T, ?_, k3, k4, k2, h1, h2, h3, h4⟩
  unfold outOf
  rw [if_neg hn, k5, intText, k1, ← fill_fill, app_assoc, app_assoc]

theorem intText_asc (F : Fl) (sg : Bool) (u b : Nat) (O U : Bool) (hb : b = 2 ∨ b = 8 ∨ b = 10 ∨ b = 16) : Asc (intText F sg u b O U) := by
  have hD := digB_asc' b U (by omega) (by omega) (magOf sg u)
  have hN : Asc (numOf (precOf F (negOf sg u)) b U (magOf sg u)) := (Asc.fill 48 _ (by decide)).app hD
  have hS : ∀ t, Asc t → Asc (sharpOf F.sh b U t) := by
    intro t ht
    unfold sharpOf
    repeat' split
    all_goals first
      | exact ht
      | exact (Asc.one (by decide)).app ht
      | exact (Asc.one (by decide)).app ((Asc.one (by decide)).app ht)
  have hO : ∀ t, Asc t → Asc (ohOf O t) := by
    intro t ht
    unfold ohOf
    split
    · exact (Asc.one (by decide)).app ((Asc.one (by decide)).app ht)
    · exact ht
  have hG : ∀ t, Asc t → Asc (signOf F (negOf sg u) t) := by
    intro t ht
    unfold signOf
    repeat' split
    all_goals first
      | exact (Asc.one (by decide)).app ht
      | exact ht
  exact hG _ (hO _ (hS _ hN))
theorem padOf_asc' (F : Fl) {t : ByteArray} (h : Asc t) (hz : F.ze = false) : Asc (padOf F t) := by
  obtain ⟨a, c, e⟩ := padOf_sp F t hz
  rw [e]
  exact (Asc.fill 32 a (by decide)).app (h.app (Asc.fill 32 c (by decide)))
theorem padOf_wide (F : Fl) {t : ByteArray} (h : Asc t) (hw : F.hw = true) : F.wid ≤ (padOf F t).size ∧ t.size ≤ (padOf F t).size := by
  cases hm : F.mi
  · rw [padOf_left F t hw hm, size_app, fill_size, h.runes]; omega
  · rw [padOf_right F t hw hm, size_app, fill_size, h.runes]; omega
theorem padOf_ge (F : Fl) (t : ByteArray) : t.size ≤ (padOf F t).size := by
  unfold padOf
  repeat' split
  all_goals (try rw [size_app])
  all_goals omega

/-- It has at least so many code points as the width, and, with a precision, so many bytes. -/
theorem out_wide (F : Fl) (hF : F.Ok) (sg : Bool) (u b : Nat) (O U : Bool) (hu : (u : Int) ≤ 18446744073709551615) (hO : O = true → b = 8) (hb : b = 2 ∨ b = 8 ∨ b = 10 ∨ b = 16) :
    (F.hw = true → F.wid ≤ Lib.runeCount (outOf F sg u b O U)) ∧ (F.hp = true → ¬ (F.prec = 0 ∧ magOf sg u = 0) → F.prec ≤ (outOf F sg u b O U).size) ∧ (outOf F sg u b O U).size ≤ 140737488355328 := by
  have w0 := hF.wlo; have w1 := hF.whi; have p0 := hF.plo; have p1 := hF.phi
  unfold outOf
  split
  · rename_i hn
    refine ⟨fun _ => ?_, fun h1 h2 => absurd ⟨hn.2.1, hn.2.2⟩ h2, ?_⟩
    · rw [(Asc.fill 32 _ (by decide)).runes, fill_size]; omega
    · rw [fill_size]; omega
  · rename_i hn
    have hA := intText_asc F sg u b O U hb
    refine ⟨fun hw => ?_, fun hp h2 => ?_, ?_⟩
    · rw [(padOf_asc' { F with ze := false } hA rfl).runes]
      exact (padOf_wide { F with ze := false } hA hw).1
    · have h3 := padOf_ge { F with ze := false } (intText F sg u b O U)
      have h8 : precOf F (negOf sg u) = F.prec := by unfold precOf; rw [hp]; rfl
      have h4 : (ohOf O (sharpOf F.sh b U (numOf (precOf F (negOf sg u)) b U (magOf sg u)))).size ≤ (intText F sg u b O U).size := by
        unfold intText
        exact (signOf_ge F (negOf sg u) _).1
      rw [ohOf_size] at h4
      have h6 := sharpOf_ge F.sh b U (numOf (precOf F (negOf sg u)) b U (magOf sg u))
      have h7 := numOf_size (precOf F (negOf sg u)) b U (magOf sg u)
      rw [h8] at h4 h6 h7
      omega
    · have h1 := int_fits F hF (negOf sg u) b (by omega) O U hO (magOf sg u) (magOf_le sg u hu)
      have h2 := (roomOf_ge F hF).2
      have h3 : (intText F sg u b O U).size ≤ (ohOf O (sharpOf F.sh b U (numOf (precOf F (negOf sg u)) b U (magOf sg u)))).size + 1 := by
        unfold intText
        exact (signOf_ge F (negOf sg u) _).2
      have h4 := padOf_size { F with ze := false } (intText F sg u b O U) w1
      omega

end Go.Proofs.Ytdadbfehackfjaa
