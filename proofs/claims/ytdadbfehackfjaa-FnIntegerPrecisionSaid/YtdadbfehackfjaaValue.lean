/- The walks of spec.hex and spec.Value, the latter of a text that is an integer: spaces, a sign, what stands ahead of the digits, digits whose number is below 2^64. -/
import Derived.Test.YtdadbfehackfjaaIntPlain
import Derived.Deep.DeepCutAuto
import Derived.Deep.CutBlock
set_option linter.unusedVariables false
set_option linter.unusedSimpArgs false
namespace Go.Proofs.Ytdadbfehackfjaa
open Go.RowKit Go.Deep

/-- The value of a digit. -/
def dv (c : UInt8) : Nat := if 48 ≤ c.toNat ∧ c.toNat ≤ 57 then c.toNat - 48 else if 97 ≤ c.toNat ∧ c.toNat ≤ 102 then c.toNat - 87 else if 65 ≤ c.toNat ∧ c.toNat ≤ 70 then c.toNat - 55 else 99
theorem dv_hexd (U : Bool) (d : Nat) (h : d < 16) : dv (hexd U d) = d := by
  have : ∀ (U : Bool) (d : Fin 16), dv (hexd U d.val) = d.val := by decide
  exact this U ⟨d, h⟩

set_option maxHeartbeats 1000000 in
set_option maxRecDepth 100000 in
/-- spec.hex, of a digit. -/
theorem hexv_any (c : UInt8) (hd : dv c < 16) (w : World) :
    Calls Try.prog 44 #[.int .u8 (c.toNat : Int)] w fun e w' => e = .returned (.int .i64 (dv c : Nat)) ∧ w = w' := by
  have hc := c.toNat_lt
  obtain ⟨d, hdd⟩ : ∃ d, dv c = d := ⟨_, rfl⟩
  have e := hdd
  unfold dv at e
  rw [hdd] at hd ⊢
  clear hdd
  obtain ⟨x, hx⟩ : ∃ x, c.toNat = x := ⟨_, rfl⟩
  rw [hx] at hc e ⊢
  clear hx
  by_cases h1 : 48 ≤ x ∧ x ≤ 57
  · rw [if_pos h1] at e
    have a1 : (48 : Int) ≤ (x : Int) := by omega
    have a2 : (x : Int) ≤ 57 := by omega
    have E : Hid ((x : Int) - 48 = (d : Int)) := by show _ = _; omega
    clear e h1
    go_enter Try.func44, Try.ntmps44
    go_wp2
    go_ret
    exact ⟨ret_int E.out, rfl⟩
  · rw [if_neg h1] at e
    by_cases h2 : 97 ≤ x ∧ x ≤ 102
    · rw [if_pos h2] at e
      have a1 : (97 : Int) ≤ (x : Int) := by omega
      have a2 : (x : Int) ≤ 102 := by omega
      have E : Hid ((x : Int) - 97 + 10 = (d : Int)) := by show _ = _; omega
      clear e h1 h2
      go_enter Try.func44, Try.ntmps44
      go_wp2
      go_ret
      exact ⟨ret_int E.out, rfl⟩
    · rw [if_neg h2] at e
      by_cases h3 : 65 ≤ x ∧ x ≤ 70
      · rw [if_pos h3] at e
        have a1 : (65 : Int) ≤ (x : Int) := by omega
        have a2 : (x : Int) ≤ 70 := by omega
        have E : Hid ((x : Int) - 65 + 10 = (d : Int)) := by show _ = _; omega
        clear e h1 h2 h3
        go_enter Try.func44, Try.ntmps44
        go_wp2
        go_ret
        exact ⟨ret_int E.out, rfl⟩
      · rw [if_neg h3] at e
        omega

/-- The number of the first i digits. -/
def numAt (b : Nat) (t : ByteArray) : Nat → Nat
  | 0 => 0
  | i + 1 => numAt b t i * b + dv (t.get! i)
theorem numAt_mono (b : Nat) (hb : 1 ≤ b) (t : ByteArray) : ∀ k i, numAt b t i ≤ numAt b t (i + k)
  | 0, i => Nat.le_refl _
  | k + 1, i => by
    refine Nat.le_trans (numAt_mono b hb t k i) ?_
    show numAt b t (i + k) ≤ numAt b t (i + k) * b + _
    have := Nat.le_mul_of_pos_right (numAt b t (i + k)) (show 0 < b by omega)
    omega

theorem str_ne (s : ByteArray) (h : 0 < s.size) : s.toList.isEmpty = false := by
  rw [ByteArray.toList_eq]
  cases hl : s.data.toList with
  | nil =>
    have : s.data.toList.length = s.size := by rw [Array.length_toList]; rfl
    rw [hl] at this
    simp at this
    omega
  | cons _ _ => rfl
theorem u8_ne {c : UInt8} {k : Nat} (hk : k < 256) (h : c ≠ UInt8.ofNat k) : ((c.toNat : Int) == (k : Int)) = false := by
  have h1 : c.toNat ≠ k := fun e => h (UInt8.toNat_inj.1 (by rw [UInt8.toNat_ofNat']; omega))
  have h2 : (c.toNat : Int) ≠ (k : Int) := by omega
  simpa using h2
def strSz : Value → Nat
  | .string t => t.size
  | _ => 0

/-- How a text without the spaces around it begins: its sign. -/
def Signed (X W : ByteArray) (neg : Bool) : Prop := (X = W ∧ neg = false ∧ W.get! 0 ≠ 45 ∧ W.get! 0 ≠ 43) ∨ (X = one 45 ++ W ∧ neg = true) ∨ (X = one 43 ++ W ∧ neg = false)
/-- What stands ahead of the digits. -/
def Ahead (W T : ByteArray) (b : Nat) (O : Bool) : Prop :=
  (∃ x : UInt8, W = one 48 ++ (one x ++ T) ∧ ((O = true ∧ x = 111) ∨ (O = false ∧ b = 2 ∧ x = 98) ∨ (O = false ∧ b = 16 ∧ (x = 120 ∨ x = 88)))) ∨
  (W = T ∧ (T.size = 1 ∨ T.get! 0 ≠ 48 ∨ ((O = true → T.get! 1 ≠ 111) ∧ (b = 2 → T.get! 1 ≠ 98) ∧ (b = 16 → T.get! 1 ≠ 120 ∧ T.get! 1 ≠ 88))))

theorem one_tail (c : UInt8) (Y : ByteArray) : (one c ++ Y).extract 1 (one c ++ Y).size = Y :=
  ByteArray.extract_append_eq_right rfl (by rw [size_app, one_size])
theorem fill_tail (c : UInt8) (j : Nat) (Y : ByteArray) : (fill c (j + 1) ++ Y).extract 1 (fill c (j + 1) ++ Y).size = fill c j ++ Y := by
  rw [fill_succ, app_assoc]
  exact one_tail c _
theorem fill_snoc (c : UInt8) (j : Nat) : fill c (j + 1) = fill c j ++ one c := by
  apply ByteArray.ext
  apply Array.ext'
  simp [fill, one, ByteArray.data_append, List.replicate_succ']
theorem app_one_head (a : ByteArray) (c : UInt8) : (a ++ one c).extract 0 ((a ++ one c).size - 1) = a :=
  ByteArray.extract_append_eq_left (by rw [size_app, one_size, Nat.add_sub_cancel])
theorem get_app_right (a t : ByteArray) (j : Nat) (h : j < t.size) : (a ++ t).get! (a.size + j) = t.get! j := by
  rw [get_of_lt _ (a.size + j) (by rw [size_app]; omega), get_of_lt t j h, ByteArray.getElem_append_right (by omega)]
  congr 1
  omega

set_option maxHeartbeats 8000000 in
set_option maxRecDepth 100000 in
theorem value_any (a c b n : Nat) (hb : b = 2 ∨ b = 8 ∨ b = 10 ∨ b = 16) (vb : Int) (O : Bool) (hv : (vb == 79) = O) (s X W T : ByteArray) (neg : Bool) (hs : s = fill 32 a ++ (X ++ fill 32 c)) (hsz : s.size ≤ 1099511627776)
    (hX1 : X.get! 0 ≠ 32) (hX2 : X.get! (X.size - 1) ≠ 32) (hXW : Signed X W neg) (hWT : Ahead W T b O) (hT : 0 < T.size) (hdig : ∀ i, i < T.size → dv (T.get! i) < b) (hn : numAt b T T.size = n) (hn1 : (n : Int) ≤ 18446744073709551615) (w : World) :
    Calls Try.prog 29 #[.string s, .int .i64 b, .int .u8 vb] w fun e w' => e = .returned (.tuple #[.bool neg, .int .u64 n, .bool true]) ∧ w = w' := by
  have hWs : 0 < W.size := by
    rcases hWT with ⟨x, rfl, _⟩ | ⟨rfl, _⟩
    · rw [size_app, one_size]; omega
    · exact hT
  have hXs : 0 < X.size := by
    rcases hXW with ⟨rfl, _⟩ | ⟨rfl, _⟩ | ⟨rfl, _⟩
    · exact hWs
    · rw [size_app, one_size]; omega
    · rw [size_app, one_size]; omega
  have hTl : T.size ≤ 1099511627776 := by
    have h1 : T.size ≤ W.size := by
      rcases hWT with ⟨x, rfl, _⟩ | ⟨rfl, _⟩
      · rw [size_app, size_app]; omega
      · exact Nat.le_refl _
    have h2 : W.size ≤ X.size := by
      rcases hXW with ⟨rfl, _⟩ | ⟨rfl, _⟩ | ⟨rfl, _⟩
      · exact Nat.le_refl _
      · rw [size_app]; omega
      · rw [size_app]; omega
    rw [hs, size_app, size_app] at hsz
    omega
  have HS := Lib.hid hs
  have HX1 := Lib.hid hX1
  have HX2 := Lib.hid hX2
  have HXW := Lib.hid hXW
  have HWT := Lib.hid hWT
  have HD := Lib.hid hdig
  have HN := Lib.hid hn
  have HV := Lib.hid hv
  clear hs hX1 hX2 hXW hWT hdig hn hv
  go_enter Try.func29, Try.ntmps29
  go_upto_block 0 with (fail)
  go_cut [0] from 11 to 19 (fun s0 wx => s0 = .string (X ++ fill 32 c) ∧ w = wx)
  case first =>
    go_wp2
    go_loop [0] (fun v0 => ∃ (j : Nat) (t : ByteArray), v0 = .string t ∧ t.size ≤ 1099511627776 ∧ t.size = j + (X ++ fill 32 c).size ∧ Hid (t = fill 32 j ++ (X ++ fill 32 c))) (fun v0 => strSz v0)
    case atStart => exact ⟨a, s, rfl, hsz, by rw [HS.out, size_app, fill_size], HS⟩
    case round =>
      obtain ⟨j, t, rfl, htz, hts, Ht⟩ := hrel
      have hYs : 0 < (X ++ fill 32 c).size := by rw [size_app]; omega
      have ht0 : 0 < t.size := by omega
      have ht0z : (0 : Int) < (t.size : Int) := by omega
      have hne := str_ne t ht0
      by_cases hj : j = 0
      · subst hj
        have e : Hid (t = X ++ fill 32 c) := by show _ = _; rw [Ht.out, fill_zero, nil_app]
        obtain ⟨ch, hch⟩ : ∃ ch, t[0] = ch := ⟨_, rfl⟩
        have hcn : ((ch.toNat : Int) == 32) = false := u8_ne (k := 32) (by decide) (by
          rw [← hch, ← get_of_lt t 0 ht0, e.out, get_app_left X _ 0 hXs]
          exact HX1.out)
        clear hts hYs
        go_wp2
        go_meet
        exact ⟨by rw [e.out], rfl⟩
      · obtain ⟨i, rfl⟩ : ∃ i, j = i + 1 := ⟨j - 1, by omega⟩
        have hch : t[0] = 32 := by
          rw [← get_of_lt t 0 ht0, Ht.out, fill_succ, app_assoc, get_app_left _ _ 0 (by rw [one_size]; omega)]; rfl
        have e : Hid (t.extract 1 t.size = fill 32 i ++ (X ++ fill 32 c)) := by show _ = _; rw [Ht.out]; exact fill_tail 32 i _
        have hez : Hid ((t.extract 1 t.size).size = i + (X ++ fill 32 c).size) := by show _ = _; rw [e.out, size_app, fill_size]
        have Hts := Lib.hid hts
        clear hj hts hYs
        go_wp2
        go_round
        case rel => exact ⟨i, _, rfl, by have := hez.out; have := Hts.out; omega, hez.out, e⟩
        case measure => have := hez.out; have := Hts.out; simp only [strSz]; omega
  case rest =>
    obtain ⟨rfl, rfl⟩ := hcut
    have hXc : X.size + c ≤ 1099511627776 := by rw [HS.out, size_app, size_app, fill_size, fill_size] at hsz; omega
    clear HS hsz
    go_upto_block 2 with (fail)
    go_cut [0] from 20 to 34 (fun s0 wx => s0 = .string X ∧ w = wx)
    case first =>
      go_wp2
      go_loop [0] (fun v0 => ∃ (j : Nat) (t : ByteArray), v0 = .string t ∧ t.size ≤ 1099511627776 ∧ t.size = X.size + j ∧ Hid (t = X ++ fill 32 j)) (fun v0 => strSz v0)
      case atStart => exact ⟨c, _, rfl, by rw [size_app, fill_size]; exact hXc, by rw [size_app, fill_size], rfl⟩
      case round =>
        obtain ⟨j, t, rfl, htz, hts, Ht⟩ := hrel
        have ht0 : 0 < t.size := by omega
        have hl1 : t.size - 1 < t.size := by omega
        have hl0 : (0 : Int) ≤ (t.size : Int) - 1 := by omega
        have hl2 : (t.size : Int) - 1 < (t.size : Int) := by omega
        have hne := str_ne t ht0
        by_cases hj : j = 0
        · subst hj
          have e : Hid (t = X) := by show _ = _; rw [Ht.out, fill_zero, app_nil]
          obtain ⟨ch, hch⟩ : ∃ ch, t[t.size - 1] = ch := ⟨_, rfl⟩
          have hcn : ((ch.toNat : Int) == 32) = false := u8_ne (k := 32) (by decide) (by
            rw [← hch, ← get_of_lt t _ hl1, e.out]
            exact HX2.out)
          clear hts
          go_wp2
          go_meet
          exact ⟨by rw [e.out], rfl⟩
        · obtain ⟨i, rfl⟩ : ∃ i, j = i + 1 := ⟨j - 1, by omega⟩
          have e0 : Hid (t = (X ++ fill 32 i) ++ one 32) := by show _ = _; rw [Ht.out, fill_snoc, app_assoc]
          have hch : t[t.size - 1] = 32 := by
            rw [← get_of_lt t _ hl1, e0.out]
            have := get_app_right (X ++ fill 32 i) (one 32) 0 (by rw [one_size]; omega)
            rw [show ((X ++ fill 32 i) ++ one 32).size - 1 = (X ++ fill 32 i).size + 0 by rw [size_app _ (one 32), one_size]; omega, this]
            rfl
          have e : Hid (t.extract 0 (t.size - 1) = X ++ fill 32 i) := by show _ = _; rw [e0.out]; exact app_one_head _ _
          have hez : Hid ((t.extract 0 (t.size - 1)).size = X.size + i) := by show _ = _; rw [e.out, size_app, fill_size]
          have Hts := Lib.hid hts
          clear hj hts
          go_wp2
          go_round
          case rel => exact ⟨i, _, rfl, by have := hez.out; have := Hts.out; omega, hez.out, e⟩
          case measure => have := hez.out; have := Hts.out; simp only [strSz]; omega
    case rest =>
      obtain ⟨rfl, rfl⟩ := hcut
      clear HX1 HX2 hXc
      obtain ⟨d, Hd⟩ : ∃ d : Bool, Hid ((d = false ∧ X = W ∧ neg = false ∧ X.get! 0 ≠ 45 ∧ X.get! 0 ≠ 43) ∨ (d = true ∧ ∃ c, X = one c ++ W ∧ (c = 45 ∧ neg = true ∨ c = 43 ∧ neg = false))) := by
        rcases HXW.out with ⟨h1, h2, h3, h4⟩ | ⟨h1, h2⟩ | ⟨h1, h2⟩
        · exact ⟨false, .inl ⟨rfl, h1, h2, by rw [h1]; exact h3, by rw [h1]; exact h4⟩⟩
        · exact ⟨true, .inr ⟨rfl, 45, h1, .inl ⟨rfl, h2⟩⟩⟩
        · exact ⟨true, .inr ⟨rfl, 43, h1, .inr ⟨rfl, h2⟩⟩⟩
      clear HXW
      have hXsz : (0 : Int) < (X.size : Int) := by omega
      have hXne := str_ne X hXs
      go_upto_region 5 with (fail)
      go_cut [46] from 35 to 46 (fun s46 wx => s46 = .bool d ∧ w = wx)
      case first =>
        obtain ⟨ch, hch⟩ : ∃ ch, X[0] = ch := ⟨_, rfl⟩
        have hg := get_of_lt X 0 hXs
        rw [hch] at hg
        rcases Hd.out with ⟨h1, h6, h7, h2, h3⟩ | ⟨h1, c', h2, h3⟩
        · rw [hg] at h2 h3
          clear h6 h7
          have e1 : ((ch.toNat : Int) == 45) = false := u8_ne (k := 45) (by decide) h2
          have e2 : ((ch.toNat : Int) == 43) = false := u8_ne (k := 43) (by decide) h3
          have E := Lib.hid h1
          clear hg h1 h2 h3
          go_wp2
          go_meet
          exact ⟨by rw [E.out], rfl⟩
        · have h4 : X.get! 0 = c' := by rw [h2, get_app_left _ _ 0 (by rw [one_size]; omega)]; rfl
          rw [hg] at h4
          have E := Lib.hid h1
          clear h1 h2 hg
          rcases h3 with ⟨h3, _⟩ | ⟨h3, _⟩
          · have e1 : ((ch.toNat : Int) == 45) = true := by rw [h4, h3]; rfl
            clear h3 h4
            go_wp2
            go_meet
            exact ⟨by rw [E.out], rfl⟩
          · have e1 : ((ch.toNat : Int) == 45) = false := by rw [h4, h3]; rfl
            have e2 : ((ch.toNat : Int) == 43) = true := by rw [h4, h3]; rfl
            clear h3 h4
            go_wp2
            go_meet
            exact ⟨by rw [E.out], rfl⟩
      case rest =>
        obtain ⟨rfl, rfl⟩ := hcut
        go_upto_if 46 with (fail)
        go_cut [0, 6] from 46 to 51 (fun s0 s6 wx => s0 = .string W ∧ s6 = .bool neg ∧ w = wx)
        case first =>
          cases d
          · have e : Hid (X = W ∧ neg = false) := by
              show _ ∧ _
              rcases Hd.out with ⟨_, h1, h2, _⟩ | ⟨h1, _⟩
              · exact ⟨h1, h2⟩
              · cases h1
            go_wp2
            go_meet
            exact ⟨by rw [e.out.1], by rw [e.out.2], rfl⟩
          · obtain ⟨c', e1, e2⟩ : ∃ c', Hid (X = one c' ++ W) ∧ Hid (c' = 45 ∧ neg = true ∨ c' = 43 ∧ neg = false) := by
              rcases Hd.out with ⟨h1, _⟩ | ⟨_, c', h1, h2⟩
              · cases h1
              · exact ⟨c', h1, h2⟩
            have e3 : Hid (X.extract 1 X.size = W) := by show _ = _; rw [e1.out]; exact one_tail c' W
            have hg := get_of_lt X 0 hXs
            have h4 : X[0] = c' := by rw [← hg, e1.out, get_app_left _ _ 0 (by rw [one_size]; omega)]; rfl
            clear hg
            rcases e2.out with ⟨h5, h6⟩ | ⟨h5, h6⟩
            · have e4 : ((c'.toNat : Int) == 45) = true := by rw [h5]; rfl
              have E := Lib.hid h6
              clear h5 h6
              go_wp2
              go_meet
              exact ⟨by rw [e3.out], by rw [E.out], rfl⟩
            · have e4 : ((c'.toNat : Int) == 45) = false := by rw [h5]; rfl
              have E := Lib.hid h6
              clear h5 h6
              go_wp2
              go_meet
              exact ⟨by rw [e3.out], by rw [E.out], rfl⟩
        case rest =>
          obtain ⟨rfl, rfl, rfl⟩ := hcut
          clear Hd hXsz hXne hXs
          obtain ⟨pre, Hpre⟩ : ∃ pre : Bool, Hid ((pre = true ∧ ∃ x : UInt8, W = one 48 ++ (one x ++ T) ∧ ((O = true ∧ x = 111) ∨ (O = false ∧ b = 2 ∧ x = 98) ∨ (O = false ∧ b = 16 ∧ (x = 120 ∨ x = 88)))) ∨
              (pre = false ∧ W = T ∧ (T.size = 1 ∨ T.get! 0 ≠ 48 ∨ ((O = true → T.get! 1 ≠ 111) ∧ (b = 2 → T.get! 1 ≠ 98) ∧ (b = 16 → T.get! 1 ≠ 120 ∧ T.get! 1 ≠ 88))))) := by
            rcases HWT.out with h | h
            · exact ⟨true, .inl ⟨rfl, h⟩⟩
            · exact ⟨false, .inr ⟨rfl, h⟩⟩
          clear HWT
          have hWz : (0 : Int) < (W.size : Int) := by omega
          have hv := HV.out
          go_upto_region 8 with (fail)
          go_cut [91] from 52 to 91 (fun s91 wx => s91 = .bool pre ∧ w = wx)
          case first =>
            rcases Hpre.out with ⟨h1, x, h2, h3⟩ | ⟨h1, h2, h3⟩
            · have E := Lib.hid h1
              have hW2 : 1 < W.size := by rw [h2, size_app, size_app, one_size, one_size]; omega
              have hW2z : (1 : Int) < (W.size : Int) := by omega
              have g0 : W[0]'hWs = 48 := by rw [← get_of_lt W 0 hWs, h2, get_app_left _ _ 0 (by rw [one_size]; omega)]; rfl
              have g1 : W[1]'hW2 = x := by
                rw [← get_of_lt W 1 hW2, h2]
                have := get_app_right (one 48) (one x ++ T) 0 (by rw [size_app, one_size]; omega)
                rw [one_size] at this
                rw [this, get_app_left _ _ 0 (by rw [one_size]; omega)]; rfl
              clear h1 h2
              rcases h3 with ⟨rfl, rfl⟩ | ⟨rfl, rfl, rfl⟩ | ⟨rfl, rfl, rfl | rfl⟩
              all_goals (
                go_wp2
                go_meet
                exact ⟨by rw [E.out], rfl⟩)
            · have E := Lib.hid h1
              subst h2
              have hg0 := get_of_lt W 0 hWs
              obtain ⟨c0, hc0⟩ : ∃ c0, W[0]'hWs = c0 := ⟨_, rfl⟩
              rw [hc0] at hg0
              clear h1
              by_cases h4 : W.size = 1
              · have h4z : ¬ (1 : Int) < (W.size : Int) := by omega
                clear h3 h4 hg0
                go_wp2
                go_meet
                exact ⟨by rw [E.out], rfl⟩
              · have hW2 : 1 < W.size := by omega
                have hW2z : (1 : Int) < (W.size : Int) := by omega
                by_cases h5 : c0 = 48
                · have h5b : ((c0.toNat : Int) == 48) = true := by rw [h5]; rfl
                  have h6 : (O = true → W.get! 1 ≠ 111) ∧ (b = 2 → W.get! 1 ≠ 98) ∧ (b = 16 → W.get! 1 ≠ 120 ∧ W.get! 1 ≠ 88) := by
                    rcases h3 with h3 | h3 | h3
                    · exact absurd h3 h4
                    · rw [hg0] at h3; exact absurd h5 h3
                    · exact h3
                  rw [get_of_lt W 1 hW2] at h6
                  obtain ⟨c1, hc1⟩ : ∃ c1, W[1]'hW2 = c1 := ⟨_, rfl⟩
                  rw [hc1] at h6
                  clear h3 h4 h5 hg0
                  cases O
                  · rcases hb with rfl | rfl | rfl | rfl
                    · have e1 : ((c1.toNat : Int) == 98) = false := u8_ne (k := 98) (by decide) (h6.2.1 rfl)
                      clear h6
                      go_wp2
                      go_meet
                      exact ⟨by rw [E.out], rfl⟩
                    · clear h6
                      go_wp2
                      go_meet
                      exact ⟨by rw [E.out], rfl⟩
                    · clear h6
                      go_wp2
                      go_meet
                      exact ⟨by rw [E.out], rfl⟩
                    · have e1 : ((c1.toNat : Int) == 120) = false := u8_ne (k := 120) (by decide) (h6.2.2 rfl).1
                      have e2 : ((c1.toNat : Int) == 88) = false := u8_ne (k := 88) (by decide) (h6.2.2 rfl).2
                      clear h6
                      go_wp2
                      go_meet
                      exact ⟨by rw [E.out], rfl⟩
                  · have e0 : ((c1.toNat : Int) == 111) = false := u8_ne (k := 111) (by decide) (h6.1 rfl)
                    rcases hb with rfl | rfl | rfl | rfl
                    · have e1 : ((c1.toNat : Int) == 98) = false := u8_ne (k := 98) (by decide) (h6.2.1 rfl)
                      clear h6
                      go_wp2
                      go_meet
                      exact ⟨by rw [E.out], rfl⟩
                    · clear h6
                      go_wp2
                      go_meet
                      exact ⟨by rw [E.out], rfl⟩
                    · clear h6
                      go_wp2
                      go_meet
                      exact ⟨by rw [E.out], rfl⟩
                    · have e1 : ((c1.toNat : Int) == 120) = false := u8_ne (k := 120) (by decide) (h6.2.2 rfl).1
                      have e2 : ((c1.toNat : Int) == 88) = false := u8_ne (k := 88) (by decide) (h6.2.2 rfl).2
                      clear h6
                      go_wp2
                      go_meet
                      exact ⟨by rw [E.out], rfl⟩
                · have h5b : ((c0.toNat : Int) == 48) = false := u8_ne (k := 48) (by decide) h5
                  clear h3 h4 h5 hg0
                  go_wp2
                  go_meet
                  exact ⟨by rw [E.out], rfl⟩
          case rest =>
            obtain ⟨rfl, rfl⟩ := hcut
            clear hv HV
            go_upto_if 91 with (fail)
            go_cut [0] from 91 to 93 (fun s0 wx => s0 = .string T ∧ w = wx)
            case first =>
              cases pre
              · have e : Hid (W = T) := by
                  show _ = _
                  rcases Hpre.out with ⟨h1, _⟩ | ⟨_, h2, _⟩
                  · cases h1
                  · exact h2
                go_wp2
                go_meet
                exact ⟨by rw [e.out], rfl⟩
              · obtain ⟨x, e⟩ : ∃ x, Hid (W = one 48 ++ (one x ++ T)) := by
                  rcases Hpre.out with ⟨_, x, h2, _⟩ | ⟨h1, _⟩
                  · exact ⟨x, h2⟩
                  · cases h1
                have hW2 : 2 ≤ W.size := by rw [e.out, size_app, size_app, one_size, one_size]; omega
                have e2 : Hid (W.extract 2 W.size = T) := by
                  show _ = _
                  rw [e.out, ← app_assoc]
                  exact ByteArray.extract_append_eq_right rfl (by rw [size_app _ T])
                go_wp2
                go_meet
                exact ⟨by rw [e2.out], rfl⟩
            case rest =>
              obtain ⟨rfl, rfl⟩ := hcut
              clear Hpre hWz hWs
              have hTne := str_ne T hT
              go_wp2
              go_loop [6, 7, 9, 10, 98] (fun v6 v7 _ _ v98 => ∃ i na : Nat, v6 = .bool neg ∧ v7 = .int .u64 na ∧ v98 = .int .i64 i ∧ i ≤ T.size ∧ (na : Int) ≤ 18446744073709551615 ∧ Hid (numAt b T i = na)) (fun _ _ _ _ v98 => T.size - (intOf v98).toNat)
              case atStart => exact ⟨0, 0, rfl, rfl, rfl, Nat.zero_le _, by decide, rfl⟩
              case round =>
                obtain ⟨i, na, rfl, rfl, rfl, hi, hna, Ha⟩ := hrel
                by_cases hit : i < T.size
                · have hitz : (i : Int) < (T.size : Int) := by omega
                  obtain ⟨c, hc⟩ : ∃ c, T[i] = c := ⟨_, rfl⟩
                  have hg := get_of_lt T i hit
                  rw [hc] at hg
                  have Hit := Lib.hid hit
                  obtain ⟨dd, hdd⟩ : ∃ dd, dv c = dd := ⟨_, rfl⟩
                  have hdb : dd < b := by rw [← hdd, ← hg]; exact HD.out i hit
                  have cH := fun W => hexv_any c (by rw [hdd]; omega) W
                  rw [hdd] at cH
                  have Hdv : Hid (dv (T.get! i) = dd) := by show _ = _; rw [hg, hdd]
                  have hnx : numAt b T (i + 1) ≤ n := by
                    rw [← HN.out]
                    have := numAt_mono b (by omega) T (T.size - (i + 1)) (i + 1)
                    rw [show i + 1 + (T.size - (i + 1)) = T.size by omega] at this
                    exact this
                  rw [numAt, Ha.out, Hdv.out] at hnx
                  obtain ⟨q, hq⟩ : ∃ q : Nat, (18446744073709551615 - dd) / b = q := ⟨_, rfl⟩
                  obtain ⟨pr, hpr⟩ : ∃ pr : Nat, na * b = pr := ⟨_, rfl⟩
                  rw [hpr] at hnx
                  have hdl : dd ≤ 16 := by omega
                  have e1 : (18446744073709551615 - (dd : Int)) / (b : Int) = (q : Int) := by
                    rw [← hq, Int.natCast_ediv]
                    congr 1
                    omega
                  have e2 : (na : Int) * (b : Int) = (pr : Int) := by rw [← hpr]; exact (Int.natCast_mul na b).symm
                  have hnq : na ≤ q := by
                    rcases hb with rfl | rfl | rfl | rfl <;> omega
                  have hnqz : ¬ (q : Int) < (na : Int) := by omega
                  have hql : (q : Int) ≤ 18446744073709551615 := by
                    rcases hb with rfl | rfl | rfl | rfl <;> omega
                  have hprz : (pr : Int) + (dd : Int) ≤ 18446744073709551615 := by omega
                  have hdz : (dd : Int) < (b : Int) := by omega
                  have hbz : ¬ ((b : Int) = 0) := by omega
                  have hbl : (b : Int) ≤ 16 := by omega
                  have hb2 : (2 : Int) ≤ (b : Int) := by omega
                  have Hpr := Lib.hid hpr
                  clear hdd hg hq hpr hnx hb hnq
                  go_wp2_with (go_at_call 44; refine (cH _).mono ?_; rintro e w' ⟨rfl, rfl⟩)
                  go_round
                  case rel => exact ⟨i + 1, pr + dd, rfl, by go_num, by go_num, Hit.out, by omega, by show _ = _; rw [numAt, Ha.out, Hdv.out, Hpr.out]⟩
                  case measure => have := Hit.out; simp [intOf]; omega
                · obtain rfl : i = T.size := by omega
                  have hge : ¬ (T.size : Int) < (T.size : Int) := by omega
                  have e : Hid (na = n) := by show _ = _; rw [← Ha.out, HN.out]
                  go_wp2
                  go_ret3
                  exact ⟨by rw [← e.out]; rfl, rfl⟩

end Go.Proofs.Ytdadbfehackfjaa
