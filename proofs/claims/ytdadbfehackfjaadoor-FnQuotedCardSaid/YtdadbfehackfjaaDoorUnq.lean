/- The walks of spec.Unquote, of a text of pieces between quotes, and of any text without a backquote and a carriage return between backquotes; and of spec.ASCII. Condition: what is read, and what it means, take no more than 2^46 bytes. -/
import Derived.Test.YtdadbfehackfjaaDoorQText
import Derived.Deep.DeepCutAuto
import Derived.Deep.CutBlock
set_option linter.unusedVariables false
set_option linter.unusedSimpArgs false
namespace Go.Proofs.YtdadbfehackfjaaDoor
open Go.RowKit Go.Deep

set_option maxHeartbeats 1000000 in
set_option maxRecDepth 100000 in
/-- spec.ASCII. -/
theorem ascii_any (t : ByteArray) (h : Asc t) (ht : t.size ≤ 140737488355328) (w : World) :
    Calls Tryd.prog 19 #[.string t] w fun e w' => e = .returned (.bool true) ∧ w = w' := by
  have HA := Lib.hid h
  clear h
  go_enter Tryd.func19, Tryd.ntmps19
  go_wp2
  go_loop [2, 3, 6] (fun _ _ v6 => ∃ i : Nat, v6 = .int .i64 i ∧ i ≤ t.size) (fun _ _ v6 => t.size - (intOf v6).toNat)
  case atStart => exact ⟨0, rfl, by omega⟩
  case round =>
    obtain ⟨i, rfl, hi⟩ := hrel
    by_cases hlt : i < t.size
    · have hltz : (i : Int) < (t.size : Int) := by omega
      obtain ⟨c, hc⟩ : ∃ c, t[i]'hlt = c := ⟨_, rfl⟩
      have hcl : ¬ (128 : Int) ≤ (c.toNat : Int) := by
        have := HA.out i hlt
        rw [get_of_lt t i hlt, hc] at this
        omega
      go_wp2
      go_round
      case rel => exact ⟨i + 1, by go_num, by omega⟩
      case measure => simp [intOf]; omega
    · have hge : ¬ (i : Int) < (t.size : Int) := by omega
      go_wp2
      go_ret
      exact ⟨rfl, rfl⟩

/-- What stands between two quotes. -/
theorem quoted_parts (q : UInt8) (t s : ByteArray) (hs : s = one q ++ (t ++ one q)) : s.size = t.size + 2 ∧ s.get! 0 = q ∧ s.get! (s.size - 1) = q ∧ s.extract 1 (s.size - 1) = t := by
  have h1 : s.size = t.size + 2 := by
    rw [hs, size_app, size_app]
    have e : (one q).size = 1 := rfl
    omega
  refine ⟨h1, by rw [hs, get_app_one], ?_, ?_⟩
  · rw [h1, hs]
    have h2 := get_app_right (one q) (t ++ one q) t.size (by rw [size_app, one_size]; omega)
    have h3 := get_app_right t (one q) 0 (by rw [one_size]; omega)
    rw [one_size] at h2
    rw [Nat.add_zero] at h3
    rw [show t.size + 2 - 1 = 1 + t.size by omega, h2, h3]
    rfl
  · rw [h1, hs]
    have h2 := ext_mid (one q) t (one q)
    rw [one_size] at h2
    rw [show t.size + 2 - 1 = 1 + t.size by omega, h2]

set_option maxHeartbeats 8000000 in
set_option maxRecDepth 100000 in
/-- spec.Unquote. -/
theorem unq_dq (t M : ByteArray) (hL : Lit 34 t M) (ht : t.size ≤ 70368744177664) (hM : M.size ≤ 70368744177664) (s : ByteArray) (hs : s = one 34 ++ (t ++ one 34)) (w : World) :
    Calls Tryd.prog 18 #[.string s] w fun e w' => e = .returned (.tuple #[.string M, .bool true]) ∧ Below w.heap.size w w' := by
  obtain ⟨hsz, hg0, hg1, hex⟩ := quoted_parts 34 t s hs
  have h0 : 0 < s.size := by omega
  have hl1 : s.size - 1 < s.size := by omega
  have hl0 : (0 : Int) ≤ (s.size : Int) - 1 := by omega
  have hl2 : (s.size : Int) - 1 < (s.size : Int) := by omega
  have hl3 : (s.size : Int) - 1 ≤ (s.size : Int) := by omega
  have hl4 : (1 : Int) ≤ (s.size : Int) - 1 := by omega
  have hl5 : ¬ (s.size : Int) < 2 := by omega
  have hl6 : (0 : Int) < (s.size : Int) := by omega
  have hsb : (s.size : Int) ≤ 70368744177666 := by omega
  obtain ⟨q, hq⟩ : ∃ q : UInt8, 34 = q := ⟨_, rfl⟩
  have hqz : (q.toNat : Int) = 34 := by rw [← hq]; rfl
  rw [hq] at hg0 hg1
  have hc0 : s[0]'h0 = q := by rw [← hg0, get_of_lt s 0 h0]
  have hc1 : s[s.size - 1]'hl1 = q := by rw [← hg1, get_of_lt s _ hl1]
  have HX := Lib.hid hex
  have HT := Lib.hid ht
  have HL := Lib.hid hL
  have HM := Lib.hid hM
  clear hsz hg0 hg1 hex hs hq hL ht hM
  go_enter Tryd.func18, Tryd.ntmps18
  go_upto_region 1 with (fail)
  go_quiet (fail)
  go_upto_region 3 with (fail)
  go_quiet (fail)
  go_wp2
  go_loopw [2, 3, 5, 6, 7, 8, 9, 10] (fun _ _ v5 v6 _ _ _ _ wr => ∃ t' o m' : ByteArray, v5 = .string t' ∧ v6 = .string o ∧ t'.size ≤ 70368744177664 ∧ Hid (Lit 34 t' m') ∧ Hid (o ++ m' = M) ∧ Hid (Below w.heap.size w wr)) (fun _ _ v5 _ _ _ _ _ _ => strLen v5)
  case atStart => exact ⟨_, _, M, rfl, rfl, by rw [HX.out]; exact HT.out, by rw [HX.out]; exact HL, nil_app M, by show Below _ _ _; first | exact below_drewN (Below.refl _ _) _ | exact Below.refl _ _⟩
  case round =>
    obtain ⟨t', o, m', rfl, rfl, htb, Hl, Ho, HB⟩ := hrel
    by_cases h0t : 0 < t'.size
    · have h0z : (0 : Int) < (t'.size : Int) := by omega
      have hne := str_ne t' h0t
      have hne2 : (t'.size : Int) ≤ 70368744177664 := by omega
      obtain ⟨c, hc⟩ : ∃ c, t'[0]'h0t = c := ⟨_, rfl⟩
      have hg := get_of_lt t' 0 h0t
      rw [hc] at hg
      have hM2 := HM.out
      rcases Hl.out.head (.inl rfl) h0t with ⟨k, m2, hk1, hk2, hw, hn92, hnq, hn10, hm, hl2⟩ | ⟨p, n, m2, hn1, hn2, h92, hesc, hm, hl2⟩
      · rw [hg] at hn92 hnq hn10
        have e92 : ((c.toNat : Int) == 92) = false := by
          have : ¬ (c.toNat : Int) = 92 := by omega
          simpa using this
        have en92 : ¬ (c.toNat : Int) = 92 := by omega
        have eq : ((c.toNat : Int) == 34) = false := by
          have : ¬ (c.toNat : Int) = 34 := by omega
          simpa using this
        have e10 : ((c.toNat : Int) == 10) = false := by
          have : ¬ (c.toNat : Int) = 10 := by omega
          simpa using this
        have enq : ¬ (c.toNat : Int) = 34 := by omega
        have en10 : ¬ (c.toNat : Int) = 10 := by omega
        have cW := fun W => width_any t' W h0t
        rw [hw] at cW
        have ek : ((k : Int) == 0) = false := by
          have : ¬ (k : Int) = 0 := by omega
          simpa using this
        have ekn : ¬ (k : Int) = 0 := by omega
        have hk1z : (0 : Int) ≤ (k : Int) := by omega
        have hk2z : (k : Int) ≤ (t'.size : Int) := by omega
        have ho1 : o.size + (t'.extract 0 k).size ≤ 70368744177664 := by
          rw [← Ho.out, hm, size_app, size_app] at hM2
          omega
        have ho2 : ¬ 9223372036854775807 < o.size + (t'.extract 0 k).size := by omega
        have ho3 : ¬ (9223372036854775807 : Int) < (o.size : Int) + ((t'.extract 0 k).size : Int) := by omega
        have ho4 : o.size + k ≤ 70368744177664 := by
          have : (t'.extract 0 k).size = k := by rw [ByteArray.size_extract]; omega
          omega
        have H2 : Hid (o ++ t'.extract 0 k ++ m2 = M) := by
          show _ = _
          rw [← Ho.out, hm, app_assoc]
        have Hl2 := Lib.hid hl2
        have Hsz : Hid ((t'.extract k t'.size).size < t'.size) := by
          show _ < _
          rw [size_tail]; omega
        clear hn92 hnq hn10 hw hm hl2 hM2 hg hk1 Ho Hl HX HL HT
        go_upto_region 23 with (go_at_call 31; refine (cW _).mono ?_; rintro e w' ⟨rfl, rfl⟩)
        go_quiet (fail)
        go_wp2
        go_roundw
        case rel => exact ⟨_, _, m2, rfl, rfl, by have := Hsz.out; omega, Hl2, H2, below_drewN HB.out _⟩
        case measure => have := Hsz.out; simp only [strLen]; omega
      · rw [hg] at h92
        have e92 : ((c.toNat : Int) == 92) = true := by
          have : (c.toNat : Int) = 92 := by omega
          simpa using this
        have hcz : (c.toNat : Int) = 92 := by omega
        have ek : ((n : Int) == 0) = false := by
          have : ¬ (n : Int) = 0 := by omega
          simpa using this
        have ekn : ¬ (n : Int) = 0 := by omega
        have hn1z : (0 : Int) ≤ (n : Int) := by omega
        have hn2z : (n : Int) ≤ (t'.size : Int) := by omega
        have ho1 : o.size + p.size ≤ 70368744177664 := by
          rw [← Ho.out, hm, size_app, size_app] at hM2
          omega
        have ho2 : ¬ 9223372036854775807 < o.size + p.size := by omega
        have ho3 : ¬ (9223372036854775807 : Int) < (o.size : Int) + (p.size : Int) := by omega
        have H2 : Hid (o ++ p ++ m2 = M) := by
          show _ = _
          rw [← Ho.out, hm, app_assoc]
        have Hl2 := Lib.hid hl2
        have Hsz : Hid ((t'.extract n t'.size).size < t'.size) := by
          show _ < _
          rw [size_tail]; omega
        have cE : ∀ W, Calls Tryd.prog 32 #[.string t', .int .u8 34] W fun e w' => e = .returned (.tuple #[.string p, .int .i64 (n : Nat)]) ∧ Below W.heap.size W w' := hesc
        clear h92 hm hl2 hM2 hg hn1 Ho Hl HX HL HT hesc
        go_upto_region 12 with (go_at_call 32; refine (cE _).mono ?_; rintro e w5 ⟨rfl, hb5⟩; have HB5 := Lib.hid (HB.out.trans (hb5.mono HB.out.size)); clear hb5)
        go_quiet (fail)
        go_wp2
        go_roundw
        case rel => exact ⟨_, _, m2, rfl, rfl, by have := Hsz.out; omega, Hl2, H2, below_drewN HB5.out _⟩
        case measure => have := Hsz.out; simp only [strLen]; omega
    · have hem : t' = ⟨#[]⟩ := empty_of_size t' (by omega)
      have hm0 := Hl.out.none h0t
      have hoM : o = M := by
        have := Ho.out
        rw [hm0, app_nil] at this
        exact this
      have EM := Lib.hid hoM
      subst hem
      clear h0t htb Hl Ho hm0 hoM
      go_wp2
      exact bodyPost_ret (v := .tuple #[.string o, .bool true]) (by simp [results, Tryd.results18, go_sem]) rfl ⟨by rw [EM.out], HB.out⟩

set_option maxHeartbeats 8000000 in
set_option maxRecDepth 100000 in
/-- spec.Unquote. -/
theorem unq_sq (t M : ByteArray) (hL : Lit 39 t M) (ht : t.size ≤ 70368744177664) (hM : M.size ≤ 70368744177664) (hR : Lib.runeCount M = 1) (s : ByteArray) (hs : s = one 39 ++ (t ++ one 39)) (w : World) :
    Calls Tryd.prog 18 #[.string s] w fun e w' => e = .returned (.tuple #[.string M, .bool true]) ∧ Below w.heap.size w w' := by
  obtain ⟨hsz, hg0, hg1, hex⟩ := quoted_parts 39 t s hs
  have h0 : 0 < s.size := by omega
  have hl1 : s.size - 1 < s.size := by omega
  have hl0 : (0 : Int) ≤ (s.size : Int) - 1 := by omega
  have hl2 : (s.size : Int) - 1 < (s.size : Int) := by omega
  have hl3 : (s.size : Int) - 1 ≤ (s.size : Int) := by omega
  have hl4 : (1 : Int) ≤ (s.size : Int) - 1 := by omega
  have hl5 : ¬ (s.size : Int) < 2 := by omega
  have hl6 : (0 : Int) < (s.size : Int) := by omega
  have hsb : (s.size : Int) ≤ 70368744177666 := by omega
  obtain ⟨q, hq⟩ : ∃ q : UInt8, 39 = q := ⟨_, rfl⟩
  have hqz : (q.toNat : Int) = 39 := by rw [← hq]; rfl
  rw [hq] at hg0 hg1
  have hc0 : s[0]'h0 = q := by rw [← hg0, get_of_lt s 0 h0]
  have hc1 : s[s.size - 1]'hl1 = q := by rw [← hg1, get_of_lt s _ hl1]
  have HX := Lib.hid hex
  have HT := Lib.hid ht
  have HL := Lib.hid hL
  have HM := Lib.hid hM
  have HR := Lib.hid hR
  clear hsz hg0 hg1 hex hs hq hL ht hM hR
  go_enter Tryd.func18, Tryd.ntmps18
  go_upto_region 1 with (fail)
  go_quiet (fail)
  go_upto_region 3 with (fail)
  go_quiet (fail)
  go_wp2
  go_loopw [2, 3, 5, 6, 7, 8, 9, 10] (fun _ _ v5 v6 _ _ _ _ wr => ∃ t' o m' : ByteArray, v5 = .string t' ∧ v6 = .string o ∧ t'.size ≤ 70368744177664 ∧ Hid (Lit 39 t' m') ∧ Hid (o ++ m' = M) ∧ Hid (Below w.heap.size w wr)) (fun _ _ v5 _ _ _ _ _ _ => strLen v5)
  case atStart => exact ⟨_, _, M, rfl, rfl, by rw [HX.out]; exact HT.out, by rw [HX.out]; exact HL, nil_app M, by show Below _ _ _; first | exact below_drewN (Below.refl _ _) _ | exact Below.refl _ _⟩
  case round =>
    obtain ⟨t', o, m', rfl, rfl, htb, Hl, Ho, HB⟩ := hrel
    by_cases h0t : 0 < t'.size
    · have h0z : (0 : Int) < (t'.size : Int) := by omega
      have hne := str_ne t' h0t
      have hne2 : (t'.size : Int) ≤ 70368744177664 := by omega
      obtain ⟨c, hc⟩ : ∃ c, t'[0]'h0t = c := ⟨_, rfl⟩
      have hg := get_of_lt t' 0 h0t
      rw [hc] at hg
      have hM2 := HM.out
      rcases Hl.out.head (.inr rfl) h0t with ⟨k, m2, hk1, hk2, hw, hn92, hnq, hn10, hm, hl2⟩ | ⟨p, n, m2, hn1, hn2, h92, hesc, hm, hl2⟩
      · rw [hg] at hn92 hnq hn10
        have e92 : ((c.toNat : Int) == 92) = false := by
          have : ¬ (c.toNat : Int) = 92 := by omega
          simpa using this
        have en92 : ¬ (c.toNat : Int) = 92 := by omega
        have eq : ((c.toNat : Int) == 39) = false := by
          have : ¬ (c.toNat : Int) = 39 := by omega
          simpa using this
        have e10 : ((c.toNat : Int) == 10) = false := by
          have : ¬ (c.toNat : Int) = 10 := by omega
          simpa using this
        have enq : ¬ (c.toNat : Int) = 39 := by omega
        have en10 : ¬ (c.toNat : Int) = 10 := by omega
        have cW := fun W => width_any t' W h0t
        rw [hw] at cW
        have ek : ((k : Int) == 0) = false := by
          have : ¬ (k : Int) = 0 := by omega
          simpa using this
        have ekn : ¬ (k : Int) = 0 := by omega
        have hk1z : (0 : Int) ≤ (k : Int) := by omega
        have hk2z : (k : Int) ≤ (t'.size : Int) := by omega
        have ho1 : o.size + (t'.extract 0 k).size ≤ 70368744177664 := by
          rw [← Ho.out, hm, size_app, size_app] at hM2
          omega
        have ho2 : ¬ 9223372036854775807 < o.size + (t'.extract 0 k).size := by omega
        have ho3 : ¬ (9223372036854775807 : Int) < (o.size : Int) + ((t'.extract 0 k).size : Int) := by omega
        have ho4 : o.size + k ≤ 70368744177664 := by
          have : (t'.extract 0 k).size = k := by rw [ByteArray.size_extract]; omega
          omega
        have H2 : Hid (o ++ t'.extract 0 k ++ m2 = M) := by
          show _ = _
          rw [← Ho.out, hm, app_assoc]
        have Hl2 := Lib.hid hl2
        have Hsz : Hid ((t'.extract k t'.size).size < t'.size) := by
          show _ < _
          rw [size_tail]; omega
        clear hn92 hnq hn10 hw hm hl2 hM2 hg hk1 Ho Hl HX HL HT
        go_upto_region 23 with (go_at_call 31; refine (cW _).mono ?_; rintro e w' ⟨rfl, rfl⟩)
        go_quiet (fail)
        go_wp2
        go_roundw
        case rel => exact ⟨_, _, m2, rfl, rfl, by have := Hsz.out; omega, Hl2, H2, below_drewN HB.out _⟩
        case measure => have := Hsz.out; simp only [strLen]; omega
      · rw [hg] at h92
        have e92 : ((c.toNat : Int) == 92) = true := by
          have : (c.toNat : Int) = 92 := by omega
          simpa using this
        have hcz : (c.toNat : Int) = 92 := by omega
        have ek : ((n : Int) == 0) = false := by
          have : ¬ (n : Int) = 0 := by omega
          simpa using this
        have ekn : ¬ (n : Int) = 0 := by omega
        have hn1z : (0 : Int) ≤ (n : Int) := by omega
        have hn2z : (n : Int) ≤ (t'.size : Int) := by omega
        have ho1 : o.size + p.size ≤ 70368744177664 := by
          rw [← Ho.out, hm, size_app, size_app] at hM2
          omega
        have ho2 : ¬ 9223372036854775807 < o.size + p.size := by omega
        have ho3 : ¬ (9223372036854775807 : Int) < (o.size : Int) + (p.size : Int) := by omega
        have H2 : Hid (o ++ p ++ m2 = M) := by
          show _ = _
          rw [← Ho.out, hm, app_assoc]
        have Hl2 := Lib.hid hl2
        have Hsz : Hid ((t'.extract n t'.size).size < t'.size) := by
          show _ < _
          rw [size_tail]; omega
        have cE : ∀ W, Calls Tryd.prog 32 #[.string t', .int .u8 39] W fun e w' => e = .returned (.tuple #[.string p, .int .i64 (n : Nat)]) ∧ Below W.heap.size W w' := hesc
        clear h92 hm hl2 hM2 hg hn1 Ho Hl HX HL HT hesc
        go_upto_region 12 with (go_at_call 32; refine (cE _).mono ?_; rintro e w5 ⟨rfl, hb5⟩; have HB5 := Lib.hid (HB.out.trans (hb5.mono HB.out.size)); clear hb5)
        go_quiet (fail)
        go_wp2
        go_roundw
        case rel => exact ⟨_, _, m2, rfl, rfl, by have := Hsz.out; omega, Hl2, H2, below_drewN HB5.out _⟩
        case measure => have := Hsz.out; simp only [strLen]; omega
    · have hem : t' = ⟨#[]⟩ := empty_of_size t' (by omega)
      have hm0 := Hl.out.none h0t
      have hoM : o = M := by
        have := Ho.out
        rw [hm0, app_nil] at this
        exact this
      have EM := Lib.hid hoM
      subst hem
      clear h0t htb Hl Ho hm0 hoM
      have cR := fun W => runes_any o W (by rw [EM.out]; have := HM.out; omega)
      rw [show Lib.runeCount o = 1 by rw [EM.out]; exact HR.out] at cR
      go_wp2_with (go_at_call 28; refine (cR _).mono ?_; rintro e w' ⟨rfl, rfl⟩)
      exact bodyPost_ret (v := .tuple #[.string o, .bool true]) (by simp [results, Tryd.results18, go_sem]) rfl ⟨by rw [EM.out], HB.out⟩

theorem NoBq.tail {t : ByteArray} (h : NoBq t) (d : Nat) : NoBq (t.extract d t.size) := fun j hj => by
  rw [size_tail] at hj
  rw [get_rest t d j (by omega)]
  exact h _ (by omega)
set_option maxHeartbeats 8000000 in
set_option maxRecDepth 100000 in
/-- spec.Unquote, between backquotes. -/
theorem unq_bq (t : ByteArray) (hL : NoBq t) (ht : t.size ≤ 70368744177664) (s : ByteArray) (hs : s = one 96 ++ (t ++ one 96)) (w : World) :
    Calls Tryd.prog 18 #[.string s] w fun e w' => e = .returned (.tuple #[.string t, .bool true]) ∧ Below w.heap.size w w' := by
  obtain ⟨hsz, hg0, hg1, hex⟩ := quoted_parts 96 t s hs
  have h0 : 0 < s.size := by omega
  have hl1 : s.size - 1 < s.size := by omega
  have hl0 : (0 : Int) ≤ (s.size : Int) - 1 := by omega
  have hl2 : (s.size : Int) - 1 < (s.size : Int) := by omega
  have hl3 : (s.size : Int) - 1 ≤ (s.size : Int) := by omega
  have hl4 : (1 : Int) ≤ (s.size : Int) - 1 := by omega
  have hl5 : ¬ (s.size : Int) < 2 := by omega
  have hl6 : (0 : Int) < (s.size : Int) := by omega
  have hsb : (s.size : Int) ≤ 70368744177666 := by omega
  obtain ⟨q, hq⟩ : ∃ q : UInt8, 96 = q := ⟨_, rfl⟩
  have hqz : (q.toNat : Int) = 96 := by rw [← hq]; rfl
  rw [hq] at hg0 hg1
  have hc0 : s[0]'h0 = q := by rw [← hg0, get_of_lt s 0 h0]
  have hc1 : s[s.size - 1]'hl1 = q := by rw [← hg1, get_of_lt s _ hl1]
  have HX := Lib.hid hex
  have HT := Lib.hid ht
  have HL := Lib.hid hL
  clear hsz hg0 hg1 hex hs hq hL ht
  go_enter Tryd.func18, Tryd.ntmps18
  go_upto_region 1 with (fail)
  go_quiet (fail)
  go_upto_region 3 with (fail)
  go_quiet (fail)
  go_wp2
  go_loopw [2, 3, 5, 6, 7, 8, 9, 10] (fun _ _ v5 v6 _ _ _ _ wr => ∃ t' o : ByteArray, v5 = .string t' ∧ v6 = .string o ∧ o.size + t'.size ≤ 70368744177664 ∧ Hid (NoBq t') ∧ Hid (o ++ t' = t) ∧ Hid (Below w.heap.size w wr)) (fun _ _ v5 _ _ _ _ _ _ => strLen v5)
  case atStart =>
    refine ⟨_, ⟨#[]⟩, rfl, rfl, ?_, by rw [HX.out]; exact HL, ?_, by show Below _ _ _; first | exact below_drewN (Below.refl _ _) _ | exact Below.refl _ _⟩
    · rw [HX.out]
      have : (⟨#[]⟩ : ByteArray).size = 0 := rfl
      have := HT.out
      omega
    · show _ = _
      rw [HX.out]; exact nil_app t
  case round =>
    obtain ⟨t', o, rfl, rfl, htb, Hl, Ho, HB⟩ := hrel
    by_cases h0t : 0 < t'.size
    · have h0z : (0 : Int) < (t'.size : Int) := by omega
      have h1z : (1 : Int) ≤ (t'.size : Int) := by omega
      have hne := str_ne t' h0t
      have hne2 : (t'.size : Int) ≤ 70368744177664 := by omega
      obtain ⟨c, hc⟩ : ∃ c, t'[0]'h0t = c := ⟨_, rfl⟩
      have hg := get_of_lt t' 0 h0t
      rw [hc] at hg
      have hbq := Hl.out 0 h0t
      rw [hg] at hbq
      have en96 : ¬ (c.toNat : Int) = 96 := by omega
      have en13 : ¬ (c.toNat : Int) = 13 := by omega
      have e96 : ((c.toNat : Int) == 96) = false := by simpa using en96
      have e13 : ((c.toNat : Int) == 13) = false := by simpa using en13
      have hs1 : (t'.extract 0 1).size = 1 := by rw [ByteArray.size_extract]; omega
      have ho1 : o.size + (t'.extract 0 1).size ≤ 70368744177664 := by omega
      have ho2 : ¬ 9223372036854775807 < o.size + (t'.extract 0 1).size := by omega
      have ho3 : ¬ (9223372036854775807 : Int) < (o.size : Int) + ((t'.extract 0 1).size : Int) := by omega
      have ho4 : o.size + 1 ≤ 70368744177664 := by omega
      have H2 : Hid (o ++ t'.extract 0 1 ++ t'.extract 1 t'.size = t) := by
        show _ = _
        rw [← Ho.out, app_assoc, split_at t' 1 (by omega)]
      have Hl2 := Lib.hid (Hl.out.tail 1)
      have Hsz : Hid ((t'.extract 1 t'.size).size + 1 = t'.size ∧ (o ++ t'.extract 0 1).size = o.size + 1) := by
        show _ ∧ _
        rw [size_tail, size_app, hs1]; omega
      have Htb := Lib.hid htb
      clear hbq hg Ho Hl HX HL HT hs1 htb
      go_upto_region 16 with (fail)
      go_quiet (fail)
      go_wp2
      go_roundw
      case rel => exact ⟨_, _, rfl, rfl, by have := Hsz.out; have := Htb.out; omega, Hl2, H2, below_drewN HB.out _⟩
      case measure => have := Hsz.out; simp only [strLen]; omega
    · have hem : t' = ⟨#[]⟩ := empty_of_size t' (by omega)
      have hoM : o = t := by
        have := Ho.out
        rw [hem, app_nil] at this
        exact this
      have EM := Lib.hid hoM
      subst hem
      clear h0t htb Hl Ho hoM
      go_wp2
      exact bodyPost_ret (v := .tuple #[.string o, .bool true]) (by simp [results, Tryd.results18, go_sem]) rfl ⟨by rw [EM.out], HB.out⟩

end Go.Proofs.YtdadbfehackfjaaDoor
