/- The walks of spec.hex (of a digit), spec.escape (of what strconv writes for a rune or a byte), spec.Unquote (of a text of such pieces between quotes, or of any text without a backquote and a carriage return between backquotes) and spec.ASCII. Condition: texts take no more than 2^46 bytes. -/
import Derived.Test.YtdadbfehackfjaaDoorEscRune
import Derived.Deep.DeepCutAuto
import Derived.Deep.CutBlock
set_option linter.unusedVariables false
set_option linter.unusedSimpArgs false
namespace Go.Proofs.YtdadbfehackfjaaDoor
open Go.RowKit Go.Deep

theorem u8_ne {c : UInt8} {k : Nat} (hk : k < 256) (h : c ≠ UInt8.ofNat k) : ((c.toNat : Int) == (k : Int)) = false := by
  have h1 : c.toNat ≠ k := fun e => h (UInt8.toNat_inj.1 (by rw [UInt8.toNat_ofNat']; omega))
  have h2 : (c.toNat : Int) ≠ (k : Int) := by omega
  simpa using h2
theorem str_ne (s : ByteArray) (h : 0 < s.size) : s.toList.isEmpty = false := by
  rw [ByteArray.toList_eq]
  cases hl : s.data.toList with
  | nil =>
    have : s.data.toList.length = s.size := by rw [Array.length_toList]; rfl
    rw [hl] at this
    simp at this
    omega
  | cons _ _ => rfl

set_option maxHeartbeats 1000000 in
set_option maxRecDepth 100000 in
/-- spec.hex, of a digit. -/
theorem hexv_any (d : Nat) (hd : d < 16) (w : World) :
    Calls Tryd.prog 40 #[.int .u8 ((hexd false d).toNat : Int)] w fun e w' => e = .returned (.int .i64 (d : Int)) ∧ w = w' := by
  obtain ⟨x, hx⟩ : ∃ x, (hexd false d).toNat = x := ⟨_, rfl⟩
  have e : x = if d < 10 then 48 + d else 87 + d := by
    have : ∀ d : Fin 16, (hexd false d.val).toNat = if d.val < 10 then 48 + d.val else 87 + d.val := by decide
    rw [← hx]; exact this ⟨d, hd⟩
  rw [hx]
  clear hx
  by_cases h1 : d < 10
  · rw [if_pos h1] at e
    have a1 : (48 : Int) ≤ (x : Int) := by omega
    have a2 : (x : Int) ≤ 57 := by omega
    have E : Hid ((x : Int) - 48 = (d : Int)) := by show _ = _; omega
    clear e h1
    go_enter Tryd.func40, Tryd.ntmps40
    go_wp2
    all_goals first
      | (exfalso; omega)
      | (go_ret; exact ⟨ret_int E.out, rfl⟩)
  · rw [if_neg h1] at e
    have a1 : (97 : Int) ≤ (x : Int) := by omega
    have a2 : (x : Int) ≤ 102 := by omega
    have E : Hid ((x : Int) - 97 + 10 = (d : Int)) := by show _ = _; omega
    clear e h1
    go_enter Tryd.func40, Tryd.ntmps40
    go_wp2
    all_goals first
      | (exfalso; omega)
      | (go_ret; exact ⟨ret_int E.out, rfl⟩)

/-- The letters of the escapes that have one, each ahead of what it means. -/
abbrev lets : ByteArray := { data := #[97, 7, 98, 8, 102, 12, 110, 10, 114, 13, 116, 9, 118, 11] }
theorem lets_get (i : Nat) (h : i < 7) : (lets.get! (2 * i)).toNat = (nam (lets.get! (2 * i + 1)).toNat).toNat ∧ 97 ≤ (lets.get! (2 * i)).toNat ∧ (lets.get! (2 * i)).toNat ≠ 120 ∧ (lets.get! (2 * i)).toNat ≠ 117 := by
  have : ∀ i : Fin 7, (lets.get! (2 * i.val)).toNat = (nam (lets.get! (2 * i.val + 1)).toNat).toNat ∧ 97 ≤ (lets.get! (2 * i.val)).toNat ∧ (lets.get! (2 * i.val)).toNat ≠ 120 ∧ (lets.get! (2 * i.val)).toNat ≠ 117 := by decide
  exact this ⟨i, h⟩
/-- Which of them. -/
def letAt (r : Nat) : Nat := if r = 7 then 0 else if r = 8 then 1 else if r = 12 then 2 else if r = 10 then 3 else if r = 13 then 4 else if r = 9 then 5 else 6
theorem letAt_is (r : Nat) (h : 7 ≤ r ∧ r ≤ 13) : letAt r < 7 ∧ lets.get! (2 * letAt r) = nam r ∧ lets.extract (2 * letAt r + 1) (2 * letAt r + 2) = one (UInt8.ofNat r) ∧ ∀ i, i < letAt r → lets.get! (2 * i) ≠ nam r := by
  have : ∀ k : Fin 7, letAt (k.val + 7) < 7 ∧ lets.get! (2 * letAt (k.val + 7)) = nam (k.val + 7) ∧ lets.extract (2 * letAt (k.val + 7) + 1) (2 * letAt (k.val + 7) + 2) = one (UInt8.ofNat (k.val + 7)) ∧ ∀ i : Fin 7, i.val < letAt (k.val + 7) → lets.get! (2 * i.val) ≠ nam (k.val + 7) := by decide
  obtain ⟨k, rfl⟩ : ∃ k, r = k + 7 := ⟨r - 7, by omega⟩
  obtain ⟨h1, h2, h3, h4⟩ := this ⟨k, by omega⟩
  exact ⟨h1, h2, h3, fun i hi => h4 ⟨i, by simp only at h1 ⊢; omega⟩ hi⟩

set_option maxHeartbeats 4000000 in
set_option maxRecDepth 100000 in
/-- spec.escape, of an escape with a letter. -/
theorem escape_named (r : Nat) (hr : 7 ≤ r ∧ r ≤ 13) (q : Int) (s : ByteArray) (hs : 2 ≤ s.size) (hc : s.get! 1 = nam r) (w : World) :
    Calls Tryd.prog 32 #[.string s, .int .u8 q] w fun e w' => e = .returned (.tuple #[.string (one (UInt8.ofNat r)), .int .i64 2]) ∧ Below w.heap.size w w' := by
  obtain ⟨k, hk⟩ : ∃ k, letAt r = k := ⟨_, rfl⟩
  have hl := letAt_is r hr
  rw [hk] at hl
  obtain ⟨hk7, hk0, hk1, hk2⟩ := hl
  have h1s : 1 < s.size := by omega
  have h1z : (1 : Int) < (s.size : Int) := by omega
  have h2z : (2 : Int) ≤ (s.size : Int) := by omega
  obtain ⟨c, hcc⟩ : ∃ c, s[1]'h1s = c := ⟨_, rfl⟩
  have hcn : nam r = c := by rw [← hc, ← hcc, get_of_lt s 1 h1s]
  rw [hcn] at hk0 hk2
  obtain ⟨N, hN⟩ : ∃ N, one (UInt8.ofNat r) = N := ⟨_, rfl⟩
  rw [hN] at hk1 ⊢
  have H0 := Lib.hid hk0
  have H1 := Lib.hid hk1
  have H2 := Lib.hid hk2
  clear hk hk0 hk1 hk2 hN hcn hc hr hs
  go_enter Tryd.func32, Tryd.ntmps32
  go_wp2
  go_loopw [4, 5, 7] (fun _ _ v7 wr => ∃ i x : Nat, v7 = .int .i64 x ∧ Hid (x = 2 * i) ∧ x < 14 ∧ Hid (i ≤ k) ∧ Hid (Below w.heap.size w wr)) (fun _ _ v7 _ => 14 - (intOf v7).toNat)
  case atStart => exact ⟨0, 0, rfl, rfl, by omega, Nat.zero_le _, Below.refl _ _⟩
  case round =>
    obtain ⟨i, x, rfl, Hx, hx14, Hik, HB⟩ := hrel
    have hi14 : x < lets.size := hx14
    have hi14z : (x : Int) < 14 := by omega
    obtain ⟨d, hd⟩ : ∃ d, lets[x]'hi14 = d := ⟨_, rfl⟩
    by_cases he : i = k
    · have hdc : d = c := by
        rw [← hd, ← get_of_lt, Hx.out, he]; exact H0.out
      have hdc2 : ((c.toNat : Int) == (d.toNat : Int)) = true := by rw [hdc]; simp
      have E : Hid (lets.extract (x + 1) (x + 2) = N) := by
        show _ = _
        rw [Hx.out, he]; exact H1.out
      have hx13 : (x : Int) + 2 ≤ 14 := by have := Hx.out; omega
      clear hdc he
      go_upto_region 7 with (fail)
      go_quiet (fail)
      go_wp2
      exact bodyPost_ret (v := .tuple #[.string (lets.extract (x + 1) (x + 2)), .int .i64 2]) (by simp [results, Tryd.results32, go_sem]) rfl ⟨by rw [E.out], below_drewN HB.out _⟩
    · have hdc : ((c.toNat : Int) == (d.toNat : Int)) = false := by
        have h1 : d ≠ c := by rw [← hd, ← get_of_lt, Hx.out]; exact H2.out i (by have := Hik.out; omega)
        have h2 : c.toNat ≠ d.toNat := fun e => h1 (UInt8.toNat_inj.1 e.symm)
        have h3 : (c.toNat : Int) ≠ (d.toNat : Int) := by omega
        simpa using h3
      go_upto_region 7 with (fail)
      go_quiet (fail)
      go_wp2
      go_roundw
      case rel => exact ⟨i + 1, x + 2, by go_num, by show _ = _; rw [Hx.out]; omega, by have := Hx.out; have := Hik.out; omega, by show _ ≤ _; have := Hik.out; omega, below_drewN HB.out _⟩
      case measure => simp [intOf]; omega

theorem byte_extract (s : ByteArray) (i : Nat) (h : i < s.size) : s.extract i (i + 1) = one (s.get! i) := by
  apply ByteArray.ext
  rw [get_of_lt s i h]
  apply Array.ext
  · simp [one, ByteArray.size_data]; omega
  · intro j h1 h2
    have hj : j = 0 := by simp [one] at h2; omega
    subst hj
    simp [one, ByteArray.getElem_eq_getElem_data]

set_option maxHeartbeats 8000000 in
set_option maxRecDepth 100000 in
theorem escape_two (c : UInt8) (q : Nat) (hq : q = 34 ∨ q = 39) (hcq : c = 92 ∨ c.toNat = q) (s : ByteArray) (hs : 2 ≤ s.size) (hc : s.get! 1 = c) (w : World) :
    Calls Tryd.prog 32 #[.string s, .int .u8 (q : Int)] w fun e w' => e = .returned (.tuple #[.string (one c), .int .i64 2]) ∧ Below w.heap.size w w' := by
  have hno : ∀ i, i < 7 → lets.get! (2 * i) ≠ c := fun i hi he => by
    have h1 := (lets_get i hi).2.1
    rw [he] at h1
    rcases hcq with h | h
    · rw [h] at h1; exact absurd h1 (by decide)
    · omega
  have HNo := Lib.hid hno
  have h1s : 1 < s.size := by omega
  have h1z : (1 : Int) < (s.size : Int) := by omega
  have h2z : (2 : Int) ≤ (s.size : Int) := by omega
  have hE : s.extract 1 2 = one c := by
    rw [← hc]
    apply byte_extract s 1 h1s
  have HE := Lib.hid hE
  have hcc : s[1]'h1s = c := by rw [← hc, get_of_lt s 1 h1s]
  clear hno hE hc hs
  go_enter Tryd.func32, Tryd.ntmps32
  go_wp2
  go_loopw [4, 5, 7] (fun _ _ v7 wr => ∃ i x : Nat, v7 = .int .i64 x ∧ Hid (x = 2 * i) ∧ x ≤ 14 ∧ Hid (Below w.heap.size w wr)) (fun _ _ v7 _ => 14 - (intOf v7).toNat)
  case atStart => exact ⟨0, 0, rfl, rfl, by omega, Below.refl _ _⟩
  case round =>
    obtain ⟨i, x, rfl, Hx, hx14, HB⟩ := hrel
    by_cases hlt : x < 14
    · have hi14 : x < lets.size := hlt
      have hi14z : (x : Int) < 14 := by omega
      obtain ⟨d, hd⟩ : ∃ d, lets[x]'hi14 = d := ⟨_, rfl⟩
      have hdc : ((c.toNat : Int) == (d.toNat : Int)) = false := by
        have h1 : d ≠ c := by rw [← hd, ← get_of_lt, Hx.out]; exact HNo.out i (by have := Hx.out; omega)
        have h2 : c.toNat ≠ d.toNat := fun e => h1 (UInt8.toNat_inj.1 e.symm)
        have h3 : (c.toNat : Int) ≠ (d.toNat : Int) := by omega
        simpa using h3
      clear hlt
      go_upto_region 7 with (fail)
      go_quiet (fail)
      go_wp2
      go_roundw
      case rel => exact ⟨i + 1, x + 2, by go_num, by show _ = _; rw [Hx.out]; omega, by have := Hx.out; omega, below_drewN HB.out _⟩
      case measure => simp [intOf]; omega
    · have hge : ¬ (x : Int) < 14 := by omega
      clear hlt
      rcases hcq with hcq | hcq
      · have e1 : ((c.toNat : Int) == 92) = true := by rw [hcq]; rfl
        clear hcq
        go_wp2
        exact bodyPost_ret (v := .tuple #[.string (s.extract 1 2), .int .i64 2]) (by simp [results, Tryd.results32, go_sem]) rfl ⟨by rw [HE.out], HB.out⟩
      · have e1 : ((c.toNat : Int) == 92) = false := by
          have : ¬ (c.toNat : Int) = 92 := by omega
          simpa using this
        have e2 : ((c.toNat : Int) == (q : Int)) = true := by
          have : (c.toNat : Int) = (q : Int) := by omega
          simpa using this
        clear hcq
        go_wp2
        exact bodyPost_ret (v := .tuple #[.string (s.extract 1 2), .int .i64 2]) (by simp [results, Tryd.results32, go_sem]) rfl ⟨by rw [HE.out], HB.out⟩

set_option maxHeartbeats 8000000 in
set_option maxRecDepth 100000 in
theorem escape_hex2 (y : Nat) (hx : y < 256) (q : Nat) (hq : q = 34 ∨ q = 39) (s : ByteArray) (hs : 4 ≤ s.size) (hc : s.get! 1 = 120) (hX : s.extract 2 4 = hexn y 2) (w : World) :
    Calls Tryd.prog 32 #[.string s, .int .u8 (q : Int)] w fun e w' => e = .returned (.tuple #[.string (one (UInt8.ofNat y)), .int .i64 4]) ∧ Below w.heap.size w w' := by
  obtain ⟨c, hcc0⟩ : ∃ c : UInt8, 120 = c := ⟨_, rfl⟩
  rw [hcc0] at hc
  have hno : ∀ i, i < 7 → lets.get! (2 * i) ≠ c := fun i hi he => by
    obtain ⟨_, h1, h2, h3⟩ := lets_get i hi
    rw [he, ← hcc0] at h1 h2 h3
    exact h2 rfl
  have HNo := Lib.hid hno
  have h1s : 1 < s.size := by omega
  have h1z : (1 : Int) < (s.size : Int) := by omega
  have h2z : (2 : Int) ≤ (s.size : Int) := by omega
  have hnz : (4 : Int) ≤ (s.size : Int) := by omega
  have hxb : y < 256 := by omega
  have hXs : (s.extract 2 4).size = 2 := by rw [ByteArray.size_extract]; omega
  have HX := Lib.hid hX
  have hcc : s[1]'h1s = c := by rw [← hc, get_of_lt s 1 h1s]
  have hcL : (c.toNat : Int) = 120 := by rw [← hcc0]; rfl
  have e92 : ((c.toNat : Int) == 92) = false := by rw [hcL]; rfl
  have eq : ((c.toNat : Int) == (q : Int)) = false := by
    have : ¬ (c.toNat : Int) = (q : Int) := by omega
    simpa using this
  have e120 : ((c.toNat : Int) == 120) = true := by rw [hcL]; rfl
  clear hno hc hs hX hcL hcc0 hq
  go_enter Tryd.func32, Tryd.ntmps32
  go_wp2
  go_loopw [4, 5, 7] (fun _ _ v7 wr => ∃ i x : Nat, v7 = .int .i64 x ∧ Hid (x = 2 * i) ∧ x ≤ 14 ∧ Hid (Below w.heap.size w wr)) (fun _ _ v7 _ => 14 - (intOf v7).toNat)
  case atStart => exact ⟨0, 0, rfl, rfl, by omega, Below.refl _ _⟩
  case round =>
    obtain ⟨i, x, rfl, Hx, hx14, HB⟩ := hrel
    by_cases hlt : x < 14
    · have hi14 : x < lets.size := hlt
      have hi14z : (x : Int) < 14 := by omega
      obtain ⟨d, hd⟩ : ∃ d, lets[x]'hi14 = d := ⟨_, rfl⟩
      have hdc : ((c.toNat : Int) == (d.toNat : Int)) = false := by
        have h1 : d ≠ c := by rw [← hd, ← get_of_lt, Hx.out]; exact HNo.out i (by have := Hx.out; omega)
        have h2 : c.toNat ≠ d.toNat := fun e => h1 (UInt8.toNat_inj.1 e.symm)
        have h3 : (c.toNat : Int) ≠ (d.toNat : Int) := by omega
        simpa using h3
      clear hlt
      go_upto_region 7 with (fail)
      go_quiet (fail)
      go_wp2
      go_roundw
      case rel => exact ⟨i + 1, x + 2, by go_num, by show _ = _; rw [Hx.out]; omega, by have := Hx.out; omega, below_drewN HB.out _⟩
      case measure => simp [intOf]; omega
    · have hge : ¬ (x : Int) < 14 := by omega
      clear hlt
      obtain ⟨c4, w4, hcv4, hc4, hb4, hr4⟩ := conv_bytes wr (s.extract 2 4)
      have hB4 : Below w.heap.size w w4 := HB.out.trans (hb4.mono HB.out.size)
      rw [hXs] at hcv4 hc4
      have hcells : ∀ j, j < 2 → w4.cell? ⟨wr.heap.size, j, none⟩ = some (.int .u8 ((hexd false (y / 16 ^ (2 - 1 - j) % 16)).toNat : Int)) := fun j hj => by
        rcases hr4 with h | ⟨b, o, h, h2⟩
        · omega
        · injection h with h; injection h with h1 h3; subst h1; subst h3
          have := h2 j (by rw [hXs]; exact hj)
          rw [Nat.zero_add, HX.out, hexn_get y 2 j hj] at this
          exact this
      have HC := Lib.hid hcells
      have HB4 := Lib.hid hB4
      clear hr4 hcells hB4 hb4 HX
      go_upto_region 23 with (fail)
      go_wp2
      go_loopw [4, 5, 11, 13, 14, 86] (fun _ _ v11 _ _ v86 wr2 => ∃ i V : Nat, v11 = .int .i64 V ∧ v86 = .int .i64 i ∧ i ≤ 2 ∧ V ≤ 4294967295 ∧ Hid (V = y / 16 ^ (2 - i)) ∧ w4 = wr2) (fun _ _ _ _ _ v86 _ => 2 - (intOf v86).toNat)
      case atStart => exact ⟨0, 0, rfl, rfl, by omega, by omega, by show _ = _; rw [Nat.div_eq_of_lt (by first | exact hxb | omega)], rfl⟩
      case round =>
        obtain ⟨i2, V, rfl, rfl, hi2, hV, HV, rfl⟩ := hrel
        by_cases hlt : i2 < 2
        · have hltz : (i2 : Int) < 2 := by omega
          have hci := HC.out i2 hlt
          obtain ⟨d, hd⟩ : ∃ d, y / 16 ^ (2 - 1 - i2) % 16 = d := ⟨_, rfl⟩
          have hd16 : d < 16 := by omega
          have hd16z : (d : Int) < 16 := by omega
          have hd0z : ¬ (d : Int) < 0 := by omega
          rw [hd] at hci
          have cH := fun W => hexv_any d hd16 W
          obtain ⟨u, hu⟩ : ∃ u : UInt8, hexd false d = u := ⟨_, rfl⟩
          rw [hu] at hci
          simp only [hu] at cH
          have hstep : y / 16 ^ (2 - 1 - i2) = V * 16 + d := by
            have e1 : 2 - i2 = (2 - 1 - i2) + 1 := by omega
            have e2 := HV.out
            rw [e1, Nat.pow_succ, ← Nat.div_div_eq_div_mul] at e2
            omega
          have hV2 : V * 16 + d ≤ 4294967295 := by
            rw [← hstep]
            have := Nat.div_le_self y (16 ^ (2 - 1 - i2))
            omega
          have hV2z : (V : Int) * 16 + (d : Int) ≤ 4294967295 := by omega
          have HS := Lib.hid hstep
          clear hd hu hstep hlt
          go_wp2_with (go_at_call 40; refine (cH _).mono ?_; rintro e w' ⟨rfl, rfl⟩)
          go_roundw
          case rel => exact ⟨i2 + 1, V * 16 + d, by go_num, by go_num, by omega, hV2, by show _ = _; rw [show 2 - (i2 + 1) = 2 - 1 - i2 by omega, HS.out], by first | rfl | trivial⟩
          case measure => simp [intOf]; omega
        · have hge2 : ¬ (i2 : Int) < 2 := by omega
          have hVy : V = y := by
            have e1 : i2 = 2 := by omega
            have := HV.out
            rw [e1] at this
            simpa using this
          subst hVy
          clear hlt

          have hx' : ¬ (255 : Int) < (V : Int) := by omega
          have hw8 := wrap8 V hx
          have hcv := conv_list [(V : Int)] (w4.alloc (.cells #[.int .u8 (V : Int)] 5)) w4.heap.size 1 1 rfl (heap_alloc_new w4 _)
          have hON : strOfNums [(V : Int)] = one (UInt8.ofNat V) := by
            apply ByteArray.ext
            simp [strOfNums, one]
          rw [hON] at hcv
          obtain ⟨N, hN⟩ : ∃ N, one (UInt8.ofNat V) = N := ⟨_, rfl⟩
          rw [hN] at hcv
          have HN2 := Lib.hid hN
          clear hON hx hN
          go_wp2
          exact bodyPost_ret (v := .tuple #[.string N, .int .i64 4]) (by simp [results, Tryd.results32, go_sem]) rfl ⟨by rw [HN2.out], HB4.out.alloc HB4.out.size _⟩

set_option maxHeartbeats 8000000 in
set_option maxRecDepth 100000 in
theorem escape_hex4 (y : Nat) (hx : y < 65536) (hsc : Sc y) (q : Nat) (hq : q = 34 ∨ q = 39) (s : ByteArray) (hs : 6 ≤ s.size) (hc : s.get! 1 = 117) (hX : s.extract 2 6 = hexn y 4) (w : World) :
    Calls Tryd.prog 32 #[.string s, .int .u8 (q : Int)] w fun e w' => e = .returned (.tuple #[.string (enc y), .int .i64 6]) ∧ Below w.heap.size w w' := by
  obtain ⟨c, hcc0⟩ : ∃ c : UInt8, 117 = c := ⟨_, rfl⟩
  rw [hcc0] at hc
  have hno : ∀ i, i < 7 → lets.get! (2 * i) ≠ c := fun i hi he => by
    obtain ⟨_, h1, h2, h3⟩ := lets_get i hi
    rw [he, ← hcc0] at h1 h2 h3
    exact h3 rfl
  have HNo := Lib.hid hno
  have h1s : 1 < s.size := by omega
  have h1z : (1 : Int) < (s.size : Int) := by omega
  have h2z : (2 : Int) ≤ (s.size : Int) := by omega
  have hnz : (6 : Int) ≤ (s.size : Int) := by omega
  have hxb : y < 65536 := by omega
  have hXs : (s.extract 2 6).size = 4 := by rw [ByteArray.size_extract]; omega
  have HX := Lib.hid hX
  have hcc : s[1]'h1s = c := by rw [← hc, get_of_lt s 1 h1s]
  have hcL : (c.toNat : Int) = 117 := by rw [← hcc0]; rfl
  have e92 : ((c.toNat : Int) == 92) = false := by rw [hcL]; rfl
  have eq : ((c.toNat : Int) == (q : Int)) = false := by
    have : ¬ (c.toNat : Int) = (q : Int) := by omega
    simpa using this
  have e120 : ((c.toNat : Int) == 120) = false := by rw [hcL]; rfl
  have e117 : ((c.toNat : Int) == 117) = true := by rw [hcL]; rfl
  clear hno hc hs hX hcL hcc0 hq
  go_enter Tryd.func32, Tryd.ntmps32
  go_wp2
  go_loopw [4, 5, 7] (fun _ _ v7 wr => ∃ i x : Nat, v7 = .int .i64 x ∧ Hid (x = 2 * i) ∧ x ≤ 14 ∧ Hid (Below w.heap.size w wr)) (fun _ _ v7 _ => 14 - (intOf v7).toNat)
  case atStart => exact ⟨0, 0, rfl, rfl, by omega, Below.refl _ _⟩
  case round =>
    obtain ⟨i, x, rfl, Hx, hx14, HB⟩ := hrel
    by_cases hlt : x < 14
    · have hi14 : x < lets.size := hlt
      have hi14z : (x : Int) < 14 := by omega
      obtain ⟨d, hd⟩ : ∃ d, lets[x]'hi14 = d := ⟨_, rfl⟩
      have hdc : ((c.toNat : Int) == (d.toNat : Int)) = false := by
        have h1 : d ≠ c := by rw [← hd, ← get_of_lt, Hx.out]; exact HNo.out i (by have := Hx.out; omega)
        have h2 : c.toNat ≠ d.toNat := fun e => h1 (UInt8.toNat_inj.1 e.symm)
        have h3 : (c.toNat : Int) ≠ (d.toNat : Int) := by omega
        simpa using h3
      clear hlt
      go_upto_region 7 with (fail)
      go_quiet (fail)
      go_wp2
      go_roundw
      case rel => exact ⟨i + 1, x + 2, by go_num, by show _ = _; rw [Hx.out]; omega, by have := Hx.out; omega, below_drewN HB.out _⟩
      case measure => simp [intOf]; omega
    · have hge : ¬ (x : Int) < 14 := by omega
      clear hlt
      obtain ⟨c4, w4, hcv4, hc4, hb4, hr4⟩ := conv_bytes wr (s.extract 2 6)
      have hB4 : Below w.heap.size w w4 := HB.out.trans (hb4.mono HB.out.size)
      rw [hXs] at hcv4 hc4
      have hcells : ∀ j, j < 4 → w4.cell? ⟨wr.heap.size, j, none⟩ = some (.int .u8 ((hexd false (y / 16 ^ (4 - 1 - j) % 16)).toNat : Int)) := fun j hj => by
        rcases hr4 with h | ⟨b, o, h, h2⟩
        · omega
        · injection h with h; injection h with h1 h3; subst h1; subst h3
          have := h2 j (by rw [hXs]; exact hj)
          rw [Nat.zero_add, HX.out, hexn_get y 4 j hj] at this
          exact this
      have HC := Lib.hid hcells
      have HB4 := Lib.hid hB4
      clear hr4 hcells hB4 hb4 HX
      go_upto_region 23 with (fail)
      go_wp2
      go_loopw [4, 5, 11, 13, 14, 86] (fun _ _ v11 _ _ v86 wr2 => ∃ i V : Nat, v11 = .int .i64 V ∧ v86 = .int .i64 i ∧ i ≤ 4 ∧ V ≤ 4294967295 ∧ Hid (V = y / 16 ^ (4 - i)) ∧ w4 = wr2) (fun _ _ _ _ _ v86 _ => 4 - (intOf v86).toNat)
      case atStart => exact ⟨0, 0, rfl, rfl, by omega, by omega, by show _ = _; rw [Nat.div_eq_of_lt (by first | exact hxb | omega)], rfl⟩
      case round =>
        obtain ⟨i2, V, rfl, rfl, hi2, hV, HV, rfl⟩ := hrel
        by_cases hlt : i2 < 4
        · have hltz : (i2 : Int) < 4 := by omega
          have hci := HC.out i2 hlt
          obtain ⟨d, hd⟩ : ∃ d, y / 16 ^ (4 - 1 - i2) % 16 = d := ⟨_, rfl⟩
          have hd16 : d < 16 := by omega
          have hd16z : (d : Int) < 16 := by omega
          have hd0z : ¬ (d : Int) < 0 := by omega
          rw [hd] at hci
          have cH := fun W => hexv_any d hd16 W
          obtain ⟨u, hu⟩ : ∃ u : UInt8, hexd false d = u := ⟨_, rfl⟩
          rw [hu] at hci
          simp only [hu] at cH
          have hstep : y / 16 ^ (4 - 1 - i2) = V * 16 + d := by
            have e1 : 4 - i2 = (4 - 1 - i2) + 1 := by omega
            have e2 := HV.out
            rw [e1, Nat.pow_succ, ← Nat.div_div_eq_div_mul] at e2
            omega
          have hV2 : V * 16 + d ≤ 4294967295 := by
            rw [← hstep]
            have := Nat.div_le_self y (16 ^ (4 - 1 - i2))
            omega
          have hV2z : (V : Int) * 16 + (d : Int) ≤ 4294967295 := by omega
          have HS := Lib.hid hstep
          clear hd hu hstep hlt
          go_wp2_with (go_at_call 40; refine (cH _).mono ?_; rintro e w' ⟨rfl, rfl⟩)
          go_roundw
          case rel => exact ⟨i2 + 1, V * 16 + d, by go_num, by go_num, by omega, hV2, by show _ = _; rw [show 4 - (i2 + 1) = 4 - 1 - i2 by omega, HS.out], by first | rfl | trivial⟩
          case measure => simp [intOf]; omega
        · have hge2 : ¬ (i2 : Int) < 4 := by omega
          have hVy : V = y := by
            have e1 : i2 = 4 := by omega
            have := HV.out
            rw [e1] at this
            simpa using this
          subst hVy
          clear hlt

          have cS := fun W => scalar_any (V : Int) (by omega) (by have := hsc.le; omega) W
          rw [decide_eq_true (by unfold Sc at hsc; omega)] at cS
          have cE := fun W => encoded_any (V : Int) (by omega) (by have := hsc.le; omega) (by unfold Sc at hsc; omega) W
          have hx31 : (V : Int) ≤ 1114111 := by have := hsc.le; omega
          obtain ⟨N, hN⟩ : ∃ N, enc V = N := ⟨_, rfl⟩
          simp only [hN] at cE
          have HN2 := Lib.hid hN
          clear hsc hN
          go_wp2_with (first | (go_at_call 15; refine (cS _).mono ?_; rintro e w' ⟨rfl, rfl⟩) | (go_at_call 16; refine (cE _).mono ?_; rintro e w9 ⟨rfl, hb9⟩))
          exact bodyPost_ret (v := .tuple #[.string N, .int .i64 6]) (by simp [results, Tryd.results32, go_sem]) rfl ⟨by rw [HN2.out], HB4.out.trans (hb9.mono HB4.out.size)⟩

set_option maxHeartbeats 8000000 in
set_option maxRecDepth 100000 in
theorem escape_hex8 (y : Nat) (hsc : Sc y) (q : Nat) (hq : q = 34 ∨ q = 39) (s : ByteArray) (hs : 10 ≤ s.size) (hc : s.get! 1 = 85) (hX : s.extract 2 10 = hexn y 8) (w : World) :
    Calls Tryd.prog 32 #[.string s, .int .u8 (q : Int)] w fun e w' => e = .returned (.tuple #[.string (enc y), .int .i64 10]) ∧ Below w.heap.size w w' := by
  obtain ⟨c, hcc0⟩ : ∃ c : UInt8, 85 = c := ⟨_, rfl⟩
  rw [hcc0] at hc
  have hno : ∀ i, i < 7 → lets.get! (2 * i) ≠ c := fun i hi he => by
    obtain ⟨_, h1, h2, h3⟩ := lets_get i hi
    rw [he, ← hcc0] at h1 h2 h3
    exact absurd h1 (by decide)
  have HNo := Lib.hid hno
  have h1s : 1 < s.size := by omega
  have h1z : (1 : Int) < (s.size : Int) := by omega
  have h2z : (2 : Int) ≤ (s.size : Int) := by omega
  have hnz : (10 : Int) ≤ (s.size : Int) := by omega
  have hxb : y < 4294967296 := by have := hsc.le; omega
  have hXs : (s.extract 2 10).size = 8 := by rw [ByteArray.size_extract]; omega
  have HX := Lib.hid hX
  have hcc : s[1]'h1s = c := by rw [← hc, get_of_lt s 1 h1s]
  have hcL : (c.toNat : Int) = 85 := by rw [← hcc0]; rfl
  have e92 : ((c.toNat : Int) == 92) = false := by rw [hcL]; rfl
  have eq : ((c.toNat : Int) == (q : Int)) = false := by
    have : ¬ (c.toNat : Int) = (q : Int) := by omega
    simpa using this
  have e120 : ((c.toNat : Int) == 120) = false := by rw [hcL]; rfl
  have e117 : ((c.toNat : Int) == 117) = false := by rw [hcL]; rfl
  have e85 : ((c.toNat : Int) == 85) = true := by rw [hcL]; rfl
  clear hno hc hs hX hcL hcc0 hq
  go_enter Tryd.func32, Tryd.ntmps32
  go_wp2
  go_loopw [4, 5, 7] (fun _ _ v7 wr => ∃ i x : Nat, v7 = .int .i64 x ∧ Hid (x = 2 * i) ∧ x ≤ 14 ∧ Hid (Below w.heap.size w wr)) (fun _ _ v7 _ => 14 - (intOf v7).toNat)
  case atStart => exact ⟨0, 0, rfl, rfl, by omega, Below.refl _ _⟩
  case round =>
    obtain ⟨i, x, rfl, Hx, hx14, HB⟩ := hrel
    by_cases hlt : x < 14
    · have hi14 : x < lets.size := hlt
      have hi14z : (x : Int) < 14 := by omega
      obtain ⟨d, hd⟩ : ∃ d, lets[x]'hi14 = d := ⟨_, rfl⟩
      have hdc : ((c.toNat : Int) == (d.toNat : Int)) = false := by
        have h1 : d ≠ c := by rw [← hd, ← get_of_lt, Hx.out]; exact HNo.out i (by have := Hx.out; omega)
        have h2 : c.toNat ≠ d.toNat := fun e => h1 (UInt8.toNat_inj.1 e.symm)
        have h3 : (c.toNat : Int) ≠ (d.toNat : Int) := by omega
        simpa using h3
      clear hlt
      go_upto_region 7 with (fail)
      go_quiet (fail)
      go_wp2
      go_roundw
      case rel => exact ⟨i + 1, x + 2, by go_num, by show _ = _; rw [Hx.out]; omega, by have := Hx.out; omega, below_drewN HB.out _⟩
      case measure => simp [intOf]; omega
    · have hge : ¬ (x : Int) < 14 := by omega
      clear hlt
      obtain ⟨c4, w4, hcv4, hc4, hb4, hr4⟩ := conv_bytes wr (s.extract 2 10)
      have hB4 : Below w.heap.size w w4 := HB.out.trans (hb4.mono HB.out.size)
      rw [hXs] at hcv4 hc4
      have hcells : ∀ j, j < 8 → w4.cell? ⟨wr.heap.size, j, none⟩ = some (.int .u8 ((hexd false (y / 16 ^ (8 - 1 - j) % 16)).toNat : Int)) := fun j hj => by
        rcases hr4 with h | ⟨b, o, h, h2⟩
        · omega
        · injection h with h; injection h with h1 h3; subst h1; subst h3
          have := h2 j (by rw [hXs]; exact hj)
          rw [Nat.zero_add, HX.out, hexn_get y 8 j hj] at this
          exact this
      have HC := Lib.hid hcells
      have HB4 := Lib.hid hB4
      clear hr4 hcells hB4 hb4 HX
      go_upto_region 23 with (fail)
      go_wp2
      go_loopw [4, 5, 11, 13, 14, 86] (fun _ _ v11 _ _ v86 wr2 => ∃ i V : Nat, v11 = .int .i64 V ∧ v86 = .int .i64 i ∧ i ≤ 8 ∧ V ≤ 4294967295 ∧ Hid (V = y / 16 ^ (8 - i)) ∧ w4 = wr2) (fun _ _ _ _ _ v86 _ => 8 - (intOf v86).toNat)
      case atStart => exact ⟨0, 0, rfl, rfl, by omega, by omega, by show _ = _; rw [Nat.div_eq_of_lt (by first | exact hxb | omega)], rfl⟩
      case round =>
        obtain ⟨i2, V, rfl, rfl, hi2, hV, HV, rfl⟩ := hrel
        by_cases hlt : i2 < 8
        · have hltz : (i2 : Int) < 8 := by omega
          have hci := HC.out i2 hlt
          obtain ⟨d, hd⟩ : ∃ d, y / 16 ^ (8 - 1 - i2) % 16 = d := ⟨_, rfl⟩
          have hd16 : d < 16 := by omega
          have hd16z : (d : Int) < 16 := by omega
          have hd0z : ¬ (d : Int) < 0 := by omega
          rw [hd] at hci
          have cH := fun W => hexv_any d hd16 W
          obtain ⟨u, hu⟩ : ∃ u : UInt8, hexd false d = u := ⟨_, rfl⟩
          rw [hu] at hci
          simp only [hu] at cH
          have hstep : y / 16 ^ (8 - 1 - i2) = V * 16 + d := by
            have e1 : 8 - i2 = (8 - 1 - i2) + 1 := by omega
            have e2 := HV.out
            rw [e1, Nat.pow_succ, ← Nat.div_div_eq_div_mul] at e2
            omega
          have hV2 : V * 16 + d ≤ 4294967295 := by
            rw [← hstep]
            have := Nat.div_le_self y (16 ^ (8 - 1 - i2))
            omega
          have hV2z : (V : Int) * 16 + (d : Int) ≤ 4294967295 := by omega
          have HS := Lib.hid hstep
          clear hd hu hstep hlt
          go_wp2_with (go_at_call 40; refine (cH _).mono ?_; rintro e w' ⟨rfl, rfl⟩)
          go_roundw
          case rel => exact ⟨i2 + 1, V * 16 + d, by go_num, by go_num, by omega, hV2, by show _ = _; rw [show 8 - (i2 + 1) = 8 - 1 - i2 by omega, HS.out], by first | rfl | trivial⟩
          case measure => simp [intOf]; omega
        · have hge2 : ¬ (i2 : Int) < 8 := by omega
          have hVy : V = y := by
            have e1 : i2 = 8 := by omega
            have := HV.out
            rw [e1] at this
            simpa using this
          subst hVy
          clear hlt

          have cS := fun W => scalar_any (V : Int) (by omega) (by have := hsc.le; omega) W
          rw [decide_eq_true (by unfold Sc at hsc; omega)] at cS
          have cE := fun W => encoded_any (V : Int) (by omega) (by have := hsc.le; omega) (by unfold Sc at hsc; omega) W
          have hx31 : (V : Int) ≤ 1114111 := by have := hsc.le; omega
          obtain ⟨N, hN⟩ : ∃ N, enc V = N := ⟨_, rfl⟩
          simp only [hN] at cE
          have HN2 := Lib.hid hN
          clear hsc hN
          go_wp2_with (first | (go_at_call 15; refine (cS _).mono ?_; rintro e w' ⟨rfl, rfl⟩) | (go_at_call 16; refine (cE _).mono ?_; rintro e w9 ⟨rfl, hb9⟩))
          exact bodyPost_ret (v := .tuple #[.string N, .int .i64 10]) (by simp [results, Tryd.results32, go_sem]) rfl ⟨by rw [HN2.out], HB4.out.trans (hb9.mono HB4.out.size)⟩

end Go.Proofs.YtdadbfehackfjaaDoor
