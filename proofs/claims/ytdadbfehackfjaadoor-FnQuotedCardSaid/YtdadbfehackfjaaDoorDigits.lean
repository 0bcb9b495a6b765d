/- The digits of a number in a base of 2 to 16, as text, and the walk of spec.Digits. Conditions: the number is below 2^64, the base lies between 2 and 16. -/
import Derived.Test.YtdadbfehackfjaaDoorFmt
import Derived.Deep.QuietTactic
import Derived.BigQuiet
set_option linter.unusedVariables false
set_option linter.unusedSimpArgs false
namespace Go.Proofs.YtdadbfehackfjaaDoor
open Go.RowKit Go.Deep

/-- A digit's letter. -/
def hexd (U : Bool) (d : Nat) : UInt8 := if d < 10 then UInt8.ofNat (48 + d) else if U then UInt8.ofNat (55 + d) else UInt8.ofNat (87 + d)
/-- One byte as text. -/
def one (c : UInt8) : ByteArray := ⟨#[c]⟩
theorem one_size (c : UInt8) : (one c).size = 1 := rfl

/-- The digits of n, k of them at most. -/
def digK (b : Nat) (U : Bool) : Nat → Nat → ByteArray
  | 0, n => one (hexd U (n % b))
  | k + 1, n => if n < b then one (hexd U n) else digK b U k (n / b) ++ one (hexd U (n % b))
def digB (b : Nat) (U : Bool) (n : Nat) : ByteArray := digK b U n n

theorem digK_enough (b : Nat) (U : Bool) (hb : 2 ≤ b) : ∀ k j n, n ≤ k → n ≤ j → digK b U k n = digK b U j n
  | 0, j, n, h1, h2 => by
    obtain rfl : n = 0 := by omega
    cases j with
    | zero => rfl
    | succ j => simp only [digK]; rw [if_pos (by omega), Nat.zero_mod]
  | k + 1, 0, n, h1, h2 => by
    obtain rfl : n = 0 := by omega
    simp only [digK]; rw [if_pos (by omega), Nat.zero_mod]
  | k + 1, j + 1, n, h1, h2 => by
    simp only [digK]
    by_cases h : n < b
    · rw [if_pos h, if_pos h]
    · rw [if_neg h, if_neg h]
      have hd : n / b < n := Nat.div_lt_self (by omega) (by omega)
      rw [digK_enough b U hb k j (n / b) (by omega) (by omega)]
theorem digB_small (b : Nat) (U : Bool) (n : Nat) (h : n < b) : digB b U n = one (hexd U n) := by
  unfold digB
  cases n with
  | zero => simp [digK]
  | succ n => simp only [digK]; rw [if_pos h]
theorem digB_step (b : Nat) (U : Bool) (n : Nat) (hb : 2 ≤ b) (h : ¬ n < b) : digB b U n = digB b U (n / b) ++ one (hexd U (n % b)) := by
  have hd : n / b < n := Nat.div_lt_self (by omega) (by omega)
  obtain ⟨m, rfl⟩ : ∃ m, n = m + 1 := ⟨n - 1, by omega⟩
  unfold digB
  conv => lhs; simp only [digK]
  rw [if_neg h, digK_enough b U hb m ((m + 1) / b) _ (by omega) (Nat.le_refl _)]

theorem digB_size_le (b : Nat) (U : Bool) (hb : 2 ≤ b) : ∀ j n, n < 2 ^ (j + 1) → (digB b U n).size ≤ j + 1
  | 0, n, h => by
    rw [digB_small b U n (by omega)]
    exact Nat.le_refl _
  | j + 1, n, h => by
    by_cases hn : n < b
    · rw [digB_small b U n hn]
      have := one_size (hexd U n)
      omega
    · rw [digB_step b U n hb hn, size_app, one_size]
      have h1 : n / b ≤ n / 2 := Nat.div_le_div_left hb (by omega)
      have := digB_size_le b U hb j (n / b) (by rw [Nat.pow_succ] at h; omega)
      omega
theorem digB_size (b : Nat) (U : Bool) (hb : 2 ≤ b) (n : Nat) (h : (n : Int) ≤ 18446744073709551615) : (digB b U n).size ≤ 64 := digB_size_le b U hb 63 n (by omega)

theorem letter_lo (d : Nat) (h : d < 16) : (ByteArray.mk #[48, 49, 50, 51, 52, 53, 54, 55, 56, 57, 97, 98, 99, 100, 101, 102]).extract d (d + 1) = one (hexd false d) := by
  have : ∀ d : Fin 16, (ByteArray.mk #[48, 49, 50, 51, 52, 53, 54, 55, 56, 57, 97, 98, 99, 100, 101, 102]).extract d.val (d.val + 1) = one (hexd false d.val) := by decide
  exact this ⟨d, h⟩
theorem letter_up (d : Nat) (h : d < 16) : (ByteArray.mk #[48, 49, 50, 51, 52, 53, 54, 55, 56, 57, 65, 66, 67, 68, 69, 70]).extract d (d + 1) = one (hexd true d) := by
  have : ∀ d : Fin 16, (ByteArray.mk #[48, 49, 50, 51, 52, 53, 54, 55, 56, 57, 65, 66, 67, 68, 69, 70]).extract d.val (d.val + 1) = one (hexd true d.val) := by decide
  exact this ⟨d, h⟩

set_option maxHeartbeats 1000000 in
set_option maxRecDepth 100000 in
theorem digits_lo (n b : Nat) (hn : (n : Int) ≤ 18446744073709551615) (hb0 : 2 ≤ b) (hb1 : b ≤ 16) (w : World) :
    Calls Tryd.prog 11 #[.int .u64 n, .int .i64 b, .bool false] w fun e w' => e = .returned (.string (digB b false n)) ∧ w = w' := by
  obtain ⟨R, hR⟩ : ∃ R, digB b false n = R := ⟨_, rfl⟩
  rw [hR]
  have HR := Lib.hid hR
  clear hR
  have hbz : ¬ ((b : Int) = 0) := by omega
  go_enter Tryd.func11, Tryd.ntmps11
  go_wp2
  go_loop [0, 8, 9] (fun vm vs _ => ∃ (m : Nat) (t : ByteArray), vm = .int .u64 m ∧ vs = .string t ∧ (m : Int) ≤ 18446744073709551615 ∧ Hid (digB b false m ++ t = R)) (fun vm _ _ => (intOf vm).toNat)
  case atStart => exact ⟨n, ⟨#[]⟩, rfl, rfl, hn, by rw [← HR.out]; exact app_nil _⟩
  case round =>
    obtain ⟨m, t, rfl, rfl, hm, hmt⟩ := hrel
    obtain ⟨d, hd⟩ : ∃ d, m % b = d := ⟨_, rfl⟩
    obtain ⟨q, hq⟩ : ∃ q, m / b = q := ⟨_, rfl⟩
    have hd16 : d < 16 := by have := Nat.mod_lt m (show 0 < b by omega); omega
    have e1 : (m : Int) % (b : Int) = (d : Int) := by rw [← hd]; exact (Int.natCast_emod m b).symm
    have e2 : (m : Int) / (b : Int) = (q : Int) := by rw [← hq]; exact (Int.natCast_ediv m b).symm
    have hqm : q ≤ m := by rw [← hq]; exact Nat.div_le_self m b
    have hbu : (b : Int) ≤ 16 := by omega
    have hb0' : (2 : Int) ≤ (b : Int) := by omega
    have hdz : (d : Int) < 16 := by omega
    have hts : t.size ≤ 64 := by
      have h1 := digB_size b false hb0 n hn
      rw [HR.out, ← hmt.out, size_app] at h1
      omega
    have hl := Lib.hid (letter_lo d hd16)
    have Hd := Lib.hid hd
    have Hq := Lib.hid hq
    clear hd hq
    go_wp2
    · go_ret
      have Hz : q = 0 := by simpa using ‹((q : Int) == 0) = true›
      refine ⟨ret_str ?_, rfl⟩
      rw [hl.out, ← hmt.out, digB_small b false m (by have h0 := Hq.out; rw [Hz] at h0; rcases Nat.div_eq_zero_iff.1 h0 with h0 | h0 <;> omega), ← Hd.out, Nat.mod_eq_of_lt (by have h0 := Hq.out; rw [Hz] at h0; rcases Nat.div_eq_zero_iff.1 h0 with h0 | h0 <;> omega)]
    · have Hz : ¬ q = 0 := by simpa using ‹((q : Int) == 0) = false›
      have hmb : ¬ m < b := fun h => Hz (by rw [← Hq.out, Nat.div_eq_of_lt h])
      go_round
      case rel =>
        refine ⟨q, _, rfl, rfl, by omega, ?_⟩
        show _ = _
        rw [hl.out, ← hmt.out, digB_step b false m hb0 hmb, Hq.out, Hd.out, app_assoc]
      case measure =>
        have : q < m := by rw [← Hq.out]; exact Nat.div_lt_self (by omega) (by omega)
        simp [intOf]
        omega

set_option maxHeartbeats 1000000 in
set_option maxRecDepth 100000 in
theorem digits_up (n b : Nat) (hn : (n : Int) ≤ 18446744073709551615) (hb0 : 2 ≤ b) (hb1 : b ≤ 16) (w : World) :
    Calls Tryd.prog 11 #[.int .u64 n, .int .i64 b, .bool true] w fun e w' => e = .returned (.string (digB b true n)) ∧ w = w' := by
  obtain ⟨R, hR⟩ : ∃ R, digB b true n = R := ⟨_, rfl⟩
  rw [hR]
  have HR := Lib.hid hR
  clear hR
  have hbz : ¬ ((b : Int) = 0) := by omega
  go_enter Tryd.func11, Tryd.ntmps11
  go_wp2
  go_loop [0, 8, 9] (fun vm vs _ => ∃ (m : Nat) (t : ByteArray), vm = .int .u64 m ∧ vs = .string t ∧ (m : Int) ≤ 18446744073709551615 ∧ Hid (digB b true m ++ t = R)) (fun vm _ _ => (intOf vm).toNat)
  case atStart => exact ⟨n, ⟨#[]⟩, rfl, rfl, hn, by rw [← HR.out]; exact app_nil _⟩
  case round =>
    obtain ⟨m, t, rfl, rfl, hm, hmt⟩ := hrel
    obtain ⟨d, hd⟩ : ∃ d, m % b = d := ⟨_, rfl⟩
    obtain ⟨q, hq⟩ : ∃ q, m / b = q := ⟨_, rfl⟩
    have hd16 : d < 16 := by have := Nat.mod_lt m (show 0 < b by omega); omega
    have e1 : (m : Int) % (b : Int) = (d : Int) := by rw [← hd]; exact (Int.natCast_emod m b).symm
    have e2 : (m : Int) / (b : Int) = (q : Int) := by rw [← hq]; exact (Int.natCast_ediv m b).symm
    have hqm : q ≤ m := by rw [← hq]; exact Nat.div_le_self m b
    have hbu : (b : Int) ≤ 16 := by omega
    have hb0' : (2 : Int) ≤ (b : Int) := by omega
    have hdz : (d : Int) < 16 := by omega
    have hts : t.size ≤ 64 := by
      have h1 := digB_size b true hb0 n hn
      rw [HR.out, ← hmt.out, size_app] at h1
      omega
    have hl := Lib.hid (letter_up d hd16)
    have Hd := Lib.hid hd
    have Hq := Lib.hid hq
    clear hd hq
    go_wp2
    · go_ret
      have Hz : q = 0 := by simpa using ‹((q : Int) == 0) = true›
      refine ⟨ret_str ?_, rfl⟩
      rw [hl.out, ← hmt.out, digB_small b true m (by have h0 := Hq.out; rw [Hz] at h0; rcases Nat.div_eq_zero_iff.1 h0 with h0 | h0 <;> omega), ← Hd.out, Nat.mod_eq_of_lt (by have h0 := Hq.out; rw [Hz] at h0; rcases Nat.div_eq_zero_iff.1 h0 with h0 | h0 <;> omega)]
    · have Hz : ¬ q = 0 := by simpa using ‹((q : Int) == 0) = false›
      have hmb : ¬ m < b := fun h => Hz (by rw [← Hq.out, Nat.div_eq_of_lt h])
      go_round
      case rel =>
        refine ⟨q, _, rfl, rfl, by omega, ?_⟩
        show _ = _
        rw [hl.out, ← hmt.out, digB_step b true m hb0 hmb, Hq.out, Hd.out, app_assoc]
      case measure =>
        have : q < m := by rw [← Hq.out]; exact Nat.div_lt_self (by omega) (by omega)
        simp [intOf]
        omega

/-- spec.Digits. -/
theorem digits_any (n b : Nat) (U : Bool) (hn : (n : Int) ≤ 18446744073709551615) (hb0 : 2 ≤ b) (hb1 : b ≤ 16) (w : World) :
    Calls Tryd.prog 11 #[.int .u64 n, .int .i64 b, .bool U] w fun e w' => e = .returned (.string (digB b U n)) ∧ w = w' := by
  cases U
  · exact digits_lo n b hn hb0 hb1 w
  · exact digits_up n b hn hb0 hb1 w

end Go.Proofs.YtdadbfehackfjaaDoor
