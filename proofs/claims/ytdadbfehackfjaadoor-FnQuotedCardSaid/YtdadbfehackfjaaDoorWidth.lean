/- The walk of spec.Width: the width that the reference gives to the code point at the head of a string is the one of the model's own decoder, 0 where that decoder finds none. Condition: the string is not empty. -/
import Derived.Test.YtdadbfehackfjaaDoorProg
import Derived.WalkKit
import Derived.Lib.Walk
import Derived.Lib.Hide
import Derived.Lib.Strings
import Derived.Lib.DecodeNEq
import Derived.Lib.TrimU
import Derived.Laws.BitsLemmas
import Derived.Outline
set_option linter.unusedVariables false
set_option linter.unusedSimpArgs false
namespace Go.Proofs.YtdadbfehackfjaaDoor
open Go.RowKit

/-- The width as the reference has it: 0 where there is no code point. -/
def wid (s : ByteArray) : Nat := if (Utf8.decode s 0).1 = 65533 ∧ (Utf8.decode s 0).2 = 1 then 0 else (Utf8.decode s 0).2

theorem wid_max (s : ByteArray) : max 1 (wid s) = (Utf8.decode s 0).2 := by
  have h := Lib.width_pos s 0
  unfold wid
  split
  · rename_i h2; omega
  · omega

theorem ret_int {k : IntKind} {a b : Int} (h : a = b) : Ending.returned (.int k a) = .returned (.int k b) := by rw [h]

theorem get_of_lt (s : ByteArray) (k : Nat) (h : k < s.size) : s.get! k = s[k]'h := by
  cases s with
  | mk d => exact getElem!_pos d k h

set_option maxRecDepth 100000 in
theorem and192 : ∀ x : Fin 256, bits .and .u8 ((x.val : Nat) : Int) 192 = ((x.val / 64 * 64 : Nat) : Int) := by decide
theorem and192' (x : UInt8) : bits .and .u8 (x.toNat : Int) 192 = ((x.toNat / 64 * 64 : Nat) : Int) := and192 ⟨x.toNat, x.toNat_lt⟩
set_option maxRecDepth 100000 in
theorem and31 : ∀ x : Fin 256, bits .and .i64 ((x.val : Nat) : Int) 31 = ((x.val % 32 : Nat) : Int) := by decide
theorem and31' (x : UInt8) : bits .and .i64 (x.toNat : Int) 31 = ((x.toNat % 32 : Nat) : Int) := and31 ⟨x.toNat, x.toNat_lt⟩
set_option maxRecDepth 100000 in
theorem and15 : ∀ x : Fin 256, bits .and .i64 ((x.val : Nat) : Int) 15 = ((x.val % 16 : Nat) : Int) := by decide
theorem and15' (x : UInt8) : bits .and .i64 (x.toNat : Int) 15 = ((x.toNat % 16 : Nat) : Int) := and15 ⟨x.toNat, x.toNat_lt⟩
set_option maxRecDepth 100000 in
theorem and7 : ∀ x : Fin 256, bits .and .i64 ((x.val : Nat) : Int) 7 = ((x.val % 8 : Nat) : Int) := by decide
theorem and7' (x : UInt8) : bits .and .i64 (x.toNat : Int) 7 = ((x.toNat % 8 : Nat) : Int) := and7 ⟨x.toNat, x.toNat_lt⟩

/-- 'v << 6 | y', y below 64. -/
theorem or_six (a b : Nat) (ha : a < 4294967296) (hb : b < 64) : bits .or .i64 ((a : Int) * 64) (b : Int) = ((a * 64 + b : Nat) : Int) := by
  have e1 : (BitVec.ofInt 64 ((a : Int) * 64)) = BitVec.ofNat 64 (a * 64) := by
    rw [show ((a : Int) * 64) = ((a * 64 : Nat) : Int) by omega]
    exact BitVec.ofInt_natCast 64 _
  have e2 : (BitVec.ofInt 64 (b : Int)) = BitVec.ofNat 64 b := BitVec.ofInt_natCast 64 _
  show IntKind.i64.wrap ((BitVec.ofInt 64 ((a : Int) * 64) ||| BitVec.ofInt 64 (b : Int)).toNat : Int) = _
  have h : a * 64 ||| b = a * 64 + b := by
    have := Nat.two_pow_add_eq_or_of_lt (i := 6) (b := b) (by omega) a
    rw [Nat.mul_comm a 64]
    exact this.symm
  have e3 : (BitVec.ofNat 64 (a * 64) ||| BitVec.ofNat 64 b).toNat = a * 64 + b := by
    rw [BitVec.toNat_or, BitVec.toNat_ofNat, BitVec.toNat_ofNat, Nat.mod_eq_of_lt (by omega), Nat.mod_eq_of_lt (by omega), h]
  rw [e1, e2, e3, IntKind.wrap_i64]
  omega

/-- What the decoder gives, by the four bytes. -/
theorem wid_of (s : ByteArray) (r k : Nat) (h : Lib.decodeN s.size (s.get! 0).toNat (s.get! 1).toNat (s.get! 2).toNat (s.get! 3).toNat = (r, k)) : wid s = if r = 65533 ∧ k = 1 then 0 else k := by
  have hdec : Utf8.decode s 0 = (r, k) := by
    rw [Lib.decode_at, Nat.sub_zero, Nat.zero_add, Nat.zero_add, Nat.zero_add, h]
  unfold wid
  rw [hdec]
theorem wid_bad (s : ByteArray) (h : Lib.decodeN s.size (s.get! 0).toNat (s.get! 1).toNat (s.get! 2).toNat (s.get! 3).toNat = (65533, 1)) : wid s = 0 := by
  rw [wid_of s _ _ h]; rfl
theorem wid_good (s : ByteArray) (r k : Nat) (h : Lib.decodeN s.size (s.get! 0).toNat (s.get! 1).toNat (s.get! 2).toNat (s.get! 3).toNat = (r, k)) (hk : 2 ≤ k) : wid s = k := by
  rw [wid_of s _ _ h, if_neg (by omega)]
theorem wid_one (s : ByteArray) (h : (s.get! 0).toNat < 128) : wid s = 1 := by
  rw [wid_of s (s.get! 0).toNat 1 (by simp [Lib.decodeN, h]), if_neg (by omega)]
theorem wid_none (s : ByteArray) (hc : (128 ≤ (s.get! 0).toNat ∧ (s.get! 0).toNat < 194) ∨ 245 ≤ (s.get! 0).toNat) : wid s = 0 := by
  have l0 := (s.get! 0).toNat_lt; have l1 := (s.get! 1).toNat_lt; have l2 := (s.get! 2).toNat_lt; have l3 := (s.get! 3).toNat_lt
  apply wid_bad
  generalize (s.get! 0).toNat = x0 at *
  generalize (s.get! 1).toNat = x1 at *
  generalize (s.get! 2).toNat = x2 at *
  generalize (s.get! 3).toNat = x3 at *
  unfold Lib.decodeN
  repeat' split
  all_goals first | rfl | (exfalso; omega)

/-- The number that the bits behind the lead byte's come to, byte by byte. -/
def vAt (s : ByteArray) (v0 : Nat) : Nat → Nat
  | 0 => v0
  | k + 1 => vAt s v0 k * 64 + (s.get! (k + 1)).toNat % 64
def noPoint (v least : Nat) : Prop := v < least ∨ 1114111 < v ∨ (55296 ≤ v ∧ v < 57344)

/-- A class of lead bytes: n bytes, the lead byte's bits v0, the least number that may be written so. -/
def Lead (x n v0 least : Nat) : Prop :=
  (n = 2 ∧ 194 ≤ x ∧ x < 224 ∧ v0 = x % 32 ∧ least = 128) ∨ (n = 3 ∧ 224 ≤ x ∧ x < 240 ∧ v0 = x % 16 ∧ least = 2048) ∨ (n = 4 ∧ 240 ≤ x ∧ x < 245 ∧ v0 = x % 8 ∧ least = 65536)

theorem lead_short (s : ByteArray) (n v0 least : Nat) (hl : Lead (s.get! 0).toNat n v0 least) (h : s.size < n) : wid s = 0 := by
  apply wid_bad
  generalize (s.get! 0).toNat = x0 at *
  generalize (s.get! 1).toNat = x1 at *
  generalize (s.get! 2).toNat = x2 at *
  generalize (s.get! 3).toNat = x3 at *
  unfold Lead at hl
  unfold Lib.decodeN
  repeat' split
  all_goals first | rfl | (exfalso; omega)
theorem lead_cut (s : ByteArray) (n v0 least : Nat) (hl : Lead (s.get! 0).toNat n v0 least) (k : Nat) (h1 : 1 ≤ k) (h2 : k < n) (h : ¬ (s.get! k).toNat / 64 = 2) : wid s = 0 := by
  apply wid_bad
  unfold Lead at hl
  have hk : k = 1 ∨ k = 2 ∨ k = 3 := by omega
  generalize (s.get! 0).toNat = x0 at *
  unfold Lib.decodeN
  rcases hk with rfl | rfl | rfl
  · generalize (s.get! 1).toNat = x1 at *
    repeat' split
    all_goals first | rfl | (exfalso; omega)
  · generalize (s.get! 2).toNat = x2 at *
    repeat' split
    all_goals first | rfl | (exfalso; omega)
  · generalize (s.get! 3).toNat = x3 at *
    repeat' split
    all_goals first | rfl | (exfalso; omega)
theorem vAt1 (s : ByteArray) (v0 : Nat) : vAt s v0 1 = v0 * 64 + (s.get! 1).toNat % 64 := rfl
theorem vAt2 (s : ByteArray) (v0 : Nat) : vAt s v0 2 = (v0 * 64 + (s.get! 1).toNat % 64) * 64 + (s.get! 2).toNat % 64 := rfl
theorem vAt3 (s : ByteArray) (v0 : Nat) : vAt s v0 3 = ((v0 * 64 + (s.get! 1).toNat % 64) * 64 + (s.get! 2).toNat % 64) * 64 + (s.get! 3).toNat % 64 := rfl
theorem lead_bad (s : ByteArray) (n v0 least : Nat) (hl : Lead (s.get! 0).toNat n v0 least) (hn : n ≤ s.size) (h : ∀ k, 1 ≤ k → k < n → (s.get! k).toNat / 64 = 2) (hv : noPoint (vAt s v0 (n - 1)) least) : wid s = 0 := by
  apply wid_bad
  have l1 := (s.get! 1).toNat_lt; have l2 := (s.get! 2).toNat_lt; have l3 := (s.get! 3).toNat_lt
  unfold Lead at hl
  unfold noPoint at hv
  unfold Lib.decodeN
  rcases hl with ⟨rfl, hl⟩ | ⟨rfl, hl⟩ | ⟨rfl, hl⟩
  · have h1 := h 1 (by omega) (by omega)
    simp only [Nat.reduceSub, vAt1] at hv
    generalize (s.get! 0).toNat = x0 at *
    generalize (s.get! 1).toNat = x1 at *
    repeat' split
    all_goals first | rfl | (exfalso; omega)
  · have h1 := h 1 (by omega) (by omega)
    have h2 := h 2 (by omega) (by omega)
    simp only [Nat.reduceSub, vAt2] at hv
    generalize (s.get! 0).toNat = x0 at *
    generalize (s.get! 1).toNat = x1 at *
    generalize (s.get! 2).toNat = x2 at *
    repeat' split
    all_goals first | rfl | (exfalso; omega)
  · have h1 := h 1 (by omega) (by omega)
    have h2 := h 2 (by omega) (by omega)
    have h3 := h 3 (by omega) (by omega)
    simp only [Nat.reduceSub, vAt3] at hv
    generalize (s.get! 0).toNat = x0 at *
    generalize (s.get! 1).toNat = x1 at *
    generalize (s.get! 2).toNat = x2 at *
    generalize (s.get! 3).toNat = x3 at *
    repeat' split
    all_goals first | rfl | (exfalso; omega)
theorem lead_good (s : ByteArray) (n v0 least : Nat) (hl : Lead (s.get! 0).toNat n v0 least) (hn : n ≤ s.size) (h : ∀ k, 1 ≤ k → k < n → (s.get! k).toNat / 64 = 2) (hv : ¬ noPoint (vAt s v0 (n - 1)) least) : wid s = n := by
  have l1 := (s.get! 1).toNat_lt; have l2 := (s.get! 2).toNat_lt; have l3 := (s.get! 3).toNat_lt
  apply wid_good s (vAt s v0 (n - 1)) n _ (by unfold Lead at hl; omega)
  unfold Lead at hl
  unfold noPoint at hv
  unfold Lib.decodeN
  rcases hl with ⟨rfl, hl⟩ | ⟨rfl, hl⟩ | ⟨rfl, hl⟩
  · have h1 := h 1 (by omega) (by omega)
    simp only [Nat.reduceSub, vAt1] at hv ⊢
    generalize (s.get! 0).toNat = x0 at *
    generalize (s.get! 1).toNat = x1 at *
    repeat' split
    all_goals first | (exfalso; omega) | (apply Prod.ext <;> simp only <;> omega)
  · have h1 := h 1 (by omega) (by omega)
    have h2 := h 2 (by omega) (by omega)
    simp only [Nat.reduceSub, vAt2] at hv ⊢
    generalize (s.get! 0).toNat = x0 at *
    generalize (s.get! 1).toNat = x1 at *
    generalize (s.get! 2).toNat = x2 at *
    repeat' split
    all_goals first | (exfalso; omega) | (apply Prod.ext <;> simp only <;> omega)
  · have h1 := h 1 (by omega) (by omega)
    have h2 := h 2 (by omega) (by omega)
    have h3 := h 3 (by omega) (by omega)
    simp only [Nat.reduceSub, vAt3] at hv ⊢
    generalize (s.get! 0).toNat = x0 at *
    generalize (s.get! 1).toNat = x1 at *
    generalize (s.get! 2).toNat = x2 at *
    generalize (s.get! 3).toNat = x3 at *
    repeat' split
    all_goals first | (exfalso; omega) | (apply Prod.ext <;> simp only <;> omega)
theorem vAt_lt (s : ByteArray) (v0 : Nat) (h0 : v0 < 32) : ∀ k, k ≤ 3 → vAt s v0 k < 8388608 ∧ (k ≤ 2 → vAt s v0 k < 131072) := by
  intro k hk
  have := (s.get! 1).toNat_lt; have := (s.get! 2).toNat_lt; have := (s.get! 3).toNat_lt
  rcases (show k = 0 ∨ k = 1 ∨ k = 2 ∨ k = 3 by omega) with rfl | rfl | rfl | rfl
  · exact ⟨by show v0 < _; omega, fun _ => by show v0 < _; omega⟩
  · rw [vAt1]; omega
  · rw [vAt2]; omega
  · rw [vAt3]; omega

set_option maxHeartbeats 1000000 in
set_option maxRecDepth 100000 in
theorem width_1 (s : ByteArray) (w : World) (h0 : 0 < s.size) (hc : (s.get! 0).toNat < 128) :
    Calls Tryd.prog 31 #[.string s] w fun e w' => e = .returned (.int .i64 (wid s)) ∧ w = w' := by
  rw [wid_one s hc]
  obtain ⟨x0, hx0⟩ : ∃ x0, s.get! 0 = x0 := ⟨_, rfl⟩
  have hs0 : s[0]'(by omega) = x0 := by rw [← hx0]; exact (get_of_lt s 0 (by omega)).symm
  rw [hx0] at hc
  clear hx0
  have hz0 : (0 : Int) < (s.size : Int) := by omega
  have c0' : (x0.toNat : Int) < 128 := by omega
  go_enter Tryd.func31, Tryd.ntmps31
  go_wp2
  go_ret
  exact ⟨rfl, rfl⟩

set_option maxHeartbeats 1000000 in
set_option maxRecDepth 100000 in
theorem width_none (s : ByteArray) (w : World) (h0 : 0 < s.size) (hc : (128 ≤ (s.get! 0).toNat ∧ (s.get! 0).toNat < 194) ∨ 245 ≤ (s.get! 0).toNat) :
    Calls Tryd.prog 31 #[.string s] w fun e w' => e = .returned (.int .i64 (wid s)) ∧ w = w' := by
  rw [wid_none s hc]
  obtain ⟨x0, hx0⟩ : ∃ x0, s.get! 0 = x0 := ⟨_, rfl⟩
  have hs0 : s[0]'(by omega) = x0 := by rw [← hx0]; exact (get_of_lt s 0 (by omega)).symm
  rw [hx0] at hc
  clear hx0
  have hz0 : (0 : Int) < (s.size : Int) := by omega
  rcases hc with hc | hc
  · have hc1 : (x0.toNat : Int) < 194 := by omega
    have hc2 : ¬ ((x0.toNat : Int) < 128) := by omega
    go_enter Tryd.func31, Tryd.ntmps31
    go_wp2
    go_ret
    exact ⟨rfl, rfl⟩
  · have hc1 : (245 : Int) ≤ (x0.toNat : Int) := by omega
    have hc2 : (x0.toNat : Int) < 256 := by have := x0.toNat_lt; omega
    go_enter Tryd.func31, Tryd.ntmps31
    go_wp2
    go_ret
    exact ⟨rfl, rfl⟩

set_option maxHeartbeats 2000000 in
set_option maxRecDepth 100000 in
theorem width_2 (s : ByteArray) (w : World) (h0 : 0 < s.size) (hc : 194 ≤ (s.get! 0).toNat ∧ (s.get! 0).toNat < 224) :
    Calls Tryd.prog 31 #[.string s] w fun e w' => e = .returned (.int .i64 (wid s)) ∧ w = w' := by
  obtain ⟨v0, hv0⟩ : ∃ v : Nat, v = (s.get! 0).toNat % 32 := ⟨_, rfl⟩
  have hL : Lead (s.get! 0).toNat 2 v0 128 := by unfold Lead; omega
  have HS := Lib.hid (lead_short s _ _ _ hL)
  have HC := Lib.hid (lead_cut s _ _ _ hL)
  have HB := Lib.hid (lead_bad s _ _ _ hL)
  have HG := Lib.hid (lead_good s _ _ _ hL)
  have HV := Lib.hid (vAt_lt s v0 (by omega))
  have hb0 : (v0 : Int) < 32 := by omega
  have ha0 : bits .and .i64 ((s.get! 0).toNat : Int) 31 = (v0 : Int) := by rw [hv0]; exact and31' _
  clear hv0 hL
  obtain ⟨x0, hx0⟩ : ∃ x0, s.get! 0 = x0 := ⟨_, rfl⟩
  have hs0 : s[0]'(by omega) = x0 := by rw [← hx0]; exact (get_of_lt s 0 (by omega)).symm
  rw [hx0] at hc ha0
  clear hx0
  have hz0 : (0 : Int) < (s.size : Int) := by omega
  have hc1 : (194 : Int) ≤ (x0.toNat : Int) := by omega
  have hc2 : (x0.toNat : Int) < 224 := by omega
  clear hc
  by_cases hn : s.size < 2
  · rw [HS.out hn]
    have hn' : (s.size : Int) < 2 := by omega
    clear HS HC HB HG HV hn
    go_enter Tryd.func31, Tryd.ntmps31
    go_wp2
    go_ret
    exact ⟨rfl, rfl⟩
  · have hn' : (2 : Int) ≤ (s.size : Int) := by omega
    have hn2 : 2 ≤ s.size := by omega
    clear hn
    go_enter Tryd.func31, Tryd.ntmps31
    go_wp2
    go_loop [5, 7] (fun v i => ∃ k : Nat, 1 ≤ k ∧ k ≤ 2 ∧ i = .int .i64 k ∧ v = .int .i64 (vAt s v0 (k - 1)) ∧ Hid (∀ j, 1 ≤ j → j < k → (s.get! j).toNat / 64 = 2)) (fun _ i => 2 - (intOf i).toNat)
    case atStart => exact ⟨1, by omega, by omega, rfl, rfl, fun j h1 h2 => by omega⟩
    case round =>
      obtain ⟨k, hk1, hk2, rfl, rfl, hcont⟩ := hrel
      by_cases hk : k < 2
      · obtain ⟨x, hx⟩ : ∃ x, s.get! k = x := ⟨_, rfl⟩
        have hsk : s[k]'(by omega) = x := by rw [← hx]; exact (get_of_lt s k (by omega)).symm
        have hzk : (k : Int) < (s.size : Int) := by omega
        have hzk2 : (k : Int) < 2 := by omega
        have bx := and192' x
        obtain ⟨v, hv⟩ : ∃ v, vAt s v0 (k - 1) = v := ⟨_, rfl⟩
        have hvl : (v : Int) < 131072 := by have := (HV.out (k - 1) (by omega)).2 (by omega); omega
        have hor : bits .or .i64 ((v : Int) * 64) ((x.toNat : Int) % 64) = ((v * 64 + x.toNat % 64 : Nat) : Int) := or_six v (x.toNat % 64) (by omega) (by omega)
        have hxl : (x.toNat : Int) < 256 := by have := x.toNat_lt; omega
        have hv1 : vAt s v0 k = v * 64 + x.toNat % 64 := by
          obtain ⟨m, rfl⟩ : ∃ m, k = m + 1 := ⟨k - 1, by omega⟩
          show vAt s v0 m * 64 + (s.get! (m + 1)).toNat % 64 = _
          rw [hx]; rw [Nat.add_sub_cancel] at hv; rw [hv]
        by_cases hq : x.toNat / 64 = 2
        · have q : ((x.toNat : Int) / 64 * 64 != 128) = false := by simp; omega
          have Hx := Lib.hid hx; have Hv := Lib.hid hv; have Hv1 := Lib.hid hv1; have Hq := Lib.hid hq
          clear hx hv1 hq HS HC HB HG HV
          rw [Hv.out]
          clear hv
          go_wp2
          go_round
          case rel =>
            refine ⟨k + 1, by omega, by omega, by go_num, ?_, fun j h1 h2 => ?_⟩
            · rw [Nat.add_sub_cancel, Hv1.out]; first | rfl | go_num
            · rcases (show j < k ∨ j = k by omega) with h | rfl
              · exact hcont.out j h1 h
              · rw [Hx.out]; exact Hq.out
          case measure => simp [intOf]; omega
        · have q : ((x.toNat : Int) / 64 * 64 != 128) = true := by simp; omega
          have HE : Hid (wid s = 0) := HC.out k hk1 hk (by rw [hx]; exact hq)
          have Hv := Lib.hid hv
          clear hx hv1 hq HS HC HB HG HV hcont hor
          rw [Hv.out]
          clear hv
          go_wp2
          go_ret
          exact ⟨ret_int (by rw [HE.out]; rfl), rfl⟩
      · obtain rfl : k = 2 := by omega
        obtain ⟨v, hv⟩ : ∃ v, vAt s v0 (2 - 1) = v := ⟨_, rfl⟩
        have HB1 : Hid (noPoint v 128 → wid s = 0) := fun h => HB.out hn2 hcont.out (by rw [hv]; exact h)
        have HG1 : Hid (¬ noPoint v 128 → wid s = 2) := fun h => HG.out hn2 hcont.out (by rw [hv]; exact h)
        have Hv := Lib.hid hv
        clear HS HC HB HG HV hcont
        rw [Hv.out]
        clear hv Hv
        by_cases m1 : (v : Int) < 128
        · have HE : Hid (wid s = 0) := HB1.out (.inl (by omega))
          clear HB1 HG1
          go_wp2
          go_ret
          exact ⟨ret_int (by rw [HE.out]; rfl), rfl⟩
        · have m1' : (128 : Int) ≤ (v : Int) := by omega
          clear m1
          by_cases m2 : (1114111 : Int) < (v : Int)
          · have HE : Hid (wid s = 0) := HB1.out (.inr (.inl (by omega)))
            clear HB1 HG1
            go_wp2
            go_ret
            exact ⟨ret_int (by rw [HE.out]; rfl), rfl⟩
          · have m2' : (v : Int) ≤ 1114111 := by omega
            clear m2
            by_cases m3 : (55296 : Int) ≤ (v : Int)
            · by_cases m4 : (v : Int) < 57344
              · have HE : Hid (wid s = 0) := HB1.out (.inr (.inr ⟨by omega, by omega⟩))
                clear HB1 HG1
                go_wp2
                go_ret
                exact ⟨ret_int (by rw [HE.out]; rfl), rfl⟩
              · have m4' : (57344 : Int) ≤ (v : Int) := by omega
                have HE : Hid (wid s = 2) := HG1.out (by unfold noPoint; omega)
                clear HB1 HG1 m4
                go_wp2
                go_ret
                exact ⟨ret_int (by rw [HE.out]; rfl), rfl⟩
            · have m3' : (v : Int) < 55296 := by omega
              have HE : Hid (wid s = 2) := HG1.out (by unfold noPoint; omega)
              have m3d : decide ((55296 : Int) ≤ (v : Int)) = false := by simp; omega
              clear HB1 HG1 m3 m3'
              go_wp2
              go_ret
              exact ⟨ret_int (by rw [HE.out]; rfl), rfl⟩

set_option maxHeartbeats 2000000 in
set_option maxRecDepth 100000 in
theorem width_3 (s : ByteArray) (w : World) (h0 : 0 < s.size) (hc : 224 ≤ (s.get! 0).toNat ∧ (s.get! 0).toNat < 240) :
    Calls Tryd.prog 31 #[.string s] w fun e w' => e = .returned (.int .i64 (wid s)) ∧ w = w' := by
  obtain ⟨v0, hv0⟩ : ∃ v : Nat, v = (s.get! 0).toNat % 16 := ⟨_, rfl⟩
  have hL : Lead (s.get! 0).toNat 3 v0 2048 := by unfold Lead; omega
  have HS := Lib.hid (lead_short s _ _ _ hL)
  have HC := Lib.hid (lead_cut s _ _ _ hL)
  have HB := Lib.hid (lead_bad s _ _ _ hL)
  have HG := Lib.hid (lead_good s _ _ _ hL)
  have HV := Lib.hid (vAt_lt s v0 (by omega))
  have hb0 : (v0 : Int) < 16 := by omega
  have ha0 : bits .and .i64 ((s.get! 0).toNat : Int) 15 = (v0 : Int) := by rw [hv0]; exact and15' _
  clear hv0 hL
  obtain ⟨x0, hx0⟩ : ∃ x0, s.get! 0 = x0 := ⟨_, rfl⟩
  have hs0 : s[0]'(by omega) = x0 := by rw [← hx0]; exact (get_of_lt s 0 (by omega)).symm
  rw [hx0] at hc ha0
  clear hx0
  have hz0 : (0 : Int) < (s.size : Int) := by omega
  have hc1 : (224 : Int) ≤ (x0.toNat : Int) := by omega
  have hc2 : (x0.toNat : Int) < 240 := by omega
  clear hc
  by_cases hn : s.size < 3
  · rw [HS.out hn]
    have hn' : (s.size : Int) < 3 := by omega
    clear HS HC HB HG HV hn
    go_enter Tryd.func31, Tryd.ntmps31
    go_wp2
    go_ret
    exact ⟨rfl, rfl⟩
  · have hn' : (3 : Int) ≤ (s.size : Int) := by omega
    have hn2 : 3 ≤ s.size := by omega
    clear hn
    go_enter Tryd.func31, Tryd.ntmps31
    go_wp2
    go_loop [5, 7] (fun v i => ∃ k : Nat, 1 ≤ k ∧ k ≤ 3 ∧ i = .int .i64 k ∧ v = .int .i64 (vAt s v0 (k - 1)) ∧ Hid (∀ j, 1 ≤ j → j < k → (s.get! j).toNat / 64 = 2)) (fun _ i => 3 - (intOf i).toNat)
    case atStart => exact ⟨1, by omega, by omega, rfl, rfl, fun j h1 h2 => by omega⟩
    case round =>
      obtain ⟨k, hk1, hk2, rfl, rfl, hcont⟩ := hrel
      by_cases hk : k < 3
      · obtain ⟨x, hx⟩ : ∃ x, s.get! k = x := ⟨_, rfl⟩
        have hsk : s[k]'(by omega) = x := by rw [← hx]; exact (get_of_lt s k (by omega)).symm
        have hzk : (k : Int) < (s.size : Int) := by omega
        have hzk2 : (k : Int) < 3 := by omega
        have bx := and192' x
        obtain ⟨v, hv⟩ : ∃ v, vAt s v0 (k - 1) = v := ⟨_, rfl⟩
        have hvl : (v : Int) < 131072 := by have := (HV.out (k - 1) (by omega)).2 (by omega); omega
        have hor : bits .or .i64 ((v : Int) * 64) ((x.toNat : Int) % 64) = ((v * 64 + x.toNat % 64 : Nat) : Int) := or_six v (x.toNat % 64) (by omega) (by omega)
        have hxl : (x.toNat : Int) < 256 := by have := x.toNat_lt; omega
        have hv1 : vAt s v0 k = v * 64 + x.toNat % 64 := by
          obtain ⟨m, rfl⟩ : ∃ m, k = m + 1 := ⟨k - 1, by omega⟩
          show vAt s v0 m * 64 + (s.get! (m + 1)).toNat % 64 = _
          rw [hx]; rw [Nat.add_sub_cancel] at hv; rw [hv]
        by_cases hq : x.toNat / 64 = 2
        · have q : ((x.toNat : Int) / 64 * 64 != 128) = false := by simp; omega
          have Hx := Lib.hid hx; have Hv := Lib.hid hv; have Hv1 := Lib.hid hv1; have Hq := Lib.hid hq
          clear hx hv1 hq HS HC HB HG HV
          rw [Hv.out]
          clear hv
          go_wp2
          go_round
          case rel =>
            refine ⟨k + 1, by omega, by omega, by go_num, ?_, fun j h1 h2 => ?_⟩
            · rw [Nat.add_sub_cancel, Hv1.out]; first | rfl | go_num
            · rcases (show j < k ∨ j = k by omega) with h | rfl
              · exact hcont.out j h1 h
              · rw [Hx.out]; exact Hq.out
          case measure => simp [intOf]; omega
        · have q : ((x.toNat : Int) / 64 * 64 != 128) = true := by simp; omega
          have HE : Hid (wid s = 0) := HC.out k hk1 hk (by rw [hx]; exact hq)
          have Hv := Lib.hid hv
          clear hx hv1 hq HS HC HB HG HV hcont hor
          rw [Hv.out]
          clear hv
          go_wp2
          go_ret
          exact ⟨ret_int (by rw [HE.out]; rfl), rfl⟩
      · obtain rfl : k = 3 := by omega
        obtain ⟨v, hv⟩ : ∃ v, vAt s v0 (3 - 1) = v := ⟨_, rfl⟩
        have HB1 : Hid (noPoint v 2048 → wid s = 0) := fun h => HB.out hn2 hcont.out (by rw [hv]; exact h)
        have HG1 : Hid (¬ noPoint v 2048 → wid s = 3) := fun h => HG.out hn2 hcont.out (by rw [hv]; exact h)
        have Hv := Lib.hid hv
        clear HS HC HB HG HV hcont
        rw [Hv.out]
        clear hv Hv
        by_cases m1 : (v : Int) < 2048
        · have HE : Hid (wid s = 0) := HB1.out (.inl (by omega))
          clear HB1 HG1
          go_wp2
          go_ret
          exact ⟨ret_int (by rw [HE.out]; rfl), rfl⟩
        · have m1' : (2048 : Int) ≤ (v : Int) := by omega
          clear m1
          by_cases m2 : (1114111 : Int) < (v : Int)
          · have HE : Hid (wid s = 0) := HB1.out (.inr (.inl (by omega)))
            clear HB1 HG1
            go_wp2
            go_ret
            exact ⟨ret_int (by rw [HE.out]; rfl), rfl⟩
          · have m2' : (v : Int) ≤ 1114111 := by omega
            clear m2
            by_cases m3 : (55296 : Int) ≤ (v : Int)
            · by_cases m4 : (v : Int) < 57344
              · have HE : Hid (wid s = 0) := HB1.out (.inr (.inr ⟨by omega, by omega⟩))
                clear HB1 HG1
                go_wp2
                go_ret
                exact ⟨ret_int (by rw [HE.out]; rfl), rfl⟩
              · have m4' : (57344 : Int) ≤ (v : Int) := by omega
                have HE : Hid (wid s = 3) := HG1.out (by unfold noPoint; omega)
                clear HB1 HG1 m4
                go_wp2
                go_ret
                exact ⟨ret_int (by rw [HE.out]; rfl), rfl⟩
            · have m3' : (v : Int) < 55296 := by omega
              have HE : Hid (wid s = 3) := HG1.out (by unfold noPoint; omega)
              have m3d : decide ((55296 : Int) ≤ (v : Int)) = false := by simp; omega
              clear HB1 HG1 m3 m3'
              go_wp2
              go_ret
              exact ⟨ret_int (by rw [HE.out]; rfl), rfl⟩

set_option maxHeartbeats 2000000 in
set_option maxRecDepth 100000 in
theorem width_4 (s : ByteArray) (w : World) (h0 : 0 < s.size) (hc : 240 ≤ (s.get! 0).toNat ∧ (s.get! 0).toNat < 245) :
    Calls Tryd.prog 31 #[.string s] w fun e w' => e = .returned (.int .i64 (wid s)) ∧ w = w' := by
  obtain ⟨v0, hv0⟩ : ∃ v : Nat, v = (s.get! 0).toNat % 8 := ⟨_, rfl⟩
  have hL : Lead (s.get! 0).toNat 4 v0 65536 := by unfold Lead; omega
  have HS := Lib.hid (lead_short s _ _ _ hL)
  have HC := Lib.hid (lead_cut s _ _ _ hL)
  have HB := Lib.hid (lead_bad s _ _ _ hL)
  have HG := Lib.hid (lead_good s _ _ _ hL)
  have HV := Lib.hid (vAt_lt s v0 (by omega))
  have hb0 : (v0 : Int) < 8 := by omega
  have ha0 : bits .and .i64 ((s.get! 0).toNat : Int) 7 = (v0 : Int) := by rw [hv0]; exact and7' _
  clear hv0 hL
  obtain ⟨x0, hx0⟩ : ∃ x0, s.get! 0 = x0 := ⟨_, rfl⟩
  have hs0 : s[0]'(by omega) = x0 := by rw [← hx0]; exact (get_of_lt s 0 (by omega)).symm
  rw [hx0] at hc ha0
  clear hx0
  have hz0 : (0 : Int) < (s.size : Int) := by omega
  have hc1 : (240 : Int) ≤ (x0.toNat : Int) := by omega
  have hc2 : (x0.toNat : Int) < 245 := by omega
  clear hc
  by_cases hn : s.size < 4
  · rw [HS.out hn]
    have hn' : (s.size : Int) < 4 := by omega
    clear HS HC HB HG HV hn
    go_enter Tryd.func31, Tryd.ntmps31
    go_wp2
    go_ret
    exact ⟨rfl, rfl⟩
  · have hn' : (4 : Int) ≤ (s.size : Int) := by omega
    have hn2 : 4 ≤ s.size := by omega
    clear hn
    go_enter Tryd.func31, Tryd.ntmps31
    go_wp2
    go_loop [5, 7] (fun v i => ∃ k : Nat, 1 ≤ k ∧ k ≤ 4 ∧ i = .int .i64 k ∧ v = .int .i64 (vAt s v0 (k - 1)) ∧ Hid (∀ j, 1 ≤ j → j < k → (s.get! j).toNat / 64 = 2)) (fun _ i => 4 - (intOf i).toNat)
    case atStart => exact ⟨1, by omega, by omega, rfl, rfl, fun j h1 h2 => by omega⟩
    case round =>
      obtain ⟨k, hk1, hk2, rfl, rfl, hcont⟩ := hrel
      by_cases hk : k < 4
      · obtain ⟨x, hx⟩ : ∃ x, s.get! k = x := ⟨_, rfl⟩
        have hsk : s[k]'(by omega) = x := by rw [← hx]; exact (get_of_lt s k (by omega)).symm
        have hzk : (k : Int) < (s.size : Int) := by omega
        have hzk2 : (k : Int) < 4 := by omega
        have bx := and192' x
        obtain ⟨v, hv⟩ : ∃ v, vAt s v0 (k - 1) = v := ⟨_, rfl⟩
        have hvl : (v : Int) < 131072 := by have := (HV.out (k - 1) (by omega)).2 (by omega); omega
        have hor : bits .or .i64 ((v : Int) * 64) ((x.toNat : Int) % 64) = ((v * 64 + x.toNat % 64 : Nat) : Int) := or_six v (x.toNat % 64) (by omega) (by omega)
        have hxl : (x.toNat : Int) < 256 := by have := x.toNat_lt; omega
        have hv1 : vAt s v0 k = v * 64 + x.toNat % 64 := by
          obtain ⟨m, rfl⟩ : ∃ m, k = m + 1 := ⟨k - 1, by omega⟩
          show vAt s v0 m * 64 + (s.get! (m + 1)).toNat % 64 = _
          rw [hx]; rw [Nat.add_sub_cancel] at hv; rw [hv]
        by_cases hq : x.toNat / 64 = 2
        · have q : ((x.toNat : Int) / 64 * 64 != 128) = false := by simp; omega
          have Hx := Lib.hid hx; have Hv := Lib.hid hv; have Hv1 := Lib.hid hv1; have Hq := Lib.hid hq
          clear hx hv1 hq HS HC HB HG HV
          rw [Hv.out]
          clear hv
          go_wp2
          go_round
          case rel =>
            refine ⟨k + 1, by omega, by omega, by go_num, ?_, fun j h1 h2 => ?_⟩
            · rw [Nat.add_sub_cancel, Hv1.out]; first | rfl | go_num
            · rcases (show j < k ∨ j = k by omega) with h | rfl
              · exact hcont.out j h1 h
              · rw [Hx.out]; exact Hq.out
          case measure => simp [intOf]; omega
        · have q : ((x.toNat : Int) / 64 * 64 != 128) = true := by simp; omega
          have HE : Hid (wid s = 0) := HC.out k hk1 hk (by rw [hx]; exact hq)
          have Hv := Lib.hid hv
          clear hx hv1 hq HS HC HB HG HV hcont hor
          rw [Hv.out]
          clear hv
          go_wp2
          go_ret
          exact ⟨ret_int (by rw [HE.out]; rfl), rfl⟩
      · obtain rfl : k = 4 := by omega
        obtain ⟨v, hv⟩ : ∃ v, vAt s v0 (4 - 1) = v := ⟨_, rfl⟩
        have HB1 : Hid (noPoint v 65536 → wid s = 0) := fun h => HB.out hn2 hcont.out (by rw [hv]; exact h)
        have HG1 : Hid (¬ noPoint v 65536 → wid s = 4) := fun h => HG.out hn2 hcont.out (by rw [hv]; exact h)
        have Hv := Lib.hid hv
        clear HS HC HB HG HV hcont
        rw [Hv.out]
        clear hv Hv
        by_cases m1 : (v : Int) < 65536
        · have HE : Hid (wid s = 0) := HB1.out (.inl (by omega))
          clear HB1 HG1
          go_wp2
          go_ret
          exact ⟨ret_int (by rw [HE.out]; rfl), rfl⟩
        · have m1' : (65536 : Int) ≤ (v : Int) := by omega
          clear m1
          by_cases m2 : (1114111 : Int) < (v : Int)
          · have HE : Hid (wid s = 0) := HB1.out (.inr (.inl (by omega)))
            clear HB1 HG1
            go_wp2
            go_ret
            exact ⟨ret_int (by rw [HE.out]; rfl), rfl⟩
          · have m2' : (v : Int) ≤ 1114111 := by omega
            clear m2
            by_cases m3 : (55296 : Int) ≤ (v : Int)
            · by_cases m4 : (v : Int) < 57344
              · have HE : Hid (wid s = 0) := HB1.out (.inr (.inr ⟨by omega, by omega⟩))
                clear HB1 HG1
                go_wp2
                go_ret
                exact ⟨ret_int (by rw [HE.out]; rfl), rfl⟩
              · have m4' : (57344 : Int) ≤ (v : Int) := by omega
                have HE : Hid (wid s = 4) := HG1.out (by unfold noPoint; omega)
                clear HB1 HG1 m4
                go_wp2
                go_ret
                exact ⟨ret_int (by rw [HE.out]; rfl), rfl⟩
            · have m3' : (v : Int) < 55296 := by omega
              have HE : Hid (wid s = 4) := HG1.out (by unfold noPoint; omega)
              have m3d : decide ((55296 : Int) ≤ (v : Int)) = false := by simp; omega
              clear HB1 HG1 m3 m3'
              go_wp2
              go_ret
              exact ⟨ret_int (by rw [HE.out]; rfl), rfl⟩

/-- spec.Width at every string that is not empty. -/
theorem width_any (s : ByteArray) (w : World) (h0 : 0 < s.size) :
    Calls Tryd.prog 31 #[.string s] w fun e w' => e = .returned (.int .i64 (wid s)) ∧ w = w' := by
  rcases (show (s.get! 0).toNat < 128 ∨ ((128 ≤ (s.get! 0).toNat ∧ (s.get! 0).toNat < 194) ∨ 245 ≤ (s.get! 0).toNat) ∨ (194 ≤ (s.get! 0).toNat ∧ (s.get! 0).toNat < 224) ∨ (224 ≤ (s.get! 0).toNat ∧ (s.get! 0).toNat < 240) ∨ (240 ≤ (s.get! 0).toNat ∧ (s.get! 0).toNat < 245) from by omega) with hc | hc | hc | hc | hc
  · exact width_1 s w h0 hc
  · exact width_none s w h0 hc
  · exact width_2 s w h0 hc
  · exact width_3 s w h0 hc
  · exact width_4 s w h0 hc

end Go.Proofs.YtdadbfehackfjaaDoor
