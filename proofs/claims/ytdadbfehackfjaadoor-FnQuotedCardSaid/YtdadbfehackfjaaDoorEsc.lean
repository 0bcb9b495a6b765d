/- What strconv writes for a rune between quotes, in plain words; and that the model's decoder reads a rune's encoding as that rune. No walk stands here. -/
import Derived.Test.YtdadbfehackfjaaDoorUnicode
import Derived.Lib.MapLaws
set_option linter.unusedVariables false
set_option linter.unusedSimpArgs false
namespace Go.Proofs.YtdadbfehackfjaaDoor
open Go.RowKit Go.Deep

/-- The last n digits of x in base 16. -/
def hexn (x : Nat) : Nat → ByteArray
  | 0 => ⟨#[]⟩
  | n + 1 => one (hexd false (x / 16 ^ n % 16)) ++ hexn x n
theorem hexn_size (x : Nat) : ∀ n, (hexn x n).size = n
  | 0 => rfl
  | n + 1 => by rw [hexn, size_app, one_size, hexn_size x n]; omega
theorem hexn_get (x : Nat) : ∀ n j, j < n → (hexn x n).get! j = hexd false (x / 16 ^ (n - 1 - j) % 16)
  | 0, j, h => absurd h (Nat.not_lt_zero _)
  | n + 1, 0, h => by
    rw [hexn, get_app_left _ _ 0 (by rw [one_size]; omega)]
    rfl
  | n + 1, j + 1, h => by
    have h1 := get_app_right (one (hexd false (x / 16 ^ n % 16))) (hexn x n) j (by rw [hexn_size]; omega)
    rw [one_size] at h1
    rw [hexn, show j + 1 = 1 + j by omega, h1, hexn_get x n j (by omega)]
    rw [show n + 1 - 1 - (1 + j) = n - 1 - j by omega]

/-- The letter of one of the seven that have one. -/
def nam (r : Nat) : UInt8 := if r = 7 then 97 else if r = 8 then 98 else if r = 12 then 102 else if r = 10 then 110 else if r = 13 then 114 else if r = 9 then 116 else 118
/-- What is written for a rune between the quotes q; with A in ASCII alone. -/
def escT (q : Nat) (A : Bool) (r : Nat) : ByteArray :=
  if r = q ∨ r = 92 then one 92 ++ one (UInt8.ofNat r)
  else if ((!A || decide (r < 128)) && prn r) = true then enc r
  else if 7 ≤ r ∧ r ≤ 13 then one 92 ++ one (nam r)
  else if r < 32 ∨ r = 127 then one 92 ++ (one 120 ++ hexn r 2)
  else if r < 65536 then one 92 ++ (one 117 ++ hexn r 4)
  else one 92 ++ (one 85 ++ hexn r 8)
theorem escT_size (q : Nat) (A : Bool) (r : Nat) : 1 ≤ (escT q A r).size ∧ (escT q A r).size ≤ 10 := by
  have h4 := enc_le r
  unfold escT
  repeat' split
  all_goals first
    | exact ⟨h4.1, by omega⟩
    | (simp only [size_app, one_size, hexn_size]; omega)

/-- A number that may be encoded. -/
def Sc (r : Nat) : Prop := r < 55296 ∨ (57343 < r ∧ r ≤ 1114111)
theorem Sc.le {r : Nat} (h : Sc r) : r ≤ 1114111 := by unfold Sc at h; omega
theorem Sc.valid {r : Nat} (h : Sc r) : Lib.validRune (r : Int) = true := by
  unfold Sc at h
  simp only [Lib.validRune, decide_eq_true_eq]
  omega

theorem strOf_data (xs : List Int) : (strOfNums xs).data.toList = xs.map fun x => x.toNat.toUInt8 := by
  simp [strOfNums]
theorem get_data (t : ByteArray) (j : Nat) : t.get! j = t.data.toList.getD j 0 := (Lib.getD_get!' t j).symm
theorem enc_one (r : Nat) (h : r < 128) : enc r = one (UInt8.ofNat r) := by
  unfold enc
  rw [Lib.encodeRuneZ_one (by omega) (by omega)]
  apply ByteArray.ext
  simp [strOfNums, one]
theorem list_getD_app (a b : List UInt8) (j : Nat) (h : j < a.length) : (a ++ b).getD j 0 = a.getD j 0 := by
  simp [List.getD, List.getElem?_append_left h]

/-- A rune's encoding is read as that rune, whatever stands behind it. -/
theorem dec_enc (r : Nat) (hr : Sc r) (rest : ByteArray) : Utf8.decode (enc r ++ rest) 0 = (r, (enc r).size) := by
  have hle := hr.le
  have hs : enc r = strOfNums (Lib.encodeRuneZ r) := rfl
  have hsz : (enc r ++ rest).size = (enc r).size + rest.size := size_app _ _
  have hg : ∀ j, j < (enc r).size → (enc r ++ rest).get! j = (enc r).get! j := fun j hj => get_app_left _ _ j hj
  have hes : (enc r).size = (Lib.encodeRuneZ r).length := by rw [enc_size]; simp [Lib.runeCells]
  have hgd : ∀ j, (enc r).get! j = ((Lib.encodeRuneZ r).map fun x => x.toNat.toUInt8).getD j 0 := fun j => by rw [get_data, hs, strOf_data]
  rw [Lib.decode_at, hsz]
  unfold Sc at hr
  by_cases a : r ≤ 127
  · rw [Lib.encodeRuneZ_one (r := (r : Int)) (by omega) (by omega)] at hes hgd
    rw [hg 0 (by rw [hes]; simp), hgd 0]
    rw [hes]
    have : ((r : Int).toNat.toUInt8).toNat = r := by simp; omega
    simp only [List.map_cons, List.map_nil, List.getD_cons_zero, this]
    unfold Lib.decodeN
    rw [if_pos (by omega)]
    rfl
  by_cases b : r ≤ 2047
  · rw [Lib.encodeRuneZ_two (r := (r : Int)) (by omega) (by omega)] at hes hgd
    rw [hg 0 (by rw [hes]; simp), hg (0 + 1) (by rw [hes]; simp), hgd 0, hgd (0 + 1)]
    rw [hes]
    have e0 : ((192 + (r : Int) / 64).toNat.toUInt8).toNat = 192 + r / 64 := by simp; omega
    have e1 : ((128 + (r : Int) % 64).toNat.toUInt8).toNat = 128 + r % 64 := by simp; omega
    simp only [List.map_cons, List.map_nil, List.getD_cons_zero, List.getD_cons_succ, e0, e1, List.length_cons, List.length_nil, Nat.zero_add]
    unfold Lib.decodeN
    rw [if_neg (by omega), if_pos (by omega), if_pos (by omega)]
    apply Prod.ext <;> simp only <;> omega
  by_cases c : r ≤ 65535
  · rw [Lib.encodeRuneZ_three (r := (r : Int)) (by omega)] at hes hgd
    rw [hg 0 (by rw [hes]; simp), hg (0 + 1) (by rw [hes]; simp), hg (0 + 2) (by rw [hes]; simp), hgd 0, hgd (0 + 1), hgd (0 + 2)]
    rw [hes]
    have e0 : ((224 + (r : Int) / 4096).toNat.toUInt8).toNat = 224 + r / 4096 := by simp; omega
    have e1 : ((128 + (r : Int) / 64 % 64).toNat.toUInt8).toNat = 128 + r / 64 % 64 := by simp; omega
    have e2 : ((128 + (r : Int) % 64).toNat.toUInt8).toNat = 128 + r % 64 := by simp; omega
    simp only [List.map_cons, List.map_nil, List.getD_cons_zero, List.getD_cons_succ, e0, e1, e2, List.length_cons, List.length_nil, Nat.zero_add]
    unfold Lib.decodeN
    rw [if_neg (by omega), if_neg (by omega), if_pos (by omega), if_pos (by omega)]
    apply Prod.ext <;> simp only <;> omega
  · rw [Lib.encodeRuneZ_four (r := (r : Int)) (by omega) (by omega)] at hes hgd
    rw [hg 0 (by rw [hes]; simp), hg (0 + 1) (by rw [hes]; simp), hg (0 + 2) (by rw [hes]; simp), hg (0 + 3) (by rw [hes]; simp), hgd 0, hgd (0 + 1), hgd (0 + 2), hgd (0 + 3)]
    rw [hes]
    have e0 : ((240 + (r : Int) / 262144).toNat.toUInt8).toNat = 240 + r / 262144 := by simp; omega
    have e1 : ((128 + (r : Int) / 4096 % 64).toNat.toUInt8).toNat = 128 + r / 4096 % 64 := by simp; omega
    have e2 : ((128 + (r : Int) / 64 % 64).toNat.toUInt8).toNat = 128 + r / 64 % 64 := by simp; omega
    have e3 : ((128 + (r : Int) % 64).toNat.toUInt8).toNat = 128 + r % 64 := by simp; omega
    simp only [List.map_cons, List.map_nil, List.getD_cons_zero, List.getD_cons_succ, e0, e1, e2, e3, List.length_cons, List.length_nil, Nat.zero_add]
    unfold Lib.decodeN
    rw [if_neg (by omega), if_neg (by omega), if_neg (by omega), if_pos (by omega), if_pos (by omega)]
    apply Prod.ext <;> simp only <;> omega

theorem wid_enc (r : Nat) (hr : Sc r) (rest : ByteArray) : wid (enc r ++ rest) = (enc r).size := by
  have h := dec_enc r hr rest
  unfold wid
  rw [h]
  simp only
  by_cases h1 : r = 65533
  · rw [if_neg]
    rintro ⟨_, h2⟩
    subst h1
    have : (enc (65533 : Nat)).size = 3 := by decide
    omega
  · rw [if_neg (fun h => h1 h.1)]

/-- The first byte of an encoding. -/
theorem enc_head (r : Nat) (hr : Sc r) : (128 ≤ r → 128 ≤ ((enc r).get! 0).toNat) ∧ (r < 128 → ((enc r).get! 0).toNat = r) := by
  have hle := hr.le
  constructor
  · intro h
    have hs : enc r = strOfNums (Lib.encodeRuneZ r) := rfl
    have hgd : (enc r).get! 0 = ((Lib.encodeRuneZ r).map fun x => x.toNat.toUInt8).getD 0 0 := by rw [get_data, hs, strOf_data]
    rw [hgd]
    unfold Sc at hr
    by_cases b : r ≤ 2047
    · rw [Lib.encodeRuneZ_two (r := (r : Int)) (by omega) (by omega)]
      have e0 : ((192 + (r : Int) / 64).toNat.toUInt8).toNat = 192 + r / 64 := by simp; omega
      simp only [List.map_cons, List.getD_cons_zero, e0]
      omega
    by_cases c : r ≤ 65535
    · rw [Lib.encodeRuneZ_three (r := (r : Int)) (by omega)]
      have e0 : ((224 + (r : Int) / 4096).toNat.toUInt8).toNat = 224 + r / 4096 := by simp; omega
      simp only [List.map_cons, List.getD_cons_zero, e0]
      omega
    · rw [Lib.encodeRuneZ_four (r := (r : Int)) (by omega) (by omega)]
      have e0 : ((240 + (r : Int) / 262144).toNat.toUInt8).toNat = 240 + r / 262144 := by simp; omega
      simp only [List.map_cons, List.getD_cons_zero, e0]
      omega
  · intro h
    rw [enc_one r h]
    show (UInt8.ofNat r).toNat = r
    rw [UInt8.toNat_ofNat']
    omega

/-- All bytes below 128. -/
def Asc (t : ByteArray) : Prop := ∀ j, j < t.size → (t.get! j).toNat < 128
theorem Asc.app {a b : ByteArray} (ha : Asc a) (hb : Asc b) : Asc (a ++ b) := fun j hj => by
  rw [size_app] at hj
  by_cases h : j < a.size
  · rw [get_app_left a b j h]; exact ha j h
  · obtain ⟨i, rfl⟩ : ∃ i, j = a.size + i := ⟨j - a.size, by omega⟩
    rw [get_app_right a b i (by omega)]; exact hb i (by omega)
theorem Asc.one {c : UInt8} (h : c.toNat < 128) : Asc (one c) := fun j hj => by
  rw [one_size] at hj
  obtain rfl : j = 0 := by omega
  exact h
theorem Asc.nil : Asc ⟨#[]⟩ := fun j hj => absurd hj (Nat.not_lt_zero _)
theorem hexd_asc : ∀ d, d < 16 → (hexd false d).toNat < 128 := by decide
theorem Asc.hexn (x n : Nat) : Asc (hexn x n) := fun j hj => by
  rw [hexn_size] at hj
  rw [hexn_get x n j hj]
  exact hexd_asc _ (Nat.mod_lt _ (by decide))
theorem Asc.escT (q r : Nat) (hq : q < 128) : Asc (escT q true r) := by
  unfold Go.Proofs.YtdadbfehackfjaaDoor.escT
  split
  · rename_i h
    exact (Asc.one (by decide)).app (Asc.one (by rw [UInt8.toNat_ofNat']; omega))
  split
  · rename_i h
    simp only [Bool.not_true, Bool.false_or, Bool.and_eq_true, decide_eq_true_eq] at h
    rw [enc_one r h.1]
    exact Asc.one (by rw [UInt8.toNat_ofNat']; omega)
  split
  · refine (Asc.one (by decide)).app (Asc.one ?_)
    unfold nam
    repeat' split
    all_goals decide
  split
  · exact (Asc.one (by decide)).app ((Asc.one (by decide)).app (Asc.hexn _ _))
  split
  · exact (Asc.one (by decide)).app ((Asc.one (by decide)).app (Asc.hexn _ _))
  · exact (Asc.one (by decide)).app ((Asc.one (by decide)).app (Asc.hexn _ _))

end Go.Proofs.YtdadbfehackfjaaDoor
