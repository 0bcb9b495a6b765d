/- The bytes of a text in base 16, as the verbs x and X write them: plain definitions and facts; and the walk of spec.Bytes. Conditions of the walk: the text takes no more than 2^38 bytes; widths and precisions lie between 0 and 4095. -/
import Derived.Test.YtdadbfehackfjaaDigits
import Derived.Test.YtdadbfehackfjaaBool
import Derived.Deep.DeepCutAuto
set_option linter.unusedVariables false
set_option linter.unusedSimpArgs false
namespace Go.Proofs.Ytdadbfehackfjaa
open Go.RowKit Go.Deep

def preH (U : Bool) : ByteArray := if U then ⟨#[48, 88]⟩ else ⟨#[48, 120]⟩
theorem preH_size (U : Bool) : (preH U).size = 2 := by cases U <;> rfl
def twoH (U : Bool) (c : UInt8) : ByteArray := ⟨#[hexd U (c.toNat / 16), hexd U (c.toNat % 16)]⟩
theorem twoH_size (U : Bool) (c : UInt8) : (twoH U c).size = 2 := rfl
/-- What stands ahead of byte i. -/
def gapH (U sh sp : Bool) (i : Nat) : ByteArray := if sp && decide (0 < i) then one 32 ++ (if sh then preH U else ⟨#[]⟩) else ⟨#[]⟩
def hexBody (U sh sp : Bool) (t : ByteArray) : Nat → ByteArray
  | 0 => ⟨#[]⟩
  | i + 1 => hexBody U sh sp t i ++ gapH U sh sp i ++ twoH U (t.get! i)
/-- The text of some bytes. -/
def hexOf (F : Fl) (U : Bool) (t : ByteArray) : ByteArray := if t.size = 0 then ⟨#[]⟩ else (if F.sh then preH U else ⟨#[]⟩) ++ hexBody U F.sh F.sp t t.size
/-- As many bytes as the precision says. -/
def cutOf (F : Fl) (s : ByteArray) : ByteArray := if F.hp = true ∧ F.prec < s.size then s.extract 0 F.prec.toNat else s
theorem cutOf_size (F : Fl) (s : ByteArray) (h : 0 ≤ F.prec) : (cutOf F s).size ≤ s.size := by
  unfold cutOf
  split
  · rw [ByteArray.size_extract]; omega
  · exact Nat.le_refl _

theorem gapH_size (U sh sp : Bool) (i : Nat) : (gapH U sh sp i).size ≤ 3 := by
  unfold gapH
  split
  · rw [size_app, one_size]
    cases sh
    · exact Nat.le_of_ble_eq_true rfl
    · cases U <;> exact Nat.le_of_ble_eq_true rfl
  · exact Nat.zero_le _
theorem hexBody_size (U sh sp : Bool) (t : ByteArray) : ∀ i, (hexBody U sh sp t i).size ≤ 5 * i
  | 0 => Nat.le_refl _
  | i + 1 => by
    have := hexBody_size U sh sp t i
    have := gapH_size U sh sp i
    simp only [hexBody, size_app, twoH_size]
    omega

theorem digB_byte (U : Bool) (c : UInt8) : (digB 16 U (c.toNat + 256)).extract 1 (digB 16 U (c.toNat + 256)).size = twoH U c := by
  have hc := c.toNat_lt
  rw [digB_step 16 U (c.toNat + 256) (by omega) (by omega), digB_step 16 U ((c.toNat + 256) / 16) (by omega) (by omega), digB_small 16 U ((c.toNat + 256) / 16 / 16) (by omega)]
  have e1 : (c.toNat + 256) / 16 % 16 = c.toNat / 16 := by omega
  have e2 : (c.toNat + 256) % 16 = c.toNat % 16 := by omega
  rw [e1, e2]
  rfl
theorem digB_byte_size (U : Bool) (c : UInt8) : (digB 16 U (c.toNat + 256)).size = 3 := by
  have hc := c.toNat_lt
  rw [digB_step 16 U (c.toNat + 256) (by omega) (by omega), digB_step 16 U ((c.toNat + 256) / 16) (by omega) (by omega), digB_small 16 U ((c.toNat + 256) / 16 / 16) (by omega)]
  rfl

set_option maxHeartbeats 4000000 in
set_option maxRecDepth 100000 in
/-- spec.Bytes, where the documentation says what is written. -/
theorem specBytes_right (F : Fl) (hF : F.Ok) (s : ByteArray) (U : Bool) (w : World) (hs : s.size ≤ 274877906944) (hor : F.sh = false ∨ (F.sp = false ∧ 0 < (cutOf F s).size)) :
    Calls Try.prog 21 #[(.agg #[.int .i64 F.wid, .int .i64 F.prec, .bool F.hw, .bool F.hp, .bool F.mi, .bool F.pl, .bool F.sh, .bool F.sp, .bool F.ze]), .string s, .bool U] w fun e w' => e = .returned (.tuple #[.string (padOf F (hexOf F U (cutOf F s))), .int .i64 1]) ∧ Below w.heap.size w w' := by
  have hsz := cutOf_size F s hF.plo
  have cP := fun W (h : (hexOf F U (cutOf F s)).size ≤ 140737488355328) => specPad_any F (hexOf F U (cutOf F s)) W hF h
  obtain ⟨wid, prec, hw, hp, mi, pl, sh, sp, ze⟩ := F
  obtain ⟨_, _, hp0, hp1⟩ := hF
  simp only at hp0 hp1 hor cP ⊢
  obtain ⟨R, hR⟩ : ∃ R, padOf ⟨wid, prec, hw, hp, mi, pl, sh, sp, ze⟩ (hexOf ⟨wid, prec, hw, hp, mi, pl, sh, sp, ze⟩ U (cutOf ⟨wid, prec, hw, hp, mi, pl, sh, sp, ze⟩ s)) = R := ⟨_, rfl⟩
  obtain ⟨t, ht⟩ : ∃ t, cutOf ⟨wid, prec, hw, hp, mi, pl, sh, sp, ze⟩ s = t := ⟨_, rfl⟩
  rw [hR] at cP ⊢
  rw [ht] at cP hor hsz
  have Ht := Lib.hid ht
  clear hR ht
  have ht32 : t.size ≤ 274877906944 := by omega
  go_enter Try.func21, Try.ntmps21
  go_upto_region 1 with (fail)
  go_cut [19] (fun s19 wx => (∃ c : Bool, s19 = .bool c ∧ Hid (c = decide (hp = true ∧ prec < s.size))) ∧ wx = w.alloc (.cells #[.int .i64 wid, .int .i64 prec, .bool hw, .bool hp, .bool mi, .bool pl, .bool sh, .bool sp, .bool ze] 30))
  case first =>
    clear cP
    cases hp
    · go_wp2
      go_meet
      exact ⟨⟨_, rfl, by show _ = _; simp⟩, rfl⟩
    · by_cases hlt : prec < (s.size : Int)
      · go_wp2
        go_meet
        exact ⟨⟨_, rfl, by show _ = _; simp [hlt]⟩, rfl⟩
      · go_wp2
        go_meet
        exact ⟨⟨_, rfl, by show _ = _; simp [hlt]⟩, rfl⟩
  case rest =>
    obtain ⟨⟨c, rfl, Hc⟩, rfl⟩ := hcut
    go_upto_if 19 with (fail)
    go_cut [1] (fun s1 wx => s1 = .string t ∧ wx = w.alloc (.cells #[.int .i64 wid, .int .i64 prec, .bool hw, .bool hp, .bool mi, .bool pl, .bool sh, .bool sp, .bool ze] 30))
    case first =>
      clear cP
      cases c
      · have e : Hid (s = t) := by
          show _ = _
          have hc := of_decide_eq_false Hc.out.symm
          rw [← Ht.out]
          unfold cutOf
          rw [if_neg hc]
        go_wp2
        go_meet
        exact ⟨by rw [← e.out], rfl⟩
      · have hc := of_decide_eq_true Hc.out.symm
        obtain ⟨hc1, hc2⟩ := hc
        have e : Hid (s.extract 0 prec.toNat = t) := by
          show _ = _
          rw [← Ht.out]
          unfold cutOf
          rw [if_pos ⟨hc1, hc2⟩]
        clear hc1
        go_wp2
        go_meet
        exact ⟨by rw [← e.out], rfl⟩
    case rest =>
      obtain ⟨rfl, rfl⟩ := hcut
      obtain ⟨P, hP⟩ : ∃ P, (if sh then preH U else ⟨#[]⟩) = P := ⟨_, rfl⟩
      have hPs : P.size ≤ 2 := by
        rw [← hP]
        cases sh
        · exact Nat.zero_le _
        · exact Nat.le_of_eq (preH_size U)
      have HP := Lib.hid hP
      clear hP
      have hsz2 : ∀ out, out = P ++ hexBody U sh sp t t.size → out.size ≤ 140737488355328 := by
        intro out ho
        have := hexBody_size U sh sp t t.size
        rw [ho, size_app]
        omega
      have HS := Lib.hid hsz2
      have cP2 : ∀ W out, out = P ++ hexBody U sh sp t t.size → Calls Try.prog 15 #[.agg #[.int .i64 wid, .int .i64 prec, .bool hw, .bool hp, .bool mi, .bool pl, .bool sh, .bool sp, .bool ze], .string out] W fun e w' => e = .returned (.string R) ∧ Below W.heap.size W w' := by
        intro W out ho
        have he : hexOf ⟨wid, prec, hw, hp, mi, pl, sh, sp, ze⟩ U t = out := by
          rw [ho]
          unfold hexOf
          by_cases h0 : t.size = 0
          · rw [if_pos h0, h0]
            rcases hor with hs | ⟨_, hs⟩
            · rw [← HP.out, hs]; rfl
            · omega
          · rw [if_neg h0, ← HP.out]
        rw [he] at cP
        exact cP W (hsz2 out ho)
      have HC := Lib.hid cP2
      clear cP cP2 hsz2 hsz hs
      have hz : sh = true → sp = false ∧ t.toList.isEmpty = false := by
        intro h
        rcases hor with hs | ⟨h1, h2⟩
        · rw [h] at hs; cases hs
        · refine ⟨h1, ?_⟩
          rw [ByteArray.toList_eq]
          cases hl : t.data.toList with
          | nil =>
            have : t.data.toList.length = t.size := by rw [Array.length_toList]; rfl
            rw [hl] at this
            simp at this
            omega
          | cons _ _ => rfl
      clear hor
      cases sh
      · clear hz
        go_wp2
        go_loop [8, 9, 10, 43] (fun v8 _ _ v43 => ∃ (i : Nat) (out : ByteArray), v43 = .int .i64 i ∧ v8 = .string out ∧ i ≤ t.size ∧ Hid (out = P ++ hexBody U false sp t i)) (fun _ _ _ v43 => t.size - (intOf v43).toNat)
        case atStart => exact ⟨0, _, rfl, rfl, Nat.zero_le _, by show _ = _; rw [← HP.out]; rfl⟩
        case round =>
          obtain ⟨i, out, rfl, rfl, hi, Ho⟩ := hrel
          have hos : out.size ≤ 5 * i + 2 := by
            have := hexBody_size U false sp t i
            rw [Ho.out, size_app]
            omega
          by_cases hit : i < t.size
          · have hitz : (i : Int) < (t.size : Int) := by omega
            have hgi := get_of_lt t i hit
            have cD : ∀ W, Calls Try.prog 39 #[.int .u64 ((t[i].toNat : Int) + 256), .int .i64 16, .bool U] W fun e w' => e = .returned (.string (digB 16 U ((t.get! i).toNat + 256))) ∧ W = w' := by
              intro W
              rw [hgi]
              exact digits_any (t[i].toNat + 256) 16 U (by have := t[i].toNat_lt; omega) (by omega) (by omega) W
            have hyl : (t[i].toNat : Int) < 256 := by have := t[i].toNat_lt; omega
            have hD := Lib.hid (digB_byte U (t.get! i))
            have hDs := digB_byte_size U (t.get! i)
            obtain ⟨D, hDe⟩ : ∃ D, digB 16 U ((t.get! i).toNat + 256) = D := ⟨_, rfl⟩
            rw [hDe] at cD hD hDs
            have Hn : Hid (out ++ gapH U false sp i ++ D.extract 1 D.size = P ++ hexBody U false sp t (i + 1)) := by
              show _ = _
              rw [hD.out, Ho.out]
              simp only [hexBody, app_assoc]
            have hD1 : D.size ≤ 3 := by omega
            have hD2 : 3 ≤ D.size := by omega
            clear hDs hDe hgi hPs
            have Hn := Lib.hid Hn.out
            by_cases h0 : 0 < i
            · have h0z : (0 : Int) < (i : Int) := by omega
              cases sp
              · go_wp2_with (go_at_call 39; refine (cD _).mono ?_; rintro e w' ⟨rfl, rfl⟩)
                go_round
                case rel => exact ⟨i + 1, _, by go_num, rfl, by omega, by show _ = _; rw [← Hn.out]; simp [gapH, h0, app_nil, one]⟩
                case measure => simp [intOf]; omega
              · go_wp2_with (go_at_call 39; refine (cD _).mono ?_; rintro e w' ⟨rfl, rfl⟩)
                go_round
                case rel => exact ⟨i + 1, _, by go_num, rfl, by omega, by show _ = _; rw [← Hn.out]; simp [gapH, h0, app_nil, one]⟩
                case measure => simp [intOf]; omega
            · have h0z : ¬ (0 : Int) < (i : Int) := by omega
              cases sp
              · go_wp2_with (go_at_call 39; refine (cD _).mono ?_; rintro e w' ⟨rfl, rfl⟩)
                go_round
                case rel => exact ⟨i + 1, _, by go_num, rfl, by omega, by show _ = _; rw [← Hn.out]; simp [gapH, h0, app_nil, one]⟩
                case measure => simp [intOf]; omega
              · go_wp2_with (go_at_call 39; refine (cD _).mono ?_; rintro e w' ⟨rfl, rfl⟩)
                go_round
                case rel => exact ⟨i + 1, _, by go_num, rfl, by omega, by show _ = _; rw [← Hn.out]; simp [gapH, h0, app_nil, one]⟩
                case measure => simp [intOf]; omega
          · obtain rfl : i = t.size := by omega
            have hge : ¬ (t.size : Int) < (t.size : Int) := by omega
            have cP := fun W => HC.out W out Ho.out
            clear hPs
            go_wp2_with (go_at_call 15; refine (cP _).mono ?_; rintro e w2 ⟨rfl, hb2⟩)
            go_ret2
            exact ⟨rfl, (Below.alloc (Below.refl _ _) (Nat.le_refl _) _).trans (hb2.mono (by first | (simp; done) | (simp; omega)))⟩
      · obtain ⟨rfl, hzt⟩ := hz rfl
        clear hz
        cases U
        · go_wp2
          go_loop [8, 9, 10, 43] (fun v8 _ _ v43 => ∃ (i : Nat) (out : ByteArray), v43 = .int .i64 i ∧ v8 = .string out ∧ i ≤ t.size ∧ Hid (out = P ++ hexBody false true false t i)) (fun _ _ _ v43 => t.size - (intOf v43).toNat)
          case atStart => exact ⟨0, _, rfl, rfl, Nat.zero_le _, by show _ = _; rw [← HP.out]; rfl⟩
          case round =>
            obtain ⟨i, out, rfl, rfl, hi, Ho⟩ := hrel
            have hos : out.size ≤ 5 * i + 2 := by
              have := hexBody_size false true false t i
              rw [Ho.out, size_app]
              omega
            by_cases hit : i < t.size
            · have hitz : (i : Int) < (t.size : Int) := by omega
              have hgi := get_of_lt t i hit
              have cD : ∀ W, Calls Try.prog 39 #[.int .u64 ((t[i].toNat : Int) + 256), .int .i64 16, .bool false] W fun e w' => e = .returned (.string (digB 16 false ((t.get! i).toNat + 256))) ∧ W = w' := by
                intro W
                rw [hgi]
                exact digits_any (t[i].toNat + 256) 16 false (by have := t[i].toNat_lt; omega) (by omega) (by omega) W
              have hyl : (t[i].toNat : Int) < 256 := by have := t[i].toNat_lt; omega
              have hD := Lib.hid (digB_byte false (t.get! i))
              have hDs := digB_byte_size false (t.get! i)
              obtain ⟨D, hDe⟩ : ∃ D, digB 16 false ((t.get! i).toNat + 256) = D := ⟨_, rfl⟩
              rw [hDe] at cD hD hDs
              have Hn : Hid (out ++ gapH false true false i ++ D.extract 1 D.size = P ++ hexBody false true false t (i + 1)) := by
                show _ = _
                rw [hD.out, Ho.out]
                simp only [hexBody, app_assoc]
              have hD1 : D.size ≤ 3 := by omega
              have hD2 : 3 ≤ D.size := by omega
              clear hDs hDe hgi hPs
              have Hn := Lib.hid Hn.out
              by_cases h0 : 0 < i
              · have h0z : (0 : Int) < (i : Int) := by omega
                go_wp2_with (go_at_call 39; refine (cD _).mono ?_; rintro e w' ⟨rfl, rfl⟩)
                go_round
                case rel => exact ⟨i + 1, _, by go_num, rfl, by omega, by show _ = _; rw [← Hn.out]; simp [gapH, h0, app_nil, one]⟩
                case measure => simp [intOf]; omega
              · have h0z : ¬ (0 : Int) < (i : Int) := by omega
                go_wp2_with (go_at_call 39; refine (cD _).mono ?_; rintro e w' ⟨rfl, rfl⟩)
                go_round
                case rel => exact ⟨i + 1, _, by go_num, rfl, by omega, by show _ = _; rw [← Hn.out]; simp [gapH, h0, app_nil, one]⟩
                case measure => simp [intOf]; omega
            · obtain rfl : i = t.size := by omega
              have hge : ¬ (t.size : Int) < (t.size : Int) := by omega
              have cP := fun W => HC.out W out Ho.out
              clear hPs
              go_wp2_with (go_at_call 15; refine (cP _).mono ?_; rintro e w2 ⟨rfl, hb2⟩)
              go_ret2
              exact ⟨rfl, (Below.alloc (Below.refl _ _) (Nat.le_refl _) _).trans (hb2.mono (by first | (simp; done) | (simp; omega)))⟩
        · go_wp2
          go_loop [8, 9, 10, 43] (fun v8 _ _ v43 => ∃ (i : Nat) (out : ByteArray), v43 = .int .i64 i ∧ v8 = .string out ∧ i ≤ t.size ∧ Hid (out = P ++ hexBody true true false t i)) (fun _ _ _ v43 => t.size - (intOf v43).toNat)
          case atStart => exact ⟨0, _, rfl, rfl, Nat.zero_le _, by show _ = _; rw [← HP.out]; rfl⟩
          case round =>
            obtain ⟨i, out, rfl, rfl, hi, Ho⟩ := hrel
            have hos : out.size ≤ 5 * i + 2 := by
              have := hexBody_size true true false t i
              rw [Ho.out, size_app]
              omega
            by_cases hit : i < t.size
            · have hitz : (i : Int) < (t.size : Int) := by omega
              have hgi := get_of_lt t i hit
              have cD : ∀ W, Calls Try.prog 39 #[.int .u64 ((t[i].toNat : Int) + 256), .int .i64 16, .bool true] W fun e w' => e = .returned (.string (digB 16 true ((t.get! i).toNat + 256))) ∧ W = w' := by
                intro W
                rw [hgi]
                exact digits_any (t[i].toNat + 256) 16 true (by have := t[i].toNat_lt; omega) (by omega) (by omega) W
              have hyl : (t[i].toNat : Int) < 256 := by have := t[i].toNat_lt; omega
              have hD := Lib.hid (digB_byte true (t.get! i))
              have hDs := digB_byte_size true (t.get! i)
              obtain ⟨D, hDe⟩ : ∃ D, digB 16 true ((t.get! i).toNat + 256) = D := ⟨_, rfl⟩
              rw [hDe] at cD hD hDs
              have Hn : Hid (out ++ gapH true true false i ++ D.extract 1 D.size = P ++ hexBody true true false t (i + 1)) := by
                show _ = _
                rw [hD.out, Ho.out]
                simp only [hexBody, app_assoc]
              have hD1 : D.size ≤ 3 := by omega
              have hD2 : 3 ≤ D.size := by omega
              clear hDs hDe hgi hPs
              have Hn := Lib.hid Hn.out
              by_cases h0 : 0 < i
              · have h0z : (0 : Int) < (i : Int) := by omega
                go_wp2_with (go_at_call 39; refine (cD _).mono ?_; rintro e w' ⟨rfl, rfl⟩)
                go_round
                case rel => exact ⟨i + 1, _, by go_num, rfl, by omega, by show _ = _; rw [← Hn.out]; simp [gapH, h0, app_nil, one]⟩
                case measure => simp [intOf]; omega
              · have h0z : ¬ (0 : Int) < (i : Int) := by omega
                go_wp2_with (go_at_call 39; refine (cD _).mono ?_; rintro e w' ⟨rfl, rfl⟩)
                go_round
                case rel => exact ⟨i + 1, _, by go_num, rfl, by omega, by show _ = _; rw [← Hn.out]; simp [gapH, h0, app_nil, one]⟩
                case measure => simp [intOf]; omega
            · obtain rfl : i = t.size := by omega
              have hge : ¬ (t.size : Int) < (t.size : Int) := by omega
              have cP := fun W => HC.out W out Ho.out
              clear hPs
              go_wp2_with (go_at_call 15; refine (cP _).mono ?_; rintro e w2 ⟨rfl, hb2⟩)
              go_ret2
              exact ⟨rfl, (Below.alloc (Below.refl _ _) (Nat.le_refl _) _).trans (hb2.mono (by first | (simp; done) | (simp; omega)))⟩

set_option maxHeartbeats 4000000 in
set_option maxRecDepth 100000 in
/-- spec.Bytes, where the documentation does not say what is written. -/
theorem specBytes_open (F : Fl) (hF : F.Ok) (s : ByteArray) (U : Bool) (w : World) (hs : s.size ≤ 274877906944) (hsh : F.sh = true) (hor : F.sp = true ∨ (cutOf F s).size = 0) :
    Calls Try.prog 21 #[(.agg #[.int .i64 F.wid, .int .i64 F.prec, .bool F.hw, .bool F.hp, .bool F.mi, .bool F.pl, .bool F.sh, .bool F.sp, .bool F.ze]), .string s, .bool U] w fun e w' => e = .returned (.tuple #[.string ⟨#[]⟩, .int .i64 0]) ∧ Below w.heap.size w w' := by
  obtain ⟨wid, prec, hw, hp, mi, pl, sh, sp, ze⟩ := F
  obtain ⟨_, _, hp0, hp1⟩ := hF
  simp only at hp0 hp1 hor hsh ⊢
  subst hsh
  obtain ⟨t, ht⟩ : ∃ t, cutOf ⟨wid, prec, hw, hp, mi, pl, true, sp, ze⟩ s = t := ⟨_, rfl⟩
  rw [ht] at hor
  have Ht := Lib.hid ht
  clear ht
  go_enter Try.func21, Try.ntmps21
  go_upto_region 1 with (fail)
  go_cut [19] (fun s19 wx => (∃ c : Bool, s19 = .bool c ∧ Hid (c = decide (hp = true ∧ prec < s.size))) ∧ wx = w.alloc (.cells #[.int .i64 wid, .int .i64 prec, .bool hw, .bool hp, .bool mi, .bool pl, .bool true, .bool sp, .bool ze] 30))
  case first =>
    cases hp
    · go_wp2
      go_meet
      exact ⟨⟨_, rfl, by show _ = _; simp⟩, rfl⟩
    · by_cases hlt : prec < (s.size : Int)
      · go_wp2
        go_meet
        exact ⟨⟨_, rfl, by show _ = _; simp [hlt]⟩, rfl⟩
      · go_wp2
        go_meet
        exact ⟨⟨_, rfl, by show _ = _; simp [hlt]⟩, rfl⟩
  case rest =>
    obtain ⟨⟨c, rfl, Hc⟩, rfl⟩ := hcut
    go_upto_if 19 with (fail)
    go_cut [1] (fun s1 wx => s1 = .string t ∧ wx = w.alloc (.cells #[.int .i64 wid, .int .i64 prec, .bool hw, .bool hp, .bool mi, .bool pl, .bool true, .bool sp, .bool ze] 30))
    case first =>
      cases c
      · have e : Hid (s = t) := by
          show _ = _
          have hc := of_decide_eq_false Hc.out.symm
          rw [← Ht.out]
          unfold cutOf
          rw [if_neg hc]
        go_wp2
        go_meet
        exact ⟨by rw [← e.out], rfl⟩
      · have hc := of_decide_eq_true Hc.out.symm
        obtain ⟨hc1, hc2⟩ := hc
        have e : Hid (s.extract 0 prec.toNat = t) := by
          show _ = _
          rw [← Ht.out]
          unfold cutOf
          rw [if_pos ⟨hc1, hc2⟩]
        clear hc1
        go_wp2
        go_meet
        exact ⟨by rw [← e.out], rfl⟩
    case rest =>
      obtain ⟨rfl, rfl⟩ := hcut
      have hz : sp = false → t.toList.isEmpty = true := by
        intro h
        rcases hor with hs | h2
        · rw [h] at hs; cases hs
        · rw [empty_of_size t h2, ByteArray.toList_eq]; rfl
      clear hor
      cases sp
      · have hzt := hz rfl
        clear hz
        go_wp2
        go_ret2
        exact ⟨rfl, (by repeat (first | (with_reducible refine Below.drew ?_) | (with_reducible refine below_drewN ?_ _) | (with_reducible refine Below.alloc ?_ (by first | (simp; done) | (simp; omega)) _) | (with_reducible refine Below.setCell ?_ (by first | (simp; done) | (simp; omega)) _) | with_reducible exact Below.refl _ _))⟩
      · clear hz
        go_wp2
        go_ret2
        exact ⟨rfl, (by repeat (first | (with_reducible refine Below.drew ?_) | (with_reducible refine below_drewN ?_ _) | (with_reducible refine Below.alloc ?_ (by first | (simp; done) | (simp; omega)) _) | (with_reducible refine Below.setCell ?_ (by first | (simp; done) | (simp; omega)) _) | with_reducible exact Below.refl _ _))⟩

end Go.Proofs.Ytdadbfehackfjaa
