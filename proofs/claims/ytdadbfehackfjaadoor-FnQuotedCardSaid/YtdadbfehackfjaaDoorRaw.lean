/- The walks of strconv.CanBackquote, spec.UTF8 and spec.Raw (printed by gen_raw.py). Conditions: the text takes no more than 2^47 bytes; the two tables of unicode/utf8 stand as their initialisers lay them (CanBackquote alone). -/
import Derived.Test.YtdadbfehackfjaaDoorQuote
set_option linter.unusedVariables false
set_option linter.unusedSimpArgs false
namespace Go.Proofs.YtdadbfehackfjaaDoor
open Go.RowKit Go.Deep


set_option maxHeartbeats 8000000 in
set_option maxRecDepth 100000 in
/-- strconv.CanBackquote. -/
theorem canBq_any (s : ByteArray) (hs : s.size ≤ 140737488355328) (w : World) (hU : Lib.Utf8Tabs 4 5 w) :
    Calls Tryd.prog 52 #[.string s] w fun e w' => e = .returned (.bool (rawB s.size s)) ∧ Below w.heap.size w w' := by
  have HU := Lib.hid hU
  clear hU
  go_enter Tryd.func52, Tryd.ntmps52
  go_wp2
  go_loopw [0, 2, 3, 4] (fun v0 _ _ _ wr => ∃ (t : ByteArray) (n : Nat), v0 = .string t ∧ t.size ≤ n ∧ Hid (rawB n t = rawB s.size s) ∧ Hid (Below w.heap.size w wr)) (fun v0 _ _ _ _ => strLen v0)
  case atStart => exact ⟨s, s.size, rfl, Nat.le_refl _, rfl, Below.refl _ _⟩
  case round =>
    obtain ⟨t, n, rfl, hn, Ht, HB⟩ := hrel
    by_cases h0 : 0 < t.size
    · have h0z : (0 : Int) < (t.size : Int) := by omega
      obtain ⟨n, rfl⟩ : ∃ k, n = k + 1 := ⟨n - 1, by omega⟩
      have h3 := restQ_size t h0
      have cD := Tryd.utf8_DecodeRuneInString t wr (Utf8Tabs_below HU.out HB.out)
      rw [decodeGo_pos t h0] at cD
      have He := Ht.out
      rw [rawB, if_pos h0] at He
      unfold restQ at h3 He
      obtain ⟨r, hr⟩ : ∃ r, (Utf8.decode t 0).1 = r := ⟨_, rfl⟩
      obtain ⟨d, hd⟩ : ∃ d, (Utf8.decode t 0).2 = d := ⟨_, rfl⟩
      rw [hr, hd] at cD
      rw [hd] at h3 He
      have hd0 : (0 : Int) ≤ (d : Int) := by omega
      have hdt : (d : Int) ≤ (t.size : Int) := by omega
      clear Ht
      by_cases hd1 : 1 < d
      · have hdz : (1 : Int) < (d : Int) := by omega
        by_cases h1 : r = 65279
        · have hok : okB t = false := by
            unfold okB
            rw [hr, hd, if_pos hd1]
            exact decide_eq_false (by omega)
          have f65279 : (r : Int) = 65279 := by omega
          have b65279 : ((r : Int) == 65279) = true := by simpa using f65279
          have HE2 : Hid (false = rawB s.size s) := by
            show _ = _
            rw [← He, hok, Bool.false_and]
          clear hr hd He h3 hn hok h1 hd1
          go_wp2_with (go_at_call 66; refine cD.mono ?_; rintro e w1 ⟨rfl, hb1⟩; have HB1 := Lib.hid (HB.out.trans (hb1.mono HB.out.size)); clear hb1)
          exact bodyPost_ret (v := .bool false) (by simp [results, Tryd.results52, go_sem]) rfl ⟨by rw [← HE2.out], HB1.out⟩
        · have hok : okB t = true := by
            unfold okB
            rw [hr, hd, if_pos hd1]
            exact decide_eq_true (by omega)
          have f65279 : ¬ (r : Int) = 65279 := by omega
          have b65279 : ((r : Int) == 65279) = false := by simpa using f65279
          have HE2 : Hid (rawB n (t.extract d t.size) = rawB s.size s) := by
            show _ = _
            rw [← He, hok, Bool.true_and]
          have H3 := Lib.hid (And.intro h3 hn)
          clear hr hd He h3 hn hok h1 hd1
          go_wp2_with (go_at_call 66; refine cD.mono ?_; rintro e w1 ⟨rfl, hb1⟩; have HB1 := Lib.hid (HB.out.trans (hb1.mono HB.out.size)); clear hb1)
          go_roundw
          case rel => exact ⟨_, n, rfl, by have := H3.out; omega, HE2, HB1⟩
          case measure => have := H3.out; simp only [strLen]; omega
      · have hdz : ¬ (1 : Int) < (d : Int) := by omega
        by_cases h1 : r = 65533
        · have hok : okB t = false := by
            unfold okB
            rw [hr, hd, if_neg hd1]
            exact decide_eq_false (by omega)
          have f65533 : (r : Int) = 65533 := by omega
          have b65533 : ((r : Int) == 65533) = true := by simpa using f65533
          have HE2 : Hid (false = rawB s.size s) := by
            show _ = _
            rw [← He, hok, Bool.false_and]
          clear hr hd He h3 hn hok h1 hd1
          go_wp2_with (go_at_call 66; refine cD.mono ?_; rintro e w1 ⟨rfl, hb1⟩; have HB1 := Lib.hid (HB.out.trans (hb1.mono HB.out.size)); clear hb1)
          exact bodyPost_ret (v := .bool false) (by simp [results, Tryd.results52, go_sem]) rfl ⟨by rw [← HE2.out], HB1.out⟩
        · by_cases h2 : r < 32
          · by_cases h3r : r = 9
            · have hok : okB t = true := by
                unfold okB
                rw [hr, hd, if_neg hd1]
                exact decide_eq_true (by omega)
              have f9 : (r : Int) = 9 := by omega
              have b9 : ((r : Int) == 9) = true := by simpa using f9
              have f65533 : ¬ (r : Int) = 65533 := by omega
              have b65533 : ((r : Int) == 65533) = false := by simpa using f65533
              have f96 : ¬ (r : Int) = 96 := by omega
              have b96 : ((r : Int) == 96) = false := by simpa using f96
              have f127 : ¬ (r : Int) = 127 := by omega
              have b127 : ((r : Int) == 127) = false := by simpa using f127
              have l32 : (r : Int) < 32 := by omega
              have HE2 : Hid (rawB n (t.extract d t.size) = rawB s.size s) := by
                show _ = _
                rw [← He, hok, Bool.true_and]
              have H3 := Lib.hid (And.intro h3 hn)
              clear hr hd He h3 hn hok h1 h2 h3r hd1
              go_wp2_with (go_at_call 66; refine cD.mono ?_; rintro e w1 ⟨rfl, hb1⟩; have HB1 := Lib.hid (HB.out.trans (hb1.mono HB.out.size)); clear hb1)
              go_roundw
              case rel => exact ⟨_, n, rfl, by have := H3.out; omega, HE2, HB1⟩
              case measure => have := H3.out; simp only [strLen]; omega
            · have hok : okB t = false := by
                unfold okB
                rw [hr, hd, if_neg hd1]
                exact decide_eq_false (by omega)
              have f65533 : ¬ (r : Int) = 65533 := by omega
              have b65533 : ((r : Int) == 65533) = false := by simpa using f65533
              have f9 : ¬ (r : Int) = 9 := by omega
              have b9 : ((r : Int) == 9) = false := by simpa using f9
              have l32 : (r : Int) < 32 := by omega
              have HE2 : Hid (false = rawB s.size s) := by
                show _ = _
                rw [← He, hok, Bool.false_and]
              clear hr hd He h3 hn hok h1 h2 h3r hd1
              go_wp2_with (go_at_call 66; refine cD.mono ?_; rintro e w1 ⟨rfl, hb1⟩; have HB1 := Lib.hid (HB.out.trans (hb1.mono HB.out.size)); clear hb1)
              exact bodyPost_ret (v := .bool false) (by simp [results, Tryd.results52, go_sem]) rfl ⟨by rw [← HE2.out], HB1.out⟩
          · by_cases h3r : r = 96
            · have hok : okB t = false := by
                unfold okB
                rw [hr, hd, if_neg hd1]
                exact decide_eq_false (by omega)
              have f96 : (r : Int) = 96 := by omega
              have b96 : ((r : Int) == 96) = true := by simpa using f96
              have f65533 : ¬ (r : Int) = 65533 := by omega
              have b65533 : ((r : Int) == 65533) = false := by simpa using f65533
              have l32 : ¬ (r : Int) < 32 := by omega
              have HE2 : Hid (false = rawB s.size s) := by
                show _ = _
                rw [← He, hok, Bool.false_and]
              clear hr hd He h3 hn hok h1 h2 h3r hd1
              go_wp2_with (go_at_call 66; refine cD.mono ?_; rintro e w1 ⟨rfl, hb1⟩; have HB1 := Lib.hid (HB.out.trans (hb1.mono HB.out.size)); clear hb1)
              exact bodyPost_ret (v := .bool false) (by simp [results, Tryd.results52, go_sem]) rfl ⟨by rw [← HE2.out], HB1.out⟩
            · by_cases h4 : r = 127
              · have hok : okB t = false := by
                  unfold okB
                  rw [hr, hd, if_neg hd1]
                  exact decide_eq_false (by omega)
                have f127 : (r : Int) = 127 := by omega
                have b127 : ((r : Int) == 127) = true := by simpa using f127
                have f65533 : ¬ (r : Int) = 65533 := by omega
                have b65533 : ((r : Int) == 65533) = false := by simpa using f65533
                have f96 : ¬ (r : Int) = 96 := by omega
                have b96 : ((r : Int) == 96) = false := by simpa using f96
                have l32 : ¬ (r : Int) < 32 := by omega
                have HE2 : Hid (false = rawB s.size s) := by
                  show _ = _
                  rw [← He, hok, Bool.false_and]
                clear hr hd He h3 hn hok h1 h2 h3r h4 hd1
                go_wp2_with (go_at_call 66; refine cD.mono ?_; rintro e w1 ⟨rfl, hb1⟩; have HB1 := Lib.hid (HB.out.trans (hb1.mono HB.out.size)); clear hb1)
                exact bodyPost_ret (v := .bool false) (by simp [results, Tryd.results52, go_sem]) rfl ⟨by rw [← HE2.out], HB1.out⟩
              · have hok : okB t = true := by
                  unfold okB
                  rw [hr, hd, if_neg hd1]
                  exact decide_eq_true (by omega)
                have f65533 : ¬ (r : Int) = 65533 := by omega
                have b65533 : ((r : Int) == 65533) = false := by simpa using f65533
                have f96 : ¬ (r : Int) = 96 := by omega
                have b96 : ((r : Int) == 96) = false := by simpa using f96
                have f127 : ¬ (r : Int) = 127 := by omega
                have b127 : ((r : Int) == 127) = false := by simpa using f127
                have l32 : ¬ (r : Int) < 32 := by omega
                have HE2 : Hid (rawB n (t.extract d t.size) = rawB s.size s) := by
                  show _ = _
                  rw [← He, hok, Bool.true_and]
                have H3 := Lib.hid (And.intro h3 hn)
                clear hr hd He h3 hn hok h1 h2 h3r h4 hd1
                go_wp2_with (go_at_call 66; refine cD.mono ?_; rintro e w1 ⟨rfl, hb1⟩; have HB1 := Lib.hid (HB.out.trans (hb1.mono HB.out.size)); clear hb1)
                go_roundw
                case rel => exact ⟨_, n, rfl, by have := H3.out; omega, HE2, HB1⟩
                case measure => have := H3.out; simp only [strLen]; omega
    · have h0z : ¬ (0 : Int) < (t.size : Int) := by omega
      have HE2 : Hid (true = rawB s.size s) := by
        show _ = _
        rw [← Ht.out, rawB_none n t h0]
      clear Ht hn
      go_wp2
      exact bodyPost_ret (v := .bool true) (by simp [results, Tryd.results52, go_sem]) rfl ⟨by rw [← HE2.out], HB.out⟩

set_option maxHeartbeats 8000000 in
set_option maxRecDepth 100000 in
/-- spec.UTF8. -/
theorem utf8_any (s : ByteArray) (hs : s.size ≤ 140737488355328) (w : World) :
    Calls Tryd.prog 34 #[.string s] w fun e w' => e = .returned (.bool (utfB s.size s)) ∧ w = w' := by
  go_enter Tryd.func34, Tryd.ntmps34
  go_wp2
  go_loop [0, 2, 3] (fun v0 _ _ => ∃ (t : ByteArray) (n : Nat), v0 = .string t ∧ t.size ≤ n ∧ Hid (utfB n t = utfB s.size s)) (fun v0 _ _ => strLen v0)
  case atStart => exact ⟨s, s.size, rfl, Nat.le_refl _, rfl⟩
  case round =>
    obtain ⟨t, n, rfl, hn, Ht⟩ := hrel
    by_cases h0 : 0 < t.size
    · have h0z : (0 : Int) < (t.size : Int) := by omega
      obtain ⟨n, rfl⟩ : ∃ k, n = k + 1 := ⟨n - 1, by omega⟩
      have h3 := restQ_size t h0
      have cW := width_any t w h0
      have He := Ht.out
      rw [utfB, if_pos h0] at He
      by_cases hb : badH t
      · rw [(wid_badH t).2 hb] at cW
        have HE2 : Hid (false = utfB s.size s) := by
          show _ = _
          rw [← He, decide_eq_true hb]
          rfl
        have cW2 : Calls Tryd.prog 31 #[.string t] w fun e w' => e = .returned (.int .i64 0) ∧ w = w' := cW
        clear Ht He hb h3 hn cW
        go_wp2_with (go_at_call 31; refine cW2.mono ?_; rintro e w' ⟨rfl, rfl⟩)
        exact bodyPost_ret (v := .bool false) (by simp [results, Tryd.results34, go_sem]) rfl ⟨by rw [← HE2.out], rfl⟩
      · have hw : wid t = (Utf8.decode t 0).2 := by unfold wid; exact if_neg hb
        rw [decide_eq_false hb] at He
        unfold restQ at h3 He
        rw [hw] at cW
        obtain ⟨d, hd⟩ : ∃ d, (Utf8.decode t 0).2 = d := ⟨_, rfl⟩
        rw [hd] at h3 He cW
        have hd0 : (0 : Int) ≤ (d : Int) := by omega
        have hdt : (d : Int) ≤ (t.size : Int) := by omega
        have hdn : ¬ (d : Int) = 0 := by omega
        have bdn : ((d : Int) == 0) = false := by simpa using hdn
        have HE2 : Hid (utfB n (t.extract d t.size) = utfB s.size s) := by
          show _ = _
          rw [← He]
          rfl
        have H3 := Lib.hid (And.intro h3 hn)
        clear Ht He hb h3 hn hd hw
        go_wp2_with (go_at_call 31; refine cW.mono ?_; rintro e w' ⟨rfl, rfl⟩)
        go_round
        case rel => exact ⟨_, n, rfl, by have := H3.out; omega, HE2⟩
        case measure => have := H3.out; simp only [strLen]; omega
    · have h0z : ¬ (0 : Int) < (t.size : Int) := by omega
      have HE2 : Hid (true = utfB s.size s) := by
        show _ = _
        rw [← Ht.out, utfB_none n t h0]
      clear Ht hn
      go_wp2
      exact bodyPost_ret (v := .bool true) (by simp [results, Tryd.results34, go_sem]) rfl ⟨by rw [← HE2.out], rfl⟩

theorem enc_bom : enc (65279 : Nat) = ⟨#[239, 187, 191]⟩ := by
  apply ByteArray.ext
  apply Array.ext'
  show (strOfNums _).data.toList = _
  rw [strOf_data]
  decide
theorem enc_inj {a b : Nat} (ha : Sc a) (hb : Sc b) (h : enc (a : Nat) = enc (b : Nat)) : a = b := by
  have h1 := dec_enc a ha ⟨#[]⟩
  have h2 := dec_enc b hb ⟨#[]⟩
  rw [h, h2] at h1
  exact (congrArg Prod.fst h1).symm
/-- What stands at the head of a text that is UTF-8 there: whether it can stand between backquotes, by the reference's words. -/
theorem okB_words (t : ByteArray) (h0 : 0 < t.size) (hb : ¬ badH t) :
    okB t = !(decide ((t.get! 0).toNat = 96) || decide ((t.get! 0).toNat = 127) || (decide ((t.get! 0).toNat < 32) && decide ((t.get! 0).toNat ≠ 9)) || ((t.extract 0 (Utf8.decode t 0).2).toList == (⟨#[239, 187, 191]⟩ : ByteArray).toList)) := by
  have hs := dec_small t h0 hb
  have hre := re_enc t h0 hb
  have hdl := restQ_size t h0
  have hsc := dec_sc t
  obtain ⟨r, hr⟩ : ∃ r, (Utf8.decode t 0).1 = r := ⟨_, rfl⟩
  obtain ⟨d, hd⟩ : ∃ d, (Utf8.decode t 0).2 = d := ⟨_, rfl⟩
  obtain ⟨c, hc⟩ : ∃ c, (t.get! 0).toNat = c := ⟨_, rfl⟩
  unfold okB
  rw [hr, hd, hc] at hs
  rw [hr, hd] at hre
  rw [hr] at hsc
  rw [hd] at hdl
  rw [hr, hd, hc]
  have hbad : ¬ (r = 65533 ∧ d = 1) := by rw [← hr, ← hd]; exact hb
  have hbom : ((t.extract 0 d).toList == (⟨#[239, 187, 191]⟩ : ByteArray).toList) = decide (r = 65279) := by
    by_cases h : r = 65279
    · rw [← hre, h, enc_bom]
      simp
    · rw [decide_eq_false h, beq_eq_false_iff_ne]
      intro e
      apply h
      apply enc_inj hsc (by unfold Sc; omega)
      rw [hre, enc_bom]
      apply ByteArray.ext
      apply Array.ext'
      rw [← ByteArray.toList_eq, ← ByteArray.toList_eq]
      exact e
  rw [hbom]
  rcases hs with ⟨h1, h2, h3⟩ | ⟨h1, h2, h3⟩
  · rw [if_neg (by omega), h2]
    rw [Bool.eq_iff_iff]
    simp
    omega
  · rw [if_pos h1]
    rw [Bool.eq_iff_iff]
    simp
    omega

set_option maxHeartbeats 8000000 in
set_option maxRecDepth 100000 in
/-- spec.Raw: the second result is one of its two verdicts. -/
theorem raw_any (s : ByteArray) (hs : s.size ≤ 140737488355328) (w : World) :
    Calls Tryd.prog 22 #[.string s] w fun e w' => ∃ v : Int, Hid (v = 0 ∨ v = 1) ∧ e = .returned (.tuple #[.bool (rawB s.size s), .int .i64 v]) ∧ w = w' := by
  have cU := fun W => utf8_any s hs W
  rcases hu : utfB s.size s with _ | _
  · have HE := Lib.hid (rawB_utf _ _ hu)
    rw [hu] at cU
    clear hu
    go_enter Tryd.func22, Tryd.ntmps22
    go_wp2_with (go_at_call 34; refine (cU _).mono ?_; rintro e w' ⟨rfl, rfl⟩)
    exact bodyPost_ret (v := .tuple #[.bool false, .int .i64 1]) (by simp [results, Tryd.results22, go_sem]) rfl ⟨1, .inr rfl, by rw [HE.out], rfl⟩
  · rw [hu] at cU
    have HU := Lib.hid hu
    clear hu
    go_enter Tryd.func22, Tryd.ntmps22
    go_wp2_with (go_at_call 34; refine (cU _).mono ?_; rintro e w' ⟨rfl, rfl⟩)
    clear cU
    go_loop [0, 2, 3, 4, 5] (fun v0 _ _ v4 _ => ∃ (t : ByteArray) (n : Nat) (v : Int), v0 = .string t ∧ v4 = .int .i64 v ∧ t.size ≤ n ∧ Hid (rawB n t = rawB s.size s) ∧ Hid (utfB n t = true) ∧ Hid (v = 0 ∨ v = 1)) (fun v0 _ _ _ _ => strLen v0)
    case atStart => exact ⟨s, s.size, 1, rfl, rfl, Nat.le_refl _, rfl, HU, .inr rfl⟩
    case round =>
      obtain ⟨t, n, v, rfl, rfl, hn, Ht, Hu, Hv⟩ := hrel
      by_cases h0 : 0 < t.size
      · have h0z : (0 : Int) < (t.size : Int) := by omega
        obtain ⟨n, rfl⟩ : ∃ k, n = k + 1 := ⟨n - 1, by omega⟩
        have h3 := restQ_size t h0
        have He := Ht.out
        rw [rawB, if_pos h0] at He
        have hu := Hu.out
        rw [utfB, if_pos h0, Bool.and_eq_true] at hu
        have hb : ¬ badH t := by
          intro h
          rw [decide_eq_true h] at hu
          exact absurd hu.1 (by decide)
        have hu2 := hu.2
        have hw : wid t = (Utf8.decode t 0).2 := by unfold wid; exact if_neg hb
        have cW := width_any t w h0
        rw [hw] at cW
        have hok := okB_words t h0 hb
        unfold restQ at h3 He hu2
        obtain ⟨d, hd⟩ : ∃ d, (Utf8.decode t 0).2 = d := ⟨_, rfl⟩
        rw [hd] at h3 He hu2 cW hok
        obtain ⟨c, hc⟩ : ∃ c, t[0]'h0 = c := ⟨_, rfl⟩
        have hg := get_of_lt t 0 h0
        rw [hc] at hg
        rw [hg] at hok
        obtain ⟨x, hx⟩ : ∃ x, c.toNat = x := ⟨_, rfl⟩
        rw [hx] at hok
        obtain ⟨bm, hbm⟩ : ∃ bm, ((t.extract 0 d).toList == (⟨#[239, 187, 191]⟩ : ByteArray).toList) = bm := ⟨_, rfl⟩
        rw [hbm] at hok
        rw [show (⟨#[239, 187, 191]⟩ : ByteArray).toList = [239, 187, 191] by rw [ByteArray.toList_eq]] at hbm
        obtain ⟨nb, hnb⟩ : ∃ nb : Bool, nb = (decide (x = 96) || decide (x = 127) || (decide (x < 32) && decide (x ≠ 9)) || bm) := ⟨_, rfl⟩
        rw [← hnb] at hok
        have Hnb := Lib.hid hnb
        have HE := Lib.hid He
        have HO := Lib.hid hok
        have HU2 := Lib.hid hu2
        have H3 := Lib.hid (And.intro h3 hn)
        have hd0 : (0 : Int) ≤ (d : Int) := by omega
        have hdt : (d : Int) ≤ (t.size : Int) := by omega
        have hd1 : 1 ≤ d := by omega
        clear Ht Hu hu hu2 hb hw hg hnb He hok hd h3 hn
        go_upto_region 6 with (go_at_call 31; refine cW.mono ?_; rintro e w' ⟨rfl, rfl⟩)
        clear cW
        go_cut [37] from 14 to 37 (fun s37 wx => s37 = .bool nb ∧ w = wx)
        case first =>
          by_cases h1 : x = 96
          · have e : Hid (nb = true) := by
              show _ = _
              rw [Hnb.out]
              simp [h1]
            have f96 : (x : Int) = 96 := by omega
            have b96 : ((x : Int) == 96) = true := by simpa using f96
            clear h1
            go_wp2
            go_meet
            exact ⟨by rw [e.out], rfl⟩
          · by_cases h2 : x = 127
            · have e : Hid (nb = true) := by
                show _ = _
                rw [Hnb.out]
                simp [h2]
              have f127 : (x : Int) = 127 := by omega
              have b127 : ((x : Int) == 127) = true := by simpa using f127
              have f96 : ¬ (x : Int) = 96 := by omega
              have b96 : ((x : Int) == 96) = false := by simpa using f96
              clear h1 h2
              go_wp2
              go_meet
              exact ⟨by rw [e.out], rfl⟩
            · by_cases h3 : x < 32
              · by_cases h4 : x = 9
                · cases bm
                  · have e : Hid (nb = false) := by
                      show _ = _
                      rw [Hnb.out]
                      simp [h4]
                    have f9 : (x : Int) = 9 := by omega
                    have b9 : ((x : Int) == 9) = true := by simpa using f9
                    have f96 : ¬ (x : Int) = 96 := by omega
                    have b96 : ((x : Int) == 96) = false := by simpa using f96
                    have f127 : ¬ (x : Int) = 127 := by omega
                    have b127 : ((x : Int) == 127) = false := by simpa using f127
                    have l32 : (x : Int) < 32 := by omega
                    clear h1 h2 h3 h4
                    go_wp2
                    go_meet
                    exact ⟨by rw [e.out], rfl⟩
                  · have e : Hid (nb = true) := by
                      show _ = _
                      rw [Hnb.out]
                      simp [h4]
                    have f9 : (x : Int) = 9 := by omega
                    have b9 : ((x : Int) == 9) = true := by simpa using f9
                    have f96 : ¬ (x : Int) = 96 := by omega
                    have b96 : ((x : Int) == 96) = false := by simpa using f96
                    have f127 : ¬ (x : Int) = 127 := by omega
                    have b127 : ((x : Int) == 127) = false := by simpa using f127
                    have l32 : (x : Int) < 32 := by omega
                    clear h1 h2 h3 h4
                    go_wp2
                    go_meet
                    exact ⟨by rw [e.out], rfl⟩
                · have e : Hid (nb = true) := by
                    show _ = _
                    rw [Hnb.out]
                    simp [h1, h2, h3, h4]
                  have f96 : ¬ (x : Int) = 96 := by omega
                  have b96 : ((x : Int) == 96) = false := by simpa using f96
                  have f127 : ¬ (x : Int) = 127 := by omega
                  have b127 : ((x : Int) == 127) = false := by simpa using f127
                  have f9 : ¬ (x : Int) = 9 := by omega
                  have b9 : ((x : Int) == 9) = false := by simpa using f9
                  have l32 : (x : Int) < 32 := by omega
                  clear h1 h2 h3 h4
                  go_wp2
                  go_meet
                  exact ⟨by rw [e.out], rfl⟩
              · cases bm
                · have e : Hid (nb = false) := by
                    show _ = _
                    rw [Hnb.out]
                    simp [h1, h2, h3]
                  have f96 : ¬ (x : Int) = 96 := by omega
                  have b96 : ((x : Int) == 96) = false := by simpa using f96
                  have f127 : ¬ (x : Int) = 127 := by omega
                  have b127 : ((x : Int) == 127) = false := by simpa using f127
                  have l32 : ¬ (x : Int) < 32 := by omega
                  clear h1 h2 h3
                  go_wp2
                  go_meet
                  exact ⟨by rw [e.out], rfl⟩
                · have e : Hid (nb = true) := by
                    show _ = _
                    rw [Hnb.out]
                    simp [h1, h2, h3]
                  have f96 : ¬ (x : Int) = 96 := by omega
                  have b96 : ((x : Int) == 96) = false := by simpa using f96
                  have f127 : ¬ (x : Int) = 127 := by omega
                  have b127 : ((x : Int) == 127) = false := by simpa using f127
                  have l32 : ¬ (x : Int) < 32 := by omega
                  clear h1 h2 h3
                  go_wp2
                  go_meet
                  exact ⟨by rw [e.out], rfl⟩
        case rest =>
          obtain ⟨rfl, rfl⟩ := hcut
          clear hbm Hnb
          cases nb
          · have HE2 : Hid (rawB n (t.extract d t.size) = rawB s.size s) := by
              show _ = _
              rw [← HE.out, HO.out]
              rfl
            go_upto_region 8 with (fail)
            go_cut [49] from 38 to 49 (fun s49 wx => (∃ z : Bool, s49 = .bool z) ∧ w = wx)
            case first =>
              by_cases h2 : d = 2
              · have hdz : (d : Int) = 2 := by omega
                have h1s : 1 < t.size := by omega
                have h1z : (1 : Int) < (t.size : Int) := by omega
                by_cases hx2 : x = 194
                · have hxz : (x : Int) = 194 := by omega
                  clear hx2 h2
                  go_wp2
                  go_meet
                  exact ⟨⟨_, rfl⟩, rfl⟩
                · have hxz : ¬ (x : Int) = 194 := by omega
                  have bxz : ((x : Int) == 194) = false := by simpa using hxz
                  clear hx2 h2
                  go_wp2
                  go_meet
                  exact ⟨⟨_, rfl⟩, rfl⟩
              · have hdz : ¬ (d : Int) = 2 := by omega
                have bdz : ((d : Int) == 2) = false := by simpa using hdz
                clear h2
                go_wp2
                go_meet
                exact ⟨⟨_, rfl⟩, rfl⟩
            case rest =>
              obtain ⟨⟨z, rfl⟩, rfl⟩ := hcut
              cases z
              · go_wp2
                go_round
                case rel => exact ⟨_, n, v, rfl, rfl, by have := H3.out; omega, HE2, HU2, Hv⟩
                case measure => have := H3.out; simp only [strLen]; omega
              · go_wp2
                go_round
                case rel => exact ⟨_, n, 0, rfl, rfl, by have := H3.out; omega, HE2, HU2, .inl rfl⟩
                case measure => have := H3.out; simp only [strLen]; omega
          · have HE2 : Hid (rawB s.size s = false) := by
              show _ = _
              rw [← HE.out, HO.out]
              rfl
            go_wp2
            exact bodyPost_ret (v := .tuple #[.bool false, .int .i64 1]) (by simp [results, Tryd.results22, go_sem]) rfl ⟨1, .inr rfl, by rw [HE2.out], rfl⟩
      · have h0z : ¬ (0 : Int) < (t.size : Int) := by omega
        have HE2 : Hid (true = rawB s.size s) := by
          show _ = _
          rw [← Ht.out, rawB_none n t h0]
        clear Ht Hu hn
        go_wp2
        exact bodyPost_ret (v := .tuple #[.bool true, .int .i64 v]) (by simp [results, Tryd.results22, go_sem]) rfl ⟨v, Hv, by rw [← HE2.out], rfl⟩

end Go.Proofs.YtdadbfehackfjaaDoor
