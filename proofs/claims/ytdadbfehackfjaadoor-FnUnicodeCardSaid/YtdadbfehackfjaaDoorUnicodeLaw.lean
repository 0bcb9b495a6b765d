/- FnUnicode: a code point is written as U+ and at least four digits in base 16, with the flag # and what it stands for between quotes, if this can be printed: the walk of the law returns true at every flags and every number, where the four tables of strconv.IsPrint stand as their initialisers lay them. -/
import Derived.Test.YtdadbfehackfjaaDoorUnicodeCalls
set_option linter.unusedVariables false
set_option linter.unusedSimpArgs false
namespace Go.Proofs.YtdadbfehackfjaaDoor
open Go.RowKit Go.Deep

def strSz : Value → Nat
  | .string t => t.size
  | _ => 0
/-- The flags of the law. -/
def uniF (G : Fl) : Fl := { G with hp := false, ze := false }
theorem Boxed.uni {w : World} {b : Nat} {G : Fl} (h : Boxed w b G) : Boxed ((w.setCell ⟨b, 3, none⟩ (.bool false)).setCell ⟨b, 8, none⟩ (.bool false)) b (uniF G) := by
  obtain ⟨h0, h1, h2, h3, h4, h5, h6, h7, h8⟩ := h
  have o : ∀ {W : World} {i j : Nat} {u : Value}, i ≠ j → (W.setCell ⟨b, j, none⟩ u).cell? ⟨b, i, none⟩ = W.cell? ⟨b, i, none⟩ := fun {W i j u} hne => World.cell?_setCell_other W _ _ u (by intro e; injection e with _ e; exact hne (by omega))
  unfold Boxed uniF
  refine ⟨?_, ?_, ?_, ?_, ?_, ?_, ?_, ?_, ?_⟩
  · rw [o (by decide), o (by decide)]; exact h0
  · rw [o (by decide), o (by decide)]; exact h1
  · rw [o (by decide), o (by decide)]; exact h2
  · rw [o (by decide)]; exact cell_set_new h3
  · rw [o (by decide), o (by decide)]; exact h4
  · rw [o (by decide), o (by decide)]; exact h5
  · rw [o (by decide), o (by decide)]; exact h6
  · rw [o (by decide), o (by decide)]; exact h7
  · have : (w.setCell ⟨b, 3, none⟩ (.bool false)).cell? ⟨b, 8, none⟩ = _ := (o (by decide)).trans h8
    exact cell_set_new this

/-- What can stand behind the number. -/
theorem uniTail_cases (F : Fl) (u : Nat) :
    (uniTail F u = ⟨#[]⟩ ∧ (F.sh = false ∨ ¬ (u < 55296 ∨ 57343 < u ∧ u ≤ 1114111) ∨ u < 32 ∨ 127 ≤ u)) ∨
    (uniTail F u = one 32 ++ (one 39 ++ (enc u ++ one 39)) ∧ F.sh = true ∧ (u < 55296 ∨ 57343 < u ∧ u ≤ 1114111) ∧ 32 ≤ u ∧ u ≠ 127) := by
  rcases h : (F.sh && decide (u ≤ 1114111) && prn u) with _ | _
  · left
    refine ⟨by unfold uniTail; rw [if_neg (by rw [h]; decide)], ?_⟩
    rcases hs : F.sh with _ | _
    · exact .inl rfl
    · right
      rw [hs] at h
      by_cases h1 : u ≤ 1114111
      · have hp : prn u = false := by simpa [h1] using h
        by_cases h2 : u < 32
        · exact .inr (.inl h2)
        · by_cases h3 : u < 127
          · rw [prn_ascii u (by omega) (by omega)] at hp; cases hp
          · exact .inr (.inr (by omega))
      · exact .inl (by omega)
  · right
    have h' := h
    simp only [Bool.and_eq_true, decide_eq_true_eq] at h'
    obtain ⟨⟨hs, h1⟩, hp⟩ := h'
    refine ⟨by unfold uniTail; rw [if_pos h], hs, ?_, ?_, ?_⟩
    · by_cases h2 : u < 55296
      · exact .inl h2
      · by_cases h3 : 57343 < u
        · exact .inr ⟨h3, h1⟩
        · rw [prn_sur u (by omega) (by omega)] at hp; cases hp
    · by_cases h2 : u < 32
      · rw [prn_low u (by omega)] at hp; cases hp
      · omega
    · rintro rfl
      have : prn (127 : Nat) = false := prn_del
      rw [this] at hp; cases hp

set_option maxHeartbeats 8000000 in
set_option maxRecDepth 100000 in
theorem fnUnicode_any (F : Fl) (ui : Int) (w : World) (h0 : -9223372036854775808 ≤ F.wid) (h1 : F.wid ≤ 9223372036854775807) (h2 : -9223372036854775808 ≤ F.prec) (h3 : F.prec ≤ 9223372036854775807) (hu0 : 0 ≤ ui) (hu1 : ui ≤ 18446744073709551615) (hPT : Lib.PrintTabsAt 0 1 2 3 Lib.goPrintTabs w) :
    Calls Tryd.prog 4 #[(.agg #[.int .i64 F.wid, .int .i64 F.prec, .bool F.hw, .bool F.hp, .bool F.mi, .bool F.pl, .bool F.sh, .bool F.sp, .bool F.ze]), .int .u64 ui] w fun e w' => e = .returned (.bool true) ∧ Below w.heap.size w w' := by
  obtain ⟨u, rfl⟩ : ∃ u : Nat, ui = (u : Int) := ⟨ui.toNat, by omega⟩
  have hok := clean_ok F
  have cC := fun W => clean_any F W h0 h1 h2 h3
  obtain ⟨G, hG⟩ : ∃ G, F.clean = G := ⟨_, rfl⟩
  rw [hG] at hok cC
  clear hG h0 h1 h2 h3
  have hokH : (uniF G).Ok := ⟨hok.wlo, hok.whi, hok.plo, hok.phi⟩
  have cD : ∀ W, Calls Tryd.prog 11 #[.int .u64 u, .int .i64 16, .bool true] W fun e w' => e = .returned (.string (digB 16 true u)) ∧ W = w' := fun W => digits_any u 16 true hu1 (by decide) (by decide) W
  have cS := fun W => scalar_any (u : Int) hu0 hu1 W
  have hsz : (uniText (uniF G) u).size ≤ 30 ∧ (digB 16 true u).size ≤ 16 ∧ 1 ≤ (digB 16 true u).size := by
    have h1 := uniTail_size (uniF G) u
    have h2 := digB_size16 true 15 u (by omega)
    have h3 := digB_pos 16 true (by decide) u
    rw [uniText, size_app, size_app, size_app, one_size, one_size, uniNum, size_app, fill_size]
    omega
  have hBp := fun W (h : Boxed W w.heap.size G) => h.uni
  have cU := fun W (hT : Lib.PrintTabsAt 0 1 2 3 Lib.goPrintTabs W) => unicode_any (uniF G) hokH rfl u hu1 W hT
  have cV := fun W (hT : Lib.PrintTabsAt 0 1 2 3 Lib.goPrintTabs W) => unicode_any (tightF (uniF G)) (tightF_ok hokH) rfl u hu1 W hT
  have eV : padOf { tightF (uniF G) with ze := false } (uniText (tightF (uniF G)) u) = uniText (uniF G) u := rfl
  have eU : padOf { uniF G with ze := false } (uniText (uniF G) u) = padOf (uniF G) (uniText (uniF G) u) := rfl
  simp only [eV] at cV
  simp only [eU] at cU
  have cP := fun W => specPad_any (uniF G) (uniText (uniF G) u) W hokH (by omega)
  have hTc := uniTail_cases (uniF G) u
  have hT1 : uniText (uniF G) u = one 85 ++ (one 43 ++ (uniNum u ++ uniTail (uniF G) u)) := rfl
  have cT := fun W => tight_any (uniF G) W
  obtain ⟨H, hH⟩ : ∃ H, uniF G = H := ⟨_, rfl⟩
  have cV2 : ∀ W (hT : Lib.PrintTabsAt 0 1 2 3 Lib.goPrintTabs W), Calls Tryd.prog 12 #[.agg #[.int .i64 0, .int .i64 H.prec, .bool false, .bool H.hp, .bool H.mi, .bool H.pl, .bool H.sh, .bool H.sp, .bool H.ze], .int .u64 u] W fun e w' => e = .returned (.string (uniText H u)) ∧ Below W.heap.size W w' := fun W hT => by rw [← hH]; exact cV W hT
  rw [hH] at cU cP hTc hT1 cT hsz
  simp only [hH] at hBp
  obtain ⟨T, hT⟩ : ∃ T, uniText H u = T := ⟨_, rfl⟩
  simp only [hT] at cV2 cU cP hT1 hsz
  obtain ⟨R, hR⟩ : ∃ R, padOf H T = R := ⟨_, rfl⟩
  simp only [hR] at cU cP
  obtain ⟨D, hD⟩ : ∃ D, digB 16 true u = D := ⟨_, rfl⟩
  have hN : fill 48 (4 - D.size) ++ D = uniNum u := by rw [← hD]; rfl
  rw [hD] at hsz
  simp only [hD] at cD
  obtain ⟨sc, hsc⟩ : ∃ sc : Bool, decide ((u : Int) < 55296 ∨ 57343 < (u : Int) ∧ (u : Int) ≤ 1114111) = sc := ⟨_, rfl⟩
  simp only [hsc] at cS
  have hTc2 : (T = ⟨#[85, 43]⟩ ++ uniNum u ∧ (H.sh = false ∨ sc = false ∨ u < 32 ∨ 127 ≤ u)) ∨ (T = ⟨#[85, 43]⟩ ++ uniNum u ++ ⟨#[32, 39]⟩ ++ enc u ++ ⟨#[39]⟩ ∧ H.sh = true ∧ sc = true ∧ 32 ≤ u ∧ u ≠ 127) := by
    have e1 : ∀ X : ByteArray, one 85 ++ (one 43 ++ X) = ⟨#[85, 43]⟩ ++ X := fun X => by rw [← app_assoc]; rfl
    have e2 : ∀ X : ByteArray, one 32 ++ (one 39 ++ X) = ⟨#[32, 39]⟩ ++ X := fun X => by rw [← app_assoc]; rfl
    rcases hTc with ⟨h1, h2⟩ | ⟨h1, h2, h3, h4⟩
    · left
      rw [h1, app_nil, e1] at hT1
      refine ⟨hT1, ?_⟩
      rcases h2 with h2 | h2 | h2
      · exact .inl h2
      · exact .inr (.inl (by rw [← hsc]; exact decide_eq_false (by omega)))
      · exact .inr (.inr h2)
    · right
      rw [h1, e1, e2] at hT1
      refine ⟨by rw [hT1]; simp only [app_assoc]; rfl, h2, by rw [← hsc]; exact decide_eq_true (by omega), h4⟩
  have hTs : T.size ≤ 30 := hsz.1
  have hDs : D.size ≤ 16 ∧ 1 ≤ D.size := hsz.2
  have Henc : Hid (sc = true → (u : Int) ≤ 1114111 ∧ ((u : Int) < 55296 ∨ 57343 < (u : Int))) := fun h => by
    rw [← hsc] at h
    have := of_decide_eq_true h
    omega
  have HBp := Lib.hid hBp
  have HN := Lib.hid hN
  have hNs : (uniNum u).size ≤ 16 := by rw [← hN, size_app, fill_size]; omega
  obtain ⟨P, hP⟩ : ∃ P, (⟨#[85, 43]⟩ : ByteArray) ++ uniNum u = P := ⟨_, rfl⟩
  have hPs : P.size ≤ 18 := by
    rw [← hP, size_app]
    have : (⟨#[85, 43]⟩ : ByteArray).size = 2 := rfl
    omega
  rw [hP] at hTc2
  have HPl := Lib.hid hP
  have hen : (enc u).size ≤ 4 := (enc_le u).2
  have HT := Lib.hid hTc2
  have HU := Lib.hid cU
  have HV := Lib.hid cV2
  have HP := Lib.hid cP
  have HPT := Lib.hid hPT
  clear cU cV cV2 cP hBp hTc2 hTc hT1 hN hT hR hD hP hsc hH hsz hok hokH hPT hu0 eU eV
  go_enter Tryd.func4, Tryd.ntmps4
  go_upto_region 2 with (go_at_call 7; refine (cC _).mono ?_; rintro e w1 ⟨rfl, hb1⟩; obtain ⟨hc1, hf1⟩ := bcell hb1)
  go_upto_region 3 with (fail)
  have hBx := HBp.out _ (Boxed.refill (F := F) (Boxed.below (by unfold Boxed; simp) hb1) G)
  have hB0 : Below w.heap.size w (refilled w1 w.heap.size G) := below_refilled (Below.trans (by repeat (first | (with_reducible refine Below.drew ?_) | (with_reducible refine below_drewN ?_ _) | (with_reducible refine Below.alloc ?_ (by first | (simp; done) | (simp; omega)) _) | (with_reducible refine Below.setCell ?_ (by first | (simp; done) | (simp; omega)) _) | with_reducible exact Below.refl _ _)) (hb1.mono (by first | (simp; done) | (simp; omega)))) (Nat.le_refl _) G
  have hBl : Below w.heap.size w (((refilled w1 w.heap.size G).setCell ⟨w.heap.size, 3, none⟩ (.bool false)).setCell ⟨w.heap.size, 8, none⟩ (.bool false)) := (hB0.setCell (Nat.le_refl _) _).setCell (Nat.le_refl _) _
  change Code.wp _ _ _ _ (((refilled w1 w.heap.size G).setCell ⟨w.heap.size, 3, none⟩ (.bool false)).setCell ⟨w.heap.size, 8, none⟩ (.bool false))
  generalize ((refilled w1 w.heap.size G).setCell ⟨w.heap.size, 3, none⟩ (.bool false)).setCell ⟨w.heap.size, 8, none⟩ (.bool false) = W at *
  clear hb1 hc1 hf1 cC HBp hB0
  have HBx := Lib.hid hBx
  clear hBx
  go_upto_block 0 with (go_at_call 11; refine (cD _).mono ?_; rintro e w' ⟨rfl, rfl⟩)
  clear cD
  go_cut [0, 5] from 14 to 18 (fun _ s5 wx => s5 = .string (uniNum u) ∧ W = wx)
  case first =>
    go_wp2
    go_loop [5] (fun v5 => ∃ (j : Nat) (t : ByteArray), v5 = .string t ∧ t.size = j + D.size ∧ t.size ≤ 16 ∧ (j = 0 ∨ t.size ≤ 4) ∧ Hid (t = fill 48 j ++ D)) (fun v5 => 20 - strSz v5)
    case atStart => exact ⟨0, D, rfl, by omega, by omega, .inl rfl, by show _ = _; rw [fill_zero, nil_app]⟩
    case round =>
      obtain ⟨j, t, rfl, htj, htl, hj, Ht⟩ := hrel
      by_cases hlt : (t.size : Int) < 4
      · have hts : t.size < 4 := by omega
        have e : Hid ((⟨#[48]⟩ : ByteArray) ++ t = fill 48 (j + 1) ++ D) := by show _ = _; rw [fill_succ, app_assoc, ← Ht.out]; rfl
        have es : Hid (((⟨#[48]⟩ : ByteArray) ++ t).size = 1 + t.size) := by show _ = _; rw [size_app]; rfl
        have Htj := Lib.hid htj
        clear htj hj
        go_wp2
        go_round
        case rel => exact ⟨j + 1, _, rfl, by rw [es.out]; have := Htj.out; omega, by rw [es.out]; omega, .inr (by rw [es.out]; omega), e⟩
        case measure => have := es.out; simp only [strSz]; omega
      · have e : Hid (t = uniNum u) := by
          show _ = _
          rw [← HN.out, Ht.out]
          congr 2
          omega
        clear htj hj Ht
        go_wp2
        go_meet
        exact ⟨by rw [e.out], rfl⟩
  case rest =>
    obtain ⟨rfl, rfl⟩ := hcut
    go_upto_region 7 with (fail)
    rw [HPl.out]
    clear HPl HN hNs
    obtain ⟨x0, x1, x2, x3, x4, x5, x6, x7, x8⟩ := id HBx.out
    go_upto_region 8 with (first | (go_at_call 13; refine (cT _).mono ?_; rintro e w2 ⟨rfl, hb2⟩; have q2 : Below w.heap.size w w2 := (by first | exact (hBl).trans ((hb2).mono (hBl).size) | exact (hBl).drew.trans ((hb2).mono (hBl).size) | exact (below_drewN (hBl) _).trans ((hb2).mono (hBl).size)); have hBx2 : Boxed w2 w.heap.size H := Boxed.below (by first | with_reducible exact HBx.out | with_reducible exact (HBx.out).drew | with_reducible exact (HBx.out).drewN _) hb2) | (go_at_call 12; refine (HV.out _ (PrintTabs_below HPT.out q2)).mono ?_; rintro e w3 ⟨rfl, hb3⟩; have q3 : Below w.heap.size w w3 := (by first | exact (q2).trans ((hb3).mono (q2).size) | exact (q2).drew.trans ((hb3).mono (q2).size) | exact (below_drewN (q2) _).trans ((hb3).mono (q2).size)); have hBx3 : Boxed w3 w.heap.size H := Boxed.below hBx2 hb3))
    have HBx3 := Lib.hid hBx3
    clear x0 x1 x2 x3 x4 x5 x6 x7 x8 hBx2 hBx3 hb2 hb3 q2 HBx hBl HV cT
    obtain ⟨x0, x1, x2, x3, x4, x5, x6, x7, x8⟩ := id HBx3.out
    go_cut [0, 31] from 21 to 31 (fun _ s31 wx => s31 = .bool false ∧ Hid (Boxed wx w.heap.size H) ∧ Hid (Below w.heap.size w wx))
    case first =>
      go_region_held3 (fun w' => w'.cell? ⟨w.heap.size, 0, none⟩ = some (.int .i64 H.wid) ∧ w'.cell? ⟨w.heap.size, 1, none⟩ = some (.int .i64 H.prec) ∧ w'.cell? ⟨w.heap.size, 2, none⟩ = some (.bool H.hw) ∧ w'.cell? ⟨w.heap.size, 3, none⟩ = some (.bool H.hp) ∧ w'.cell? ⟨w.heap.size, 4, none⟩ = some (.bool H.mi) ∧ w'.cell? ⟨w.heap.size, 5, none⟩ = some (.bool H.pl) ∧ w'.cell? ⟨w.heap.size, 6, none⟩ = some (.bool H.sh) ∧ w'.cell? ⟨w.heap.size, 7, none⟩ = some (.bool H.sp) ∧ w'.cell? ⟨w.heap.size, 8, none⟩ = some (.bool H.ze)) (first | exact hBx7 | exact hBx6 | exact HBx3.out) (first | (go_at_call 12; refine (HU.out _ (PrintTabs_below HPT.out (by first | with_reducible exact q7 | with_reducible exact (q7).drew | with_reducible exact below_drewN (q7) _ | with_reducible exact q3 | with_reducible exact (q3).drew | with_reducible exact below_drewN (q3) _))).mono ?_; rintro e w6 ⟨rfl, hb6⟩; have hBx6 : Boxed w6 w.heap.size H := Boxed.below (by first | with_reducible exact hBx7 | with_reducible exact (hBx7).drew | with_reducible exact (hBx7).drewN _ | with_reducible exact HBx3.out | with_reducible exact (HBx3.out).drew | with_reducible exact (HBx3.out).drewN _) hb6; have q6 : Below w.heap.size w w6 := (by first | with_reducible exact (q7).trans ((hb6).mono (q7).size) | with_reducible exact (q7).drew.trans ((hb6).mono (q7).size) | with_reducible exact (below_drewN (q7) _).trans ((hb6).mono (q7).size) | with_reducible exact (q3).trans ((hb6).mono (q3).size) | with_reducible exact (q3).drew.trans ((hb6).mono (q3).size) | with_reducible exact (below_drewN (q3) _).trans ((hb6).mono (q3).size))) | (go_at_call 14; refine (HP.out _).mono ?_; rintro e w7 ⟨rfl, hb7⟩; have hBx7 : Boxed w7 w.heap.size H := Boxed.below (by first | with_reducible exact hBx6 | with_reducible exact (hBx6).drew | with_reducible exact (hBx6).drewN _ | with_reducible exact HBx3.out | with_reducible exact (HBx3.out).drew | with_reducible exact (HBx3.out).drewN _) hb7; have q7 : Below w.heap.size w w7 := (by first | with_reducible exact (q6).trans ((hb7).mono (q6).size) | with_reducible exact (q6).drew.trans ((hb7).mono (q6).size) | with_reducible exact (below_drewN (q6) _).trans ((hb7).mono (q6).size) | with_reducible exact (q3).trans ((hb7).mono (q3).size) | with_reducible exact (q3).drew.trans ((hb7).mono (q3).size) | with_reducible exact (below_drewN (q3) _).trans ((hb7).mono (q3).size))))
      all_goals (
        go_wp2
        go_meet
        refine ⟨rfl, ?_, ?_⟩
        · show Boxed _ _ _
          exact (by first | with_reducible exact hBx7 | with_reducible exact (hBx7).drew | with_reducible exact (hBx7).drewN _ | with_reducible exact hBx6 | with_reducible exact (hBx6).drew | with_reducible exact (hBx6).drewN _)
        · show Below _ _ _
          exact (by first | with_reducible exact q7 | with_reducible exact (q7).drew | with_reducible exact below_drewN (q7) _ | with_reducible exact q6 | with_reducible exact (q6).drew | with_reducible exact below_drewN (q6) _))
    case rest =>
      obtain ⟨rfl, HBx8, Q8⟩ := hcut
      clear x0 x1 x2 x3 x4 x5 x6 x7 x8 HBx3 q3 HU HP
      obtain ⟨x0, x1, x2, x3, x4, x5, x6, x7, x8⟩ := id HBx8.out
      clear x0 x1 x2 x3 x4 x5 x7 x8 HBx8 HPT
      go_upto_region 10 with (fail)
      obtain ⟨c, hc⟩ : ∃ c : Bool, c = (!H.sh || !sc || decide (u < 32) || decide (u = 127)) := ⟨_, rfl⟩
      have Hc := Lib.hid hc
      clear hc
      go_cut [0, 47] from 32 to 47 (fun _ s47 wx => s47 = .bool c ∧ wc = wx)
      case first =>
        rcases hs : H.sh with _ | _
        · rw [hs] at x6
          have e : Hid (c = true) := by show _ = _; rw [Hc.out, hs]; rfl
          clear hs
          go_wp2
          go_meet
          exact ⟨by rw [e.out], rfl⟩
        · rw [hs] at x6
          cases sc
          · have e : Hid (c = true) := by show _ = _; rw [Hc.out]; simp
            clear hs
            go_wp2_with (go_at_call 15; refine (cS _).mono ?_; rintro e w' ⟨rfl, rfl⟩)
            go_meet
            exact ⟨by rw [e.out], rfl⟩
          · by_cases h32 : u < 32
            · have h32z : (u : Int) < 32 := by omega
              have e : Hid (c = true) := by show _ = _; rw [Hc.out]; simp [h32]
              clear hs h32
              go_wp2_with (go_at_call 15; refine (cS _).mono ?_; rintro e w' ⟨rfl, rfl⟩)
              go_meet
              exact ⟨by rw [e.out], rfl⟩
            · have h32z : ¬ (u : Int) < 32 := by omega
              by_cases h127 : u = 127
              · have e : Hid (c = true) := by show _ = _; rw [Hc.out]; simp [h127]
                have h127z : ((u : Int) == 127) = true := by rw [h127]; rfl
                clear hs h32 h127
                go_wp2_with (go_at_call 15; refine (cS _).mono ?_; rintro e w' ⟨rfl, rfl⟩)
                all_goals first
                  | (exfalso; omega)
                  | (go_meet; exact ⟨by rw [e.out], rfl⟩)
              · have e : Hid (c = false) := by show _ = _; rw [Hc.out, hs]; simp [h127, h32]
                have h127z : ((u : Int) == 127) = false := by
                  have : ¬ (u : Int) = 127 := by omega
                  simpa using this
                clear hs h32 h127
                go_wp2_with (go_at_call 15; refine (cS _).mono ?_; rintro e w' ⟨rfl, rfl⟩)
                all_goals first
                  | (exfalso; omega)
                  | (go_meet; exact ⟨by rw [e.out], rfl⟩)
      case rest =>
        obtain ⟨rfl, rfl⟩ := hcut
        clear cS x6
        cases c
        · have hc := Hc.out
          have hsh : H.sh = true := by
            rcases h : H.sh with _ | _
            · rw [h] at hc; cases hc
            · rfl
          have hsc : sc = true := by
            rcases h : sc with _ | _
            · rw [hsh, h] at hc; cases hc
            · rfl
          have hu32 : ¬ u < 32 ∧ ¬ u = 127 := by rw [hsh, hsc] at hc; simp at hc; omega
          obtain ⟨he1, he2⟩ := Henc.out hsc
          have cE := fun W => encoded_any (u : Int) (by omega) he1 he2 W
          obtain ⟨E, hE⟩ : ∃ E, enc u = E := ⟨_, rfl⟩
          rw [hE] at HT hen
          simp only [hE] at cE
          have Hsh : Hid (H.sh = true ∧ sc = true) := ⟨hsh, hsc⟩
          clear Hc Henc hE hc hsh hsc he2
          have hsh2 := Hsh.out
          have t0 : ∃ t, (T.toList == (P ++ ⟨#[32, 39]⟩ ++ E ++ ⟨#[39]⟩ : ByteArray).toList) = t ∧ (t = false → (T.toList == P.toList) = true ∧ (127 : Int) < (u : Int)) := by
            rcases HT.out with ⟨h1, h2⟩ | ⟨h1, _⟩
            · refine ⟨false, ?_, fun _ => ⟨by rw [h1]; exact beq_self_eq_true _, ?_⟩⟩
              · rw [h1, beq_eq_false_iff_ne]
                intro h
                have h3 := congrArg List.length h
                rw [ByteArray.toList_eq, ByteArray.toList_eq, Array.length_toList, Array.length_toList] at h3
                have h4 : P.size = (P ++ ⟨#[32, 39]⟩ ++ E ++ ⟨#[39]⟩ : ByteArray).size := h3
                have h5 : (⟨#[39]⟩ : ByteArray).size = 1 := rfl
                rw [size_app, size_app, size_app] at h4
                omega
              · rw [hsh2.1, hsh2.2] at h2
                simp at h2
                omega
            · exact ⟨true, by rw [h1]; exact beq_self_eq_true _, fun h => by cases h⟩
          obtain ⟨t, ht, ht2⟩ := t0
          have hs2 : (⟨#[32, 39]⟩ : ByteArray).size = 2 := rfl
          cases t
          · obtain ⟨t1, t2⟩ := ht2 rfl
            clear ht2 HT hu32 hsh2 Hsh
            go_wp2_with (go_at_call 16; refine (cE _).mono ?_; rintro e w9 ⟨rfl, hb9⟩)
            go_ret
            exact ⟨rfl, (by first | exact (Q8.out).trans ((hb9).mono (Q8.out).size) | exact (Q8.out).drew.trans ((hb9).mono (Q8.out).size) | exact (below_drewN (Q8.out) _).trans ((hb9).mono (Q8.out).size))⟩
          · clear ht2 HT hu32 hsh2 Hsh
            go_wp2_with (go_at_call 16; refine (cE _).mono ?_; rintro e w9 ⟨rfl, hb9⟩)
            go_ret
            exact ⟨rfl, (by first | exact (Q8.out).trans ((hb9).mono (Q8.out).size) | exact (Q8.out).drew.trans ((hb9).mono (Q8.out).size) | exact (below_drewN (Q8.out) _).trans ((hb9).mono (Q8.out).size))⟩
        · have e : Hid (T = P) := by
            show _ = _
            rcases HT.out with ⟨h1, _⟩ | ⟨_, h2, h3, h4, h5⟩
            · exact h1
            · have := Hc.out
              rw [h2, h3] at this
              simp at this
              omega
          have t1 : (T.toList == P.toList) = true := by rw [e.out]; exact beq_self_eq_true _
          clear e HT
          go_wp2
          go_ret
          exact ⟨rfl, Q8.out⟩

end Go.Proofs.YtdadbfehackfjaaDoor
