/- FnQuoted: a string is written as a literal of Go that means its first code points, as many as the precision says; with the flag + in ASCII alone; with the flag # between backquotes just if this can be; and filled up to the width: the walk of the law returns true at every flags and every string, where the tables of strconv.IsPrint and of unicode/utf8 stand as their initialisers lay them. -/
import Derived.Test.YtdadbfehackfjaaDoorQCalls
import Derived.Test.YtdadbfehackfjaaDoorUnq
set_option linter.unusedVariables false
set_option linter.unusedSimpArgs false
namespace Go.Proofs.YtdadbfehackfjaaDoor
open Go.RowKit Go.Deep

set_option maxHeartbeats 8000000 in
set_option maxRecDepth 100000 in
theorem fnQuoted_any (F : Fl) (s : ByteArray) (w : World) (h0 : -9223372036854775808 ≤ F.wid) (h1 : F.wid ≤ 9223372036854775807) (h2 : -9223372036854775808 ≤ F.prec) (h3 : F.prec ≤ 9223372036854775807) (hs : s.size ≤ 9223372036854775807) (hUT : Lib.Utf8Tabs 4 5 w) (hPT : Lib.PrintTabsAt 0 1 2 3 Lib.goPrintTabs w) :
    Calls Tryd.prog 6 #[(.agg #[.int .i64 F.wid, .int .i64 F.prec, .bool F.hw, .bool F.hp, .bool F.mi, .bool F.pl, .bool F.sh, .bool F.sp, .bool F.ze]), .string s] w fun e w' => e = .returned (.bool true) ∧ Below w.heap.size w w' := by
  have HPT := Lib.hid hPT
  have HUT := Lib.hid hUT
  clear hPT hUT
  by_cases hbig : 2147483647 < s.size
  · have hbig' : (2147483647 : Int) < (s.size : Int) := by omega
    clear HPT HUT
    go_enter Tryd.func6, Tryd.ntmps6
    go_wp2
    go_ret
    exact ⟨rfl, (by repeat (first | (with_reducible refine Below.drew ?_) | (with_reducible refine below_drewN ?_ _) | (with_reducible refine Below.alloc ?_ (by first | (simp; done) | (simp; omega)) _) | (with_reducible refine Below.setCell ?_ (by first | (simp; done) | (simp; omega)) _) | with_reducible exact Below.refl _ _))⟩
  · have hbig' : (s.size : Int) ≤ 2147483647 := by omega
    have hsb : s.size ≤ 2147483647 := by omega
    have hok := clean_ok F
    have cC := fun W => clean_any F W h0 h1 h2 h3
    obtain ⟨G, hG⟩ : ∃ G, F.clean = G := ⟨_, rfl⟩
    rw [hG] at hok cC
    clear hG h0 h1 h2 h3 hbig hs
    have hcut := cutS_size G s
    have hsz := qText_size G (cutS G s)
    have cU := fun W (hT : Lib.PrintTabsAt 0 1 2 3 Lib.goPrintTabs W) (hU : Lib.Utf8Tabs 4 5 W) => quoted_any G hok s hsb W hT hU
    have cV : ∀ W (hT : Lib.PrintTabsAt 0 1 2 3 Lib.goPrintTabs W) (hU : Lib.Utf8Tabs 4 5 W), Calls Tryd.prog 20 #[.agg #[.int .i64 0, .int .i64 G.prec, .bool false, .bool G.hp, .bool G.mi, .bool G.pl, .bool G.sh, .bool G.sp, .bool G.ze], .string s] W fun e w' => e = .returned (.string (qText G (cutS G s))) ∧ Below W.heap.size W w' := fun W hT hU => quoted_any (tightF G) (tightF_ok hok) s hsb W hT hU
    have cP := fun W => specPad_any G (qText G (cutS G s)) W hok (by omega)
    have cT := fun W => tight_any G W
    have p0 := hok.plo
    have p1 := hok.phi
    have cF := fun W => first_any s G.prec.toNat W (by omega) (by omega)
    rw [Int.toNat_of_nonneg p0] at cF
    have cR := fun W => raw_any (cutS G s) (by omega) W
    have key : ∃ rb : Bool, rawB (cutS G s).size (cutS G s) = rb ∧ ((qText G (cutS G s)).get! 0 = if (G.sh && rb) = true then 96 else 34) ∧ (∀ W, Calls Tryd.prog 18 #[.string (qText G (cutS G s))] W fun e w' => e = .returned (.tuple #[.string (cutS G s), .bool true]) ∧ Below W.heap.size W w') ∧ (G.pl = true → G.sh = false → Asc (qText G (cutS G s))) := by
      obtain ⟨rb, hrb⟩ : ∃ rb, rawB (cutS G s).size (cutS G s) = rb := ⟨_, rfl⟩
      refine ⟨rb, hrb, ?_⟩
      unfold qText
      rw [hrb]
      rcases hb : (G.sh && rb) with _ | _
      · rw [if_neg (by decide), if_neg (by decide)]
        have hqs := qB_size G.pl (cutS G s).size (cutS G s)
        refine ⟨get_app_one _ _, fun W => unq_dq _ _ (qB_lit G.pl (cutS G s).size (cutS G s) (Nat.le_refl _)) (by omega) (by omega) _ rfl W, fun hp _ => ?_⟩
        rw [hp]
        exact (Asc.one (by decide)).app ((qB_asc _ _).app (Asc.one (by decide)))
      · rw [if_pos rfl, if_pos rfl]
        have hrt : rb = true := by rw [Bool.and_eq_true] at hb; exact hb.2
        refine ⟨get_app_one _ _, fun W => unq_bq _ (rawB_no _ _ (Nat.le_refl _) (hrb.trans hrt)) (by omega) _ rfl W, fun _ hsh => ?_⟩
        rw [hsh] at hb
        cases hb
    obtain ⟨rb, hrb, hg0, cQ, hasc⟩ := key
    rw [hrb] at cR
    have hcs : (G.hp = true → s.extract 0 (fwd s G.prec.toNat 0) = cutS G s) ∧ (G.hp = false → s = cutS G s) := by
      unfold cutS
      constructor
      · intro h; rw [h]; rfl
      · intro h; rw [h]; rfl
    obtain ⟨T, hT⟩ : ∃ T, cutS G s = T := ⟨_, rfl⟩
    simp only [hT] at cV cU cP cQ cR hasc hsz hg0 hcs hcut
    obtain ⟨X, hX⟩ : ∃ X, qText G T = X := ⟨_, rfl⟩
    simp only [hX] at cV cU cP cQ hasc hsz hg0
    obtain ⟨R, hR⟩ : ∃ R, padOf G X = R := ⟨_, rfl⟩
    simp only [hR] at cU cP
    have hX0 : 0 < X.size := by omega
    have hX0z : (0 : Int) < (X.size : Int) := by omega
    obtain ⟨c, hc⟩ : ∃ c, X[0]'hX0 = c := ⟨_, rfl⟩
    have hgc := get_of_lt X 0 hX0
    rw [hc, hg0] at hgc
    have c39 : ¬ (c.toNat : Int) = 39 := by rw [← hgc]; split <;> decide
    have b39 : ((c.toNat : Int) == 39) = false := by simpa using c39
    have b96 : ((c.toNat : Int) == 96) = (G.sh && rb) := by
      rw [← hgc]
      rcases (G.sh && rb) with _ | _ <;> decide
    have cA := fun (hp : G.pl = true) (hsh : G.sh = false) W => ascii_any X (hasc hp hsh) (by omega) W
    have HU := Lib.hid cU
    have HV := Lib.hid cV
    have HP := Lib.hid cP
    have HA := Lib.hid cA
    have HQ := Lib.hid cQ
    have HR := Lib.hid cR
    have HF := Lib.hid cF
    have HCS := Lib.hid hcs
    have HB96 := Lib.hid b96
    clear cU cV cP cA cQ cR cF hcs hT hR hX hsz hg0 hgc hrb hasc hok hcut b96 p0 p1 hsb
    go_enter Tryd.func6, Tryd.ntmps6
    go_upto_region 4 with (go_at_call 7; refine (cC _).mono ?_; rintro e w1 ⟨rfl, hb1⟩; obtain ⟨hc1, hf1⟩ := bcell hb1)
    have hBx : Boxed (refilled w1 w.heap.size G) w.heap.size G := Boxed.refill (F := F) (Boxed.below (by unfold Boxed; simp) hb1) G
    have hBl : Below w.heap.size w (refilled w1 w.heap.size G) := below_refilled (Below.trans (by repeat (first | (with_reducible refine Below.drew ?_) | (with_reducible refine below_drewN ?_ _) | (with_reducible refine Below.alloc ?_ (by first | (simp; done) | (simp; omega)) _) | (with_reducible refine Below.setCell ?_ (by first | (simp; done) | (simp; omega)) _) | with_reducible exact Below.refl _ _)) (hb1.mono (by first | (simp; done) | (simp; omega)))) (Nat.le_refl _) G
    change Code.wp _ _ _ _ (refilled w1 w.heap.size G)
    generalize refilled w1 w.heap.size G = W at *
    clear hb1 hc1 hf1 cC
    have HBx := Lib.hid hBx
    clear hBx
    obtain ⟨x0, x1, x2, x3, x4, x5, x6, x7, x8⟩ := id HBx.out
    go_upto_region 6 with (first | (go_at_call 13; refine (cT _).mono ?_; rintro e w2 ⟨rfl, hb2⟩; have q2 : Below w.heap.size w w2 := (by first | exact (hBl).trans ((hb2).mono (hBl).size) | exact (hBl).drew.trans ((hb2).mono (hBl).size) | exact (below_drewN (hBl) _).trans ((hb2).mono (hBl).size)); have hBx2 : Boxed w2 w.heap.size G := Boxed.below (by first | with_reducible exact HBx.out | with_reducible exact (HBx.out).drew | with_reducible exact (HBx.out).drewN _) hb2) | (go_at_call 20; refine (HV.out _ (PrintTabs_below HPT.out q2) (Utf8Tabs_below HUT.out q2)).mono ?_; rintro e w3 ⟨rfl, hb3⟩; have q3 : Below w.heap.size w w3 := (by first | exact (q2).trans ((hb3).mono (q2).size) | exact (q2).drew.trans ((hb3).mono (q2).size) | exact (below_drewN (q2) _).trans ((hb3).mono (q2).size)); have hBx3 : Boxed w3 w.heap.size G := Boxed.below hBx2 hb3))
    clear x0 x1 x2 x3 x4 x5 x6 x7 x8 hBx2 hb2 hb3 q2 HBx hBl HV cT
    have HBx3 := Lib.hid hBx3
    clear hBx3
    obtain ⟨x0, x1, x2, x3, x4, x5, x6, x7, x8⟩ := id HBx3.out
    go_upto_if 22 with (fail)
    go_cut [6] from 14 to 26 (fun s6 wx => s6 = .string T ∧ w3 = wx)
    case first =>
      clear HU HP HA HQ HR HB96
      rcases hhp : G.hp with _ | _
      · rw [hhp] at x3
        have e := Lib.hid (HCS.out.2 hhp)
        clear hhp HCS
        go_wp2
        go_meet
        exact ⟨by rw [← e.out], rfl⟩
      · rw [hhp] at x3
        have e := HCS.out.1 hhp
        have cF := HF.out
        rw [e] at cF
        clear hhp HCS e HF
        go_wp2_with (go_at_call 21; refine (cF _).mono ?_; rintro e w' ⟨rfl, rfl⟩)
        go_meet
        exact ⟨rfl, rfl⟩
    case rest =>
      obtain ⟨rfl, rfl⟩ := hcut
      clear HF HCS
      go_upto_region 9 with (go_at_call 18; refine (HQ.out _).mono ?_; rintro e w4 ⟨rfl, hb4⟩; have q4 : Below w.heap.size w w4 := (by first | exact (q3).trans ((hb4).mono (q3).size) | exact (q3).drew.trans ((hb4).mono (q3).size) | exact (below_drewN (q3) _).trans ((hb4).mono (q3).size)); have HBx4 := Lib.hid (Boxed.below HBx3.out hb4))
      clear hb4 q3 HBx3 HQ x0 x1 x2 x3 x4 x5 x6 x7 x8
      obtain ⟨x0, x1, x2, x3, x4, x5, x6, x7, x8⟩ := id HBx4.out
      go_cut [52] from 32 to 52 (fun s52 wx => s52 = .bool false ∧ Hid (Boxed wx w.heap.size G) ∧ Hid (Below w.heap.size w wx))
      case first =>
        have cU := HU.out
        have cP := HP.out
        clear HU HP HA HR HB96
        go_region_held3 (fun w' => w'.cell? ⟨w.heap.size, 0, none⟩ = some (.int .i64 G.wid) ∧ w'.cell? ⟨w.heap.size, 1, none⟩ = some (.int .i64 G.prec) ∧ w'.cell? ⟨w.heap.size, 2, none⟩ = some (.bool G.hw) ∧ w'.cell? ⟨w.heap.size, 3, none⟩ = some (.bool G.hp) ∧ w'.cell? ⟨w.heap.size, 4, none⟩ = some (.bool G.mi) ∧ w'.cell? ⟨w.heap.size, 5, none⟩ = some (.bool G.pl) ∧ w'.cell? ⟨w.heap.size, 6, none⟩ = some (.bool G.sh) ∧ w'.cell? ⟨w.heap.size, 7, none⟩ = some (.bool G.sp) ∧ w'.cell? ⟨w.heap.size, 8, none⟩ = some (.bool G.ze)) (first | exact hBx7 | exact hBx6 | exact HBx4.out) (first | (go_at_call 20; refine (cU _ (PrintTabs_below HPT.out (by first | with_reducible exact q7 | with_reducible exact (q7).drew | with_reducible exact below_drewN (q7) _ | with_reducible exact q4 | with_reducible exact (q4).drew | with_reducible exact below_drewN (q4) _)) (Utf8Tabs_below HUT.out (by first | with_reducible exact q7 | with_reducible exact (q7).drew | with_reducible exact below_drewN (q7) _ | with_reducible exact q4 | with_reducible exact (q4).drew | with_reducible exact below_drewN (q4) _))).mono ?_; rintro e w6 ⟨rfl, hb6⟩; have hBx6 : Boxed w6 w.heap.size G := Boxed.below (by first | with_reducible exact hBx7 | with_reducible exact (hBx7).drew | with_reducible exact (hBx7).drewN _ | with_reducible exact HBx4.out | with_reducible exact (HBx4.out).drew | with_reducible exact (HBx4.out).drewN _) hb6; have q6 : Below w.heap.size w w6 := (by first | with_reducible exact (q7).trans ((hb6).mono (q7).size) | with_reducible exact (q7).drew.trans ((hb6).mono (q7).size) | with_reducible exact (below_drewN (q7) _).trans ((hb6).mono (q7).size) | with_reducible exact (q4).trans ((hb6).mono (q4).size) | with_reducible exact (q4).drew.trans ((hb6).mono (q4).size) | with_reducible exact (below_drewN (q4) _).trans ((hb6).mono (q4).size))) | (go_at_call 14; refine (cP _).mono ?_; rintro e w7 ⟨rfl, hb7⟩; have hBx7 : Boxed w7 w.heap.size G := Boxed.below (by first | with_reducible exact hBx6 | with_reducible exact (hBx6).drew | with_reducible exact (hBx6).drewN _ | with_reducible exact HBx4.out | with_reducible exact (HBx4.out).drew | with_reducible exact (HBx4.out).drewN _) hb7; have q7 : Below w.heap.size w w7 := (by first | with_reducible exact (q6).trans ((hb7).mono (q6).size) | with_reducible exact (q6).drew.trans ((hb7).mono (q6).size) | with_reducible exact (below_drewN (q6) _).trans ((hb7).mono (q6).size) | with_reducible exact (q4).trans ((hb7).mono (q4).size) | with_reducible exact (q4).drew.trans ((hb7).mono (q4).size) | with_reducible exact (below_drewN (q4) _).trans ((hb7).mono (q4).size))))
        all_goals (
          go_wp2
          go_meet
          refine ⟨rfl, ?_, ?_⟩
          · show Boxed _ _ _
            exact (by first | with_reducible exact hBx7 | with_reducible exact (hBx7).drew | with_reducible exact (hBx7).drewN _ | with_reducible exact hBx6 | with_reducible exact (hBx6).drew | with_reducible exact (hBx6).drewN _)
          · show Below _ _ _
            exact (by first | with_reducible exact q7 | with_reducible exact (q7).drew | with_reducible exact below_drewN (q7) _ | with_reducible exact q6 | with_reducible exact (q6).drew | with_reducible exact below_drewN (q6) _))
      case rest =>
        obtain ⟨rfl, HBx8, Q8⟩ := hcut
        clear x0 x1 x2 x3 x4 x5 x6 x7 x8 HBx4 q4 HU HP HPT HUT
        obtain ⟨x0, x1, x2, x3, x4, x5, x6, x7, x8⟩ := id HBx8.out
        clear x0 x1 x2 x3 x4 x7 x8 HBx8
        go_upto_region 12 with (go_at_call 22; refine (HR.out _).mono ?_; rintro e w' ⟨v, hv, rfl, rfl⟩)
        clear HR
        rcases hv.out with rfl | rfl
        · rcases hsh : G.sh with _ | _
          · rcases hpl : G.pl with _ | _
            · cases rb
              · have hp : G.pl = false := hpl
                have e96 : ((c.toNat : Int) == 96) = false := by rw [HB96.out, hsh]; rfl
                have f96 : ¬ (c.toNat : Int) = 96 := by simpa using e96
                rw [hpl] at x5
                rw [hsh] at x6
                clear hp hpl hsh HA HB96
                go_quiet (fail)
                go_wp2
                go_ret
                refine ⟨rfl, ?_⟩
                first | exact Q8.out | exact below_drewN Q8.out _ | exact Q8.out.drew
              · have hp : G.pl = false := hpl
                have e96 : ((c.toNat : Int) == 96) = false := by rw [HB96.out, hsh]; rfl
                have f96 : ¬ (c.toNat : Int) = 96 := by simpa using e96
                rw [hpl] at x5
                rw [hsh] at x6
                clear hp hpl hsh HA HB96
                go_quiet (fail)
                go_wp2
                go_ret
                refine ⟨rfl, ?_⟩
                first | exact Q8.out | exact below_drewN Q8.out _ | exact Q8.out.drew
            · cases rb
              · have hp : G.pl = true := hpl
                have e96 : ((c.toNat : Int) == 96) = false := by rw [HB96.out, hsh]; rfl
                have f96 : ¬ (c.toNat : Int) = 96 := by simpa using e96
                rw [hpl] at x5
                rw [hsh] at x6
                have cA := HA.out hpl hsh
                clear hp hpl hsh HA HB96
                go_quiet (fail)
                go_wp2_with (go_at_call 19; refine (cA _).mono ?_; rintro e w' ⟨rfl, rfl⟩)
                go_ret
                refine ⟨rfl, ?_⟩
                first | exact Q8.out | exact below_drewN Q8.out _ | exact Q8.out.drew
              · have hp : G.pl = true := hpl
                have e96 : ((c.toNat : Int) == 96) = false := by rw [HB96.out, hsh]; rfl
                have f96 : ¬ (c.toNat : Int) = 96 := by simpa using e96
                rw [hpl] at x5
                rw [hsh] at x6
                have cA := HA.out hpl hsh
                clear hp hpl hsh HA HB96
                go_quiet (fail)
                go_wp2_with (go_at_call 19; refine (cA _).mono ?_; rintro e w' ⟨rfl, rfl⟩)
                go_ret
                refine ⟨rfl, ?_⟩
                first | exact Q8.out | exact below_drewN Q8.out _ | exact Q8.out.drew
          · rcases hpl : G.pl with _ | _
            · cases rb
              · have hp : G.pl = false := hpl
                have e96 : ((c.toNat : Int) == 96) = false := by rw [HB96.out, hsh]; rfl
                have f96 : ¬ (c.toNat : Int) = 96 := by simpa using e96
                rw [hpl] at x5
                rw [hsh] at x6
                clear hp hpl hsh HA HB96
                go_quiet (fail)
                go_wp2
                go_ret
                refine ⟨rfl, ?_⟩
                first | exact Q8.out | exact below_drewN Q8.out _ | exact Q8.out.drew
              · have hp : G.pl = false := hpl
                have e96 : ((c.toNat : Int) == 96) = true := by rw [HB96.out, hsh]; rfl
                have f96 : (c.toNat : Int) = 96 := by simpa using e96
                rw [hpl] at x5
                rw [hsh] at x6
                clear hp hpl hsh HA HB96
                go_quiet (fail)
                go_wp2
                go_ret
                refine ⟨rfl, ?_⟩
                first | exact Q8.out | exact below_drewN Q8.out _ | exact Q8.out.drew
            · cases rb
              · have hp : G.pl = true := hpl
                have e96 : ((c.toNat : Int) == 96) = false := by rw [HB96.out, hsh]; rfl
                have f96 : ¬ (c.toNat : Int) = 96 := by simpa using e96
                rw [hpl] at x5
                rw [hsh] at x6
                clear hp hpl hsh HA HB96
                go_quiet (fail)
                go_wp2
                go_ret
                refine ⟨rfl, ?_⟩
                first | exact Q8.out | exact below_drewN Q8.out _ | exact Q8.out.drew
              · have hp : G.pl = true := hpl
                have e96 : ((c.toNat : Int) == 96) = true := by rw [HB96.out, hsh]; rfl
                have f96 : (c.toNat : Int) = 96 := by simpa using e96
                rw [hpl] at x5
                rw [hsh] at x6
                clear hp hpl hsh HA HB96
                go_quiet (fail)
                go_wp2
                go_ret
                refine ⟨rfl, ?_⟩
                first | exact Q8.out | exact below_drewN Q8.out _ | exact Q8.out.drew
        · rcases hsh : G.sh with _ | _
          · rcases hpl : G.pl with _ | _
            · cases rb
              · have hp : G.pl = false := hpl
                have e96 : ((c.toNat : Int) == 96) = false := by rw [HB96.out, hsh]; rfl
                have f96 : ¬ (c.toNat : Int) = 96 := by simpa using e96
                rw [hpl] at x5
                rw [hsh] at x6
                clear hp hpl hsh HA HB96
                go_quiet (fail)
                go_wp2
                go_ret
                refine ⟨rfl, ?_⟩
                first | exact Q8.out | exact below_drewN Q8.out _ | exact Q8.out.drew
              · have hp : G.pl = false := hpl
                have e96 : ((c.toNat : Int) == 96) = false := by rw [HB96.out, hsh]; rfl
                have f96 : ¬ (c.toNat : Int) = 96 := by simpa using e96
                rw [hpl] at x5
                rw [hsh] at x6
                clear hp hpl hsh HA HB96
                go_quiet (fail)
                go_wp2
                go_ret
                refine ⟨rfl, ?_⟩
                first | exact Q8.out | exact below_drewN Q8.out _ | exact Q8.out.drew
            · cases rb
              · have hp : G.pl = true := hpl
                have e96 : ((c.toNat : Int) == 96) = false := by rw [HB96.out, hsh]; rfl
                have f96 : ¬ (c.toNat : Int) = 96 := by simpa using e96
                rw [hpl] at x5
                rw [hsh] at x6
                have cA := HA.out hpl hsh
                clear hp hpl hsh HA HB96
                go_quiet (fail)
                go_wp2_with (go_at_call 19; refine (cA _).mono ?_; rintro e w' ⟨rfl, rfl⟩)
                go_ret
                refine ⟨rfl, ?_⟩
                first | exact Q8.out | exact below_drewN Q8.out _ | exact Q8.out.drew
              · have hp : G.pl = true := hpl
                have e96 : ((c.toNat : Int) == 96) = false := by rw [HB96.out, hsh]; rfl
                have f96 : ¬ (c.toNat : Int) = 96 := by simpa using e96
                rw [hpl] at x5
                rw [hsh] at x6
                have cA := HA.out hpl hsh
                clear hp hpl hsh HA HB96
                go_quiet (fail)
                go_wp2_with (go_at_call 19; refine (cA _).mono ?_; rintro e w' ⟨rfl, rfl⟩)
                go_ret
                refine ⟨rfl, ?_⟩
                first | exact Q8.out | exact below_drewN Q8.out _ | exact Q8.out.drew
          · rcases hpl : G.pl with _ | _
            · cases rb
              · have hp : G.pl = false := hpl
                have e96 : ((c.toNat : Int) == 96) = false := by rw [HB96.out, hsh]; rfl
                have f96 : ¬ (c.toNat : Int) = 96 := by simpa using e96
                rw [hpl] at x5
                rw [hsh] at x6
                clear hp hpl hsh HA HB96
                go_quiet (fail)
                go_wp2
                go_ret
                refine ⟨rfl, ?_⟩
                first | exact Q8.out | exact below_drewN Q8.out _ | exact Q8.out.drew
              · have hp : G.pl = false := hpl
                have e96 : ((c.toNat : Int) == 96) = true := by rw [HB96.out, hsh]; rfl
                have f96 : (c.toNat : Int) = 96 := by simpa using e96
                rw [hpl] at x5
                rw [hsh] at x6
                clear hp hpl hsh HA HB96
                go_quiet (fail)
                go_wp2
                go_ret
                refine ⟨rfl, ?_⟩
                first | exact Q8.out | exact below_drewN Q8.out _ | exact Q8.out.drew
            · cases rb
              · have hp : G.pl = true := hpl
                have e96 : ((c.toNat : Int) == 96) = false := by rw [HB96.out, hsh]; rfl
                have f96 : ¬ (c.toNat : Int) = 96 := by simpa using e96
                rw [hpl] at x5
                rw [hsh] at x6
                clear hp hpl hsh HA HB96
                go_quiet (fail)
                go_wp2
                go_ret
                refine ⟨rfl, ?_⟩
                first | exact Q8.out | exact below_drewN Q8.out _ | exact Q8.out.drew
              · have hp : G.pl = true := hpl
                have e96 : ((c.toNat : Int) == 96) = true := by rw [HB96.out, hsh]; rfl
                have f96 : (c.toNat : Int) = 96 := by simpa using e96
                rw [hpl] at x5
                rw [hsh] at x6
                clear hp hpl hsh HA HB96
                go_quiet (fail)
                go_wp2
                go_ret
                refine ⟨rfl, ?_⟩
                first | exact Q8.out | exact below_drewN Q8.out _ | exact Q8.out.drew

end Go.Proofs.YtdadbfehackfjaaDoor
