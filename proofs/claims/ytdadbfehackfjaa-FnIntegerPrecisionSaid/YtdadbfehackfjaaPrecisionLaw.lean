/- FnIntegerPrecision: with a precision an integer has at least so many digits, noughts ahead of its own ones: the walk of the law returns true at every flags, every number and every choice of base and verb. No condition. -/
import Derived.Test.YtdadbfehackfjaaIntegerLaw
import Derived.Test.YtdadbfehackfjaaReadPlain
import Derived.Deep.DeepCutAuto
import Derived.Deep.QuietTactic
import Derived.BigQuiet
import Derived.Deep.RegionHeld3
set_option linter.unusedVariables false
set_option linter.unusedSimpArgs false
namespace Go.Proofs.Ytdadbfehackfjaa
open Go.RowKit Go.Deep

/-- The flags of the law. -/
def precF (G : Fl) : Fl := { G with hp := true, sh := false, ze := false }
def plainF (G : Fl) : Fl := ⟨0, 0, false, false, false, G.pl, false, G.sp, false⟩
theorem plainF_ok (G : Fl) : (plainF G).Ok := ⟨Int.le_refl 0, (by show (0 : Int) ≤ 4095; decide), Int.le_refl 0, (by show (0 : Int) ≤ 4095; decide)⟩

theorem plain_out (G : Fl) (sg : Bool) (u b : Nat) (U : Bool) : outOf (plainF G) sg u b false U = signOf G (negOf sg u) ⟨#[]⟩ ++ digB b U (magOf sg u) := by
  unfold outOf
  rw [if_neg (fun h => absurd (show false = true from h.1) (by decide)), padOf_none _ _ rfl, intText, signOf_app]
  have e1 : signOf (plainF G) (negOf sg u) ⟨#[]⟩ = signOf G (negOf sg u) ⟨#[]⟩ := rfl
  have e2 : precOf (plainF G) (negOf sg u) = 0 := by unfold precOf plainF; simp
  rw [e1, e2]
  congr 1
  show numOf 0 b U (magOf sg u) = _
  unfold numOf
  rw [show (0 : Int).toNat - (digB b U (magOf sg u)).size = 0 by omega, fill_zero, nil_app]
theorem prec_out (G : Fl) (sg : Bool) (u b : Nat) (U : Bool) (h : ¬ (G.prec = 0 ∧ magOf sg u = 0)) : outOf (precF G) sg u b false U = padOf (precF G) (signOf G (negOf sg u) ⟨#[]⟩ ++ (fill 48 (G.prec.toNat - (digB b U (magOf sg u)).size) ++ digB b U (magOf sg u))) := by
  unfold outOf
  rw [if_neg (fun h1 => h ⟨h1.2.1, h1.2.2⟩), intText, signOf_app]
  rfl

/-- The flags of the law, stored. -/
theorem Boxed.prec {w : World} {b : Nat} {G : Fl} (h : Boxed w b G) : Boxed (((w.setCell ⟨b, 3, none⟩ (.bool true)).setCell ⟨b, 6, none⟩ (.bool false)).setCell ⟨b, 8, none⟩ (.bool false)) b (precF G) := by
  obtain ⟨h0, h1, h2, h3, h4, h5, h6, h7, h8⟩ := h
  have o : ∀ {W : World} {i j : Nat} {u : Value}, i ≠ j → (W.setCell ⟨b, j, none⟩ u).cell? ⟨b, i, none⟩ = W.cell? ⟨b, i, none⟩ := fun {W i j u} hne => World.cell?_setCell_other W _ _ u (by intro e; injection e with _ e; exact hne (by omega))
  unfold Boxed precF
  refine ⟨?_, ?_, ?_, ?_, ?_, ?_, ?_, ?_, ?_⟩
  · rw [o (by decide), o (by decide), o (by decide)]; exact h0
  · rw [o (by decide), o (by decide), o (by decide)]; exact h1
  · rw [o (by decide), o (by decide), o (by decide)]; exact h2
  · rw [o (by decide), o (by decide)]; exact cell_set_new h3
  · rw [o (by decide), o (by decide), o (by decide)]; exact h4
  · rw [o (by decide), o (by decide), o (by decide)]; exact h5
  · rw [o (by decide)]
    have : (w.setCell ⟨b, 3, none⟩ (.bool true)).cell? ⟨b, 6, none⟩ = _ := (o (by decide)).trans h6
    exact cell_set_new this
  · rw [o (by decide), o (by decide), o (by decide)]; exact h7
  · have : ((w.setCell ⟨b, 3, none⟩ (.bool true)).setCell ⟨b, 6, none⟩ (.bool false)).cell? ⟨b, 8, none⟩ = _ := (o (by decide)).trans ((o (by decide)).trans h8)
    exact cell_set_new this

set_option maxHeartbeats 8000000 in
set_option maxRecDepth 100000 in
theorem fnIntegerPrecision_any (F : Fl) (ui k : Int) (sg up : Bool) (w : World) (h0 : -9223372036854775808 ≤ F.wid) (h1 : F.wid ≤ 9223372036854775807) (h2 : -9223372036854775808 ≤ F.prec) (h3 : F.prec ≤ 9223372036854775807) (hu0 : 0 ≤ ui) (hu1 : ui ≤ 18446744073709551615) (hk0 : -9223372036854775808 ≤ k) (hk1 : k ≤ 9223372036854775807) :
    Calls Try.prog 10 #[(.agg #[.int .i64 F.wid, .int .i64 F.prec, .bool F.hw, .bool F.hp, .bool F.mi, .bool F.pl, .bool F.sh, .bool F.sp, .bool F.ze]), .int .u64 ui, .int .i64 k, .bool sg, .bool up] w fun e w' => e = .returned (.bool true) ∧ Below w.heap.size w w' := by
  obtain ⟨u, rfl⟩ : ∃ u : Nat, ui = (u : Int) := ⟨ui.toNat, by omega⟩
  have hok := clean_ok F
  have cC := fun W => clean_any F W h0 h1 h2 h3
  obtain ⟨G, hG⟩ : ∃ G, F.clean = G := ⟨_, rfl⟩
  rw [hG] at hok cC
  clear hG h0 h1 h2 h3
  have cB := fun W => base_any k W hk0 hk1
  have hb := baseOf_or k
  obtain ⟨b, hbe⟩ : ∃ b, baseOf k = b := ⟨_, rfl⟩
  rw [hbe] at cB hb
  have hb2 : 2 ≤ b := by omega
  have hb16 : b ≤ 16 := by omega
  have cV := fun W => verb_any b hb up false W
  have hv : (vbOf b up false == 79) = false := by rw [vbOf_O]; simp
  have hvl := vbOf_le b up false
  obtain ⟨vb, hvb⟩ : ∃ v, vbOf b up false = v := ⟨_, rfl⟩
  rw [hvb] at cV hv hvl
  have p0 := hok.plo
  have p1 := hok.phi
  have hokH : (precF G).Ok := ⟨hok.wlo, hok.whi, hok.plo, hok.phi⟩
  have hml := magOf_le sg u hu1
  have hmz := magOf_zero sg u hu1
  have cI0 := fun W => integer_any (plainF G) (plainF_ok G) u hu1 b hb sg vb hvl.1 hvl.2 false up hv (fun h => by cases h) W
  have cI1 := fun W => integer_any (precF G) hokH u hu1 b hb sg vb hvl.1 hvl.2 false up hv (fun h => by cases h) W
  simp only [plain_out] at cI0
  have hout := prec_out G sg u b up
  have hds := digB_size b up hb2 _ hml
  have hdp := digB_pos b up hb2 (magOf sg u)
  have hda : Hi (digB b up (magOf sg u)) := digB_all _ b up hb2 (fun d hd => hexd_hi up d (by omega)) _ _ (Nat.le_refl _)
  obtain ⟨m, hm⟩ : ∃ m, magOf sg u = m := ⟨_, rfl⟩
  obtain ⟨S, hS⟩ : ∃ S, signOf G (negOf sg u) ⟨#[]⟩ = S := ⟨_, rfl⟩
  have hSc : S = ⟨#[]⟩ ∨ S = one 45 ∨ S = one 43 ∨ S = one 32 := by
    rw [← hS]; unfold signOf
    cases negOf sg u <;> cases G.pl <;> cases G.sp <;> simp [app_nil]
  rw [hm] at hout hmz hds hdp hda
  simp only [hm] at cI0
  obtain ⟨D, hD⟩ : ∃ D, digB b up m = D := ⟨_, rfl⟩
  rw [hD, hS] at hout
  rw [hD] at hds hdp hda
  simp only [hD, hS] at cI0
  have cP : ∀ W, Calls Try.prog 15 #[.agg #[.int .i64 (precF G).wid, .int .i64 (precF G).prec, .bool (precF G).hw, .bool (precF G).hp, .bool (precF G).mi, .bool (precF G).pl, .bool (precF G).sh, .bool (precF G).sp, .bool (precF G).ze], .string (S ++ (fill 48 (G.prec.toNat - D.size) ++ D))] W fun e w' => e = .returned (.string (padOf (precF G) (S ++ (fill 48 (G.prec.toNat - D.size) ++ D)))) ∧ Below W.heap.size W w' := fun W => specPad_any (precF G) _ W hokH (by
    rw [size_app, size_app, fill_size]
    rcases hSc with h | h | h | h <;> rw [h] <;> (try rw [one_size]) <;> (try rw [show (⟨#[]⟩ : ByteArray).size = 0 from rfl]) <;> omega)
  obtain ⟨R, hR⟩ : ∃ R, padOf (precF G) (S ++ (fill 48 (G.prec.toNat - D.size) ++ D)) = R := ⟨_, rfl⟩
  rw [hR] at cP
  rw [hR] at hout
  obtain ⟨H, hH⟩ : ∃ H, precF G = H := ⟨_, rfl⟩
  have eHp : G.prec = H.prec := by rw [← hH]; rfl
  have cJ0 : ∀ W, Calls Try.prog 27 #[.agg #[.int .i64 0, .int .i64 0, .bool false, .bool false, .bool false, .bool H.pl, .bool false, .bool H.sp, .bool false], .int .u64 u, .int .i64 b, .bool sg, .int .u8 vb, .bool up] W fun e w' => e = .returned (.string (S ++ D)) ∧ Below W.heap.size W w' := fun W => by rw [← hH]; exact cI0 W
  have hBp := fun W (h : Boxed W w.heap.size G) => h.prec
  rw [hH] at cI1 hout cP
  simp only [hH] at hBp
  rw [eHp] at hout cP p0 p1
  have HBp := Lib.hid hBp
  have Hout := Lib.hid hout
  have HI1 := Lib.hid cI1
  have HP := Lib.hid cP
  have HJ0 := Lib.hid cJ0
  have Hmz := Lib.hid hmz
  have HSc := Lib.hid hSc
  have HDa := Lib.hid hda
  clear cI0 cI1 cP hBp hout hmz hSc hda hv hvl hb hk0 hk1 hbe hvb hm hS hD hR hH hml hb2 hb16 hok hokH eHp cJ0
  go_enter Try.func10, Try.ntmps10
  go_upto_region 2 with (go_at_call 11; refine (cC _).mono ?_; rintro e w1 ⟨rfl, hb1⟩; obtain ⟨hc1, hf1⟩ := bcell hb1)
  go_upto_region 3 with (fail)
  have hBx := HBp.out _ (Boxed.refill (F := F) (Boxed.below (by unfold Boxed; simp) hb1) G)
  have hB0 : Below w.heap.size w (refilled w1 w.heap.size G) := below_refilled (Below.trans (by repeat (first | (with_reducible refine Below.drew ?_) | (with_reducible refine below_drewN ?_ _) | (with_reducible refine Below.alloc ?_ (by first | (simp; done) | (simp; omega)) _) | (with_reducible refine Below.setCell ?_ (by first | (simp; done) | (simp; omega)) _) | with_reducible exact Below.refl _ _)) (hb1.mono (by first | (simp; done) | (simp; omega)))) (Nat.le_refl _) G
  have hBl : Below w.heap.size w ((((refilled w1 w.heap.size G).setCell ⟨w.heap.size, 3, none⟩ (.bool true)).setCell ⟨w.heap.size, 6, none⟩ (.bool false)).setCell ⟨w.heap.size, 8, none⟩ (.bool false)) := ((hB0.setCell (Nat.le_refl _) _).setCell (Nat.le_refl _) _).setCell (Nat.le_refl _) _
  change Code.wp _ _ _ _ ((((refilled w1 w.heap.size G).setCell ⟨w.heap.size, 3, none⟩ (.bool true)).setCell ⟨w.heap.size, 6, none⟩ (.bool false)).setCell ⟨w.heap.size, 8, none⟩ (.bool false))
  generalize ((((refilled w1 w.heap.size G).setCell ⟨w.heap.size, 3, none⟩ (.bool true)).setCell ⟨w.heap.size, 6, none⟩ (.bool false)).setCell ⟨w.heap.size, 8, none⟩ (.bool false)) = W at *
  clear hb1 hc1 hf1 cC HBp hB0
  obtain ⟨x0, x1, x2, x3, x4, x5, x6, x7, x8⟩ := id hBx
  have HBx := Lib.hid hBx
  clear hBx
  obtain ⟨nz, hnz⟩ : ∃ z, ((decide (u = 0) && decide (H.prec = 0)) || (H.pl && H.sp)) = z := ⟨_, rfl⟩
  have Hnz := Lib.hid hnz
  clear hnz
  go_cut [0, 35] from 16 to 35 (fun _ s35 wx => s35 = .bool nz ∧ W = wx)
  case first =>
    clear x0 x2 x3 x4 x6 x8
    have key : ∃ c, Hid ((decide (u = 0) && decide (H.prec = 0)) = c) ∧ Hid (nz = (c || (H.pl && H.sp))) := ⟨_, rfl, Hnz.out.symm⟩
    obtain ⟨c, Hc, Hn⟩ := key
    by_cases hu0 : u = 0
    · have hub : ((u : Int) == 0) = true := by rw [hu0]; rfl
      by_cases hp0 : H.prec = 0
      · have hpb : (H.prec == 0) = true := by rw [hp0]; rfl
        have e : Hid (nz = true) := by show _ = _; rw [Hn.out, ← Hc.out, hu0, hp0]; rfl
        clear hu0 hp0
        go_wp2
        go_meet
        exact ⟨by rw [e.out], rfl⟩
      · have hpb : (H.prec == 0) = false := by simpa using hp0
        have e : Hid (nz = (H.pl && H.sp)) := by show _ = _; rw [Hn.out, ← Hc.out]; simp [hp0]
        clear hu0 hp0
        rcases hpl : H.pl with _ | _
        · rw [hpl] at x5
          have e2 : Hid (nz = false) := by show _ = _; rw [e.out, hpl]; rfl
          clear hpl
          go_wp2
          go_meet
          exact ⟨by rw [e2.out], rfl⟩
        · rw [hpl] at x5
          rcases hsp : H.sp with _ | _
          · rw [hsp] at x7
            have e2 : Hid (nz = false) := by show _ = _; rw [e.out, hpl, hsp]; rfl
            clear hpl hsp
            go_wp2
            go_meet
            exact ⟨by rw [e2.out], rfl⟩
          · rw [hsp] at x7
            have e2 : Hid (nz = true) := by show _ = _; rw [e.out, hpl, hsp]; rfl
            clear hpl hsp
            go_wp2
            go_meet
            exact ⟨by rw [e2.out], rfl⟩
    · have hub : ((u : Int) == 0) = false := by simpa using hu0
      have e : Hid (nz = (H.pl && H.sp)) := by show _ = _; rw [Hn.out, ← Hc.out]; simp [hu0]
      clear hu0
      rcases hpl : H.pl with _ | _
      · rw [hpl] at x5
        have e2 : Hid (nz = false) := by show _ = _; rw [e.out, hpl]; rfl
        clear hpl
        go_wp2
        go_meet
        exact ⟨by rw [e2.out], rfl⟩
      · rw [hpl] at x5
        rcases hsp : H.sp with _ | _
        · rw [hsp] at x7
          have e2 : Hid (nz = false) := by show _ = _; rw [e.out, hpl, hsp]; rfl
          clear hpl hsp
          go_wp2
          go_meet
          exact ⟨by rw [e2.out], rfl⟩
        · rw [hsp] at x7
          have e2 : Hid (nz = true) := by show _ = _; rw [e.out, hpl, hsp]; rfl
          clear hpl hsp
          go_wp2
          go_meet
          exact ⟨by rw [e2.out], rfl⟩
  case rest =>
    obtain ⟨rfl, rfl⟩ := hcut
    cases nz
    · have hnn : Hid (¬ (H.prec = 0 ∧ m = 0)) := by
        show ¬ _
        rintro ⟨e1, e2⟩
        have e3 := Hmz.out.1 e2
        have e4 := Hnz.out
        rw [e1, e3] at e4
        simp at e4
      have cI1 : ∀ W, Calls Try.prog 27 #[.agg #[.int .i64 H.wid, .int .i64 H.prec, .bool H.hw, .bool H.hp, .bool H.mi, .bool H.pl, .bool H.sh, .bool H.sp, .bool H.ze], .int .u64 u, .int .i64 b, .bool sg, .int .u8 vb, .bool up] W fun e w' => e = .returned (.string R) ∧ Below W.heap.size W w' := fun W => by
        rw [← Hout.out hnn.out]
        exact HI1.out W
      have HI2 := Lib.hid cI1
      clear cI1 HI1 Hout hnn Hnz Hmz
      clear x0 x1 x2 x3 x4 x6 x8
      go_upto_region 8 with (first | (go_at_call 24; refine (cB _).mono ?_; rintro e w2 ⟨rfl, hb2⟩; have hBx2 : Boxed w2 w.heap.size H := HBx.out.below hb2; have q2 : Below w.heap.size w w2 := (by first | exact (hBl).trans ((hb2).mono (hBl).size) | exact (hBl).drew.trans ((hb2).mono (hBl).size) | exact (below_drewN (hBl) _).trans ((hb2).mono (hBl).size)); obtain ⟨y0, y1, y2, y3, y4, y5, y6, y7, y8⟩ := id hBx2) | (go_at_call 25; refine (cV _).mono ?_; rintro e w' ⟨rfl, rfl⟩))
      have q3 : Below w.heap.size w (w2.alloc (.cells #[.int .i64 0, .int .i64 0, .bool false, .bool false, .bool false, .bool H.pl, .bool false, .bool H.sp, .bool false] 23)) := q2.alloc q2.size _
      have hBx3 : Boxed (w2.alloc (.cells #[.int .i64 0, .int .i64 0, .bool false, .bool false, .bool false, .bool H.pl, .bool false, .bool H.sp, .bool false] 23)) w.heap.size H := hBx2.below ((Below.refl _ _).alloc (Nat.le_refl _) _)
      go_upto_region 10 with (go_at_call 27; refine (HJ0.out _).mono ?_; rintro e w4 ⟨rfl, hb4⟩; have q4 : Below w.heap.size w w4 := q3.trans (hb4.mono q3.size); have hBx4 : Boxed w4 w.heap.size H := hBx3.below hb4)
      clear y0 y1 y2 y3 y4 y5 y6 y7 y8 hBx2 hBx3 q2 q3 hb4 cB cV HJ0
      obtain ⟨y0, y1, y2, y3, y4, y5, y6, y7, y8⟩ := id hBx4
      have HBx4 := Lib.hid hBx4
      clear hBx4 y0 y2 y3 y4 y5 y6 y7 y8
      obtain ⟨d, hd⟩ : ∃ d : Bool, (d = true ∧ ∃ c, S = one c ∧ (c = 45 ∨ c = 43 ∨ c = 32)) ∨ (d = false ∧ S = ⟨#[]⟩) := by
        rcases HSc.out with h | h | h | h
        · exact ⟨false, .inr ⟨rfl, h⟩⟩
        · exact ⟨true, .inl ⟨rfl, 45, h, .inl rfl⟩⟩
        · exact ⟨true, .inl ⟨rfl, 43, h, .inr (.inl rfl)⟩⟩
        · exact ⟨true, .inl ⟨rfl, 32, h, .inr (.inr rfl)⟩⟩
      have Hd := Lib.hid hd
      have hSs : S.size ≤ 1 := by
        rcases hd with ⟨_, c, h, _⟩ | ⟨_, h⟩
        · rw [h, one_size]; exact Nat.le_refl _
        · rw [h]; exact Nat.zero_le _
      clear hd HSc
      have hT0 : 0 < (S ++ D).size := by rw [size_app]; omega
      have hTs : (S ++ D).size ≤ 65 := by rw [size_app]; omega
      obtain ⟨T, hT⟩ : ∃ T, S ++ D = T := ⟨_, rfl⟩
      have HT := Lib.hid hT
      rw [hT] at hT0 hTs
      rw [hT]
      clear hT
      have hT0z : (0 : Int) < (T.size : Int) := by omega
      have hTne := str_ne T hT0
      go_cut [69] from 36 to 69 (fun s69 wx => s69 = .bool d ∧ w4 = wx)
      case first =>
        obtain ⟨ch, hch⟩ : ∃ ch, T[0] = ch := ⟨_, rfl⟩
        have hg := get_of_lt T 0 hT0
        rw [hch, ← HT.out] at hg
        rcases Hd.out with ⟨h1, c, h2, h3⟩ | ⟨h1, h2⟩
        · have E := Lib.hid h1
          have hcc : ch = c := by rw [← hg, h2, get_app_left _ _ 0 (by rw [one_size]; omega)]; rfl
          clear h1 h2 hg
          rcases h3 with h3 | h3 | h3
          · have e1 : ((ch.toNat : Int) == 45) = true := by rw [hcc, h3]; rfl
            clear h3 hcc
            go_wp2
            go_meet
            exact ⟨by rw [E.out], rfl⟩
          · have e1 : ((ch.toNat : Int) == 45) = false := by rw [hcc, h3]; rfl
            have e2 : ((ch.toNat : Int) == 43) = true := by rw [hcc, h3]; rfl
            clear h3 hcc
            go_wp2
            go_meet
            exact ⟨by rw [E.out], rfl⟩
          · have e1 : ((ch.toNat : Int) == 45) = false := by rw [hcc, h3]; rfl
            have e2 : ((ch.toNat : Int) == 43) = false := by rw [hcc, h3]; rfl
            have e3 : ((ch.toNat : Int) == 32) = true := by rw [hcc, h3]; rfl
            clear h3 hcc
            go_wp2
            go_meet
            exact ⟨by rw [E.out], rfl⟩
        · have E := Lib.hid h1
          rw [h2, nil_app] at hg
          have e1 : ((ch.toNat : Int) == 45) = false := u8_ne (k := 45) (by decide) (by rw [← hg]; exact hi_ne HDa.out 0 hdp 45 (by decide))
          have e2 : ((ch.toNat : Int) == 43) = false := u8_ne (k := 43) (by decide) (by rw [← hg]; exact hi_ne HDa.out 0 hdp 43 (by decide))
          have e3 : ((ch.toNat : Int) == 32) = false := u8_ne (k := 32) (by decide) (by rw [← hg]; exact hi_ne HDa.out 0 hdp 32 (by decide))
          clear h1 h2 hg
          go_wp2
          go_meet
          exact ⟨by rw [E.out], rfl⟩
      case rest =>
        obtain ⟨rfl, rfl⟩ := hcut
        go_upto_if 69 with (fail)
        go_cut [14, 15] from 69 to 73 (fun s14 s15 wx => s14 = .string D ∧ s15 = .string S ∧ Hid (Boxed wx w.heap.size H) ∧ Hid (Below w.heap.size w wx))
        case first =>
          cases d
          · have e : Hid (T = D ∧ S = ⟨#[]⟩) := by
              show _ ∧ _
              rcases Hd.out with ⟨h1, _⟩ | ⟨_, h2⟩
              · cases h1
              · exact ⟨by rw [← HT.out, h2, nil_app], h2⟩
            go_wp2
            go_meet
            exact ⟨by rw [e.out.1], by rw [e.out.2], HBx4, q4⟩
          · have e : Hid (T.extract 0 1 = S ∧ T.extract 1 T.size = D) := by
              show _ ∧ _
              rcases Hd.out with ⟨_, c, h2, _⟩ | ⟨h1, _⟩
              · rw [← HT.out, h2]
                exact ⟨ByteArray.extract_append_eq_left rfl, one_tail c D⟩
              · cases h1
            have hT1z : (1 : Int) ≤ (T.size : Int) := by omega
            go_upto_region 11 with (fail)
            go_quiet (fail)
            go_wp2
            go_meet
            exact ⟨by rw [e.out.2], by rw [e.out.1], HBx4.out.drewN _, below_drewN q4 _⟩
        case rest =>
          obtain ⟨rfl, rfl, HBx5, q5⟩ := hcut
          clear HBx4 q4 y1 hT0 hT0z hTne hTs HT Hd
          obtain ⟨y0, y1, y2, y3, y4, y5, y6, y7, y8⟩ := id HBx5.out
          have HY := Lib.hid HBx5.out
          clear y0 y2 y3 y4 y5 y6 y7 y8
          go_wp2
          go_loop [14] (fun v14 => ∃ (j : Nat) (t : ByteArray), v14 = .string t ∧ t.size = j + D.size ∧ t.size ≤ 5000 ∧ (j = 0 ∨ (t.size : Int) ≤ H.prec) ∧ Hid (t = fill 48 j ++ D)) (fun v14 => 5000 - strSz v14)
          case atStart => exact ⟨0, D, rfl, by omega, by omega, .inl rfl, by show _ = _; rw [fill_zero, nil_app]⟩
          case round =>
            obtain ⟨j, t, rfl, htj, htl, hj, Ht⟩ := hrel
            by_cases hlt : (t.size : Int) < H.prec
            · have hts : t.size < 5000 := by omega
              have e : Hid ((⟨#[48]⟩ : ByteArray) ++ t = fill 48 (j + 1) ++ D) := by show _ = _; rw [fill_succ, app_assoc, ← Ht.out]; rfl
              have es : Hid (((⟨#[48]⟩ : ByteArray) ++ t).size = 1 + t.size) := by show _ = _; rw [size_app]; rfl
              have Htj := Lib.hid htj
              have Hlt : Hid ((1 : Int) + t.size ≤ H.prec) := by show _ ≤ _; omega
              clear htj hj
              go_wp2
              go_round
              case rel => exact ⟨j + 1, _, rfl, by rw [es.out]; have := Htj.out; omega, by rw [es.out]; omega, .inr (by rw [es.out]; have := Hlt.out; omega), e⟩
              case measure => have := es.out; simp only [strSz]; omega
            · have e : Hid (t = fill 48 (H.prec.toNat - D.size) ++ D) := by
                show _ = _
                rw [Ht.out]
                congr 2
                omega
              have cP : ∀ W, Calls Try.prog 15 #[.agg #[.int .i64 H.wid, .int .i64 H.prec, .bool H.hw, .bool H.hp, .bool H.mi, .bool H.pl, .bool H.sh, .bool H.sp, .bool H.ze], .string (S ++ t)] W fun e w' => e = .returned (.string R) ∧ Below W.heap.size W w' := fun W => by
                rw [e.out]
                exact HP.out W
              have HP2 := Lib.hid cP
              clear cP HP htj hj Ht e y1
              obtain ⟨y0, y1, y2, y3, y4, y5, y6, y7, y8⟩ := id HY.out
              have hadd : ¬ (9223372036854775807 < S.size + t.size) := by omega
              have hadz : ¬ ((9223372036854775807 : Int) < (S.size : Int) + (t.size : Int)) := by omega
              go_upto_region 14 with (fail)
              go_region_held3 (fun w' => w'.cell? ⟨w.heap.size, 0, none⟩ = some (.int .i64 H.wid) ∧ w'.cell? ⟨w.heap.size, 1, none⟩ = some (.int .i64 H.prec) ∧ w'.cell? ⟨w.heap.size, 2, none⟩ = some (.bool H.hw) ∧ w'.cell? ⟨w.heap.size, 3, none⟩ = some (.bool H.hp) ∧ w'.cell? ⟨w.heap.size, 4, none⟩ = some (.bool H.mi) ∧ w'.cell? ⟨w.heap.size, 5, none⟩ = some (.bool H.pl) ∧ w'.cell? ⟨w.heap.size, 6, none⟩ = some (.bool H.sh) ∧ w'.cell? ⟨w.heap.size, 7, none⟩ = some (.bool H.sp) ∧ w'.cell? ⟨w.heap.size, 8, none⟩ = some (.bool H.ze)) (first | exact hBx7 | exact hBx6 | exact HBx5.out) (first | (go_at_call 27; refine (HI2.out _).mono ?_; rintro e w6 ⟨rfl, hb6⟩; have hBx6 : Boxed w6 w.heap.size H := Boxed.below (by first | with_reducible exact hBx7 | with_reducible exact (hBx7).drew | with_reducible exact (hBx7).drewN _ | with_reducible exact HBx5.out | with_reducible exact (HBx5.out).drew | with_reducible exact (HBx5.out).drewN _) hb6; have q6 : Below w.heap.size w w6 := (by first | with_reducible exact (q7).trans ((hb6).mono (q7).size) | with_reducible exact (q7).drew.trans ((hb6).mono (q7).size) | with_reducible exact (below_drewN (q7) _).trans ((hb6).mono (q7).size) | with_reducible exact (q5.out).trans ((hb6).mono (q5.out).size) | with_reducible exact (q5.out).drew.trans ((hb6).mono (q5.out).size) | with_reducible exact (below_drewN (q5.out) _).trans ((hb6).mono (q5.out).size))) | (go_at_call 15; refine (HP2.out _).mono ?_; rintro e w7 ⟨rfl, hb7⟩; have hBx7 : Boxed w7 w.heap.size H := Boxed.below (by first | with_reducible exact hBx6 | with_reducible exact (hBx6).drew | with_reducible exact (hBx6).drewN _ | with_reducible exact HBx5.out | with_reducible exact (HBx5.out).drew | with_reducible exact (HBx5.out).drewN _) hb7; have q7 : Below w.heap.size w w7 := (by first | with_reducible exact (q6).trans ((hb7).mono (q6).size) | with_reducible exact (q6).drew.trans ((hb7).mono (q6).size) | with_reducible exact (below_drewN (q6) _).trans ((hb7).mono (q6).size) | with_reducible exact (q5.out).trans ((hb7).mono (q5.out).size) | with_reducible exact (q5.out).drew.trans ((hb7).mono (q5.out).size) | with_reducible exact (below_drewN (q5.out) _).trans ((hb7).mono (q5.out).size))))
              all_goals (
                go_wp2
                go_ret
                exact ⟨rfl, (by first | with_reducible exact q7 | with_reducible exact (q7).drew | with_reducible exact below_drewN (q7) _ | with_reducible exact q6 | with_reducible exact (q6).drew | with_reducible exact below_drewN (q6) _)⟩)
    · go_wp2
      go_ret
      exact ⟨rfl, hBl⟩

end Go.Proofs.Ytdadbfehackfjaa
