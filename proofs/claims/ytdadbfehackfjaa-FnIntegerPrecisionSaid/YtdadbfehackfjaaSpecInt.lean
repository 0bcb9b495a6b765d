/- spec.Integer: what the documentation says of integers: plain facts and the walk. Conditions: the base is 2, 8, 10 or 16, widths and precisions lie between 0 and 4095. -/
import Derived.Test.YtdadbfehackfjaaIntCalls
import Derived.Deep.DeepCutAuto
import Derived.Deep.CutBlock
set_option linter.unusedVariables false
set_option linter.unusedSimpArgs false
namespace Go.Proofs.Ytdadbfehackfjaa
open Go.RowKit Go.Deep

/-- Where the documentation says nothing, whatever the width is. -/
def opnOf (F : Fl) (b u : Nat) (O : Bool) : Bool := F.hp || (F.pl && F.sp) || (F.sh && (O || (decide (b = 8) && decide (u = 0))))
/-- What stands ahead of the digits. -/
def headOf (sh : Bool) (b : Nat) (O U : Bool) : ByteArray := if O then ⟨#[48, 111]⟩ else if sh && decide (b = 2) then ⟨#[48, 98]⟩ else if sh && decide (b = 8) then ⟨#[48]⟩ else if sh && decide (b = 16) then (if U then ⟨#[48, 88]⟩ else ⟨#[48, 120]⟩) else ⟨#[]⟩
theorem headOf_size (sh : Bool) (b : Nat) (O U : Bool) : (headOf sh b O U).size ≤ 2 := by
  unfold headOf
  repeat' split
  all_goals exact Nat.le_of_ble_eq_true rfl
def zerOf (F : Fl) : Bool := F.ze && !F.mi && F.hw
theorem signOf_nil (F : Fl) (ng : Bool) : (signOf F ng ⟨#[]⟩).size ≤ 1 := (signOf_ge F ng ⟨#[]⟩).2

set_option maxHeartbeats 8000000 in
set_option maxRecDepth 100000 in
theorem specInteger_any (F : Fl) (hF : F.Ok) (u : Nat) (hu : (u : Int) ≤ 18446744073709551615) (b : Nat) (hb : b = 2 ∨ b = 8 ∨ b = 10 ∨ b = 16) (sg : Bool) (vb : Int) (O U : Bool) (hv : (vb == 79) = O) (R : ByteArray) (V : Bool)
    (hR : (V = false ∧ R = ⟨#[]⟩ ∧ (opnOf F b u O = true ∨ (zerOf F = true ∧ 0 < (headOf F.sh b O U).size))) ∨ (V = true ∧ opnOf F b u O = false ∧ ((zerOf F = true ∧ headOf F.sh b O U = ⟨#[]⟩ ∧ R = signOf F (negOf sg u) ⟨#[]⟩ ++ fill 48 (F.wid - (signOf F (negOf sg u) ⟨#[]⟩).size - (digB b U (magOf sg u)).size).toNat ++ digB b U (magOf sg u)) ∨ (zerOf F = false ∧ R = padOf F (signOf F (negOf sg u) ⟨#[]⟩ ++ headOf F.sh b O U ++ digB b U (magOf sg u)))))) (w : World) :
    Calls Try.prog 26 #[(.agg #[.int .i64 F.wid, .int .i64 F.prec, .bool F.hw, .bool F.hp, .bool F.mi, .bool F.pl, .bool F.sh, .bool F.sp, .bool F.ze]), .int .u64 u, .int .i64 b, .bool sg, .int .u8 vb, .bool U] w fun e w' => e = .returned (.tuple #[.string R, .int .i64 (if V then 1 else 0)]) ∧ Below w.heap.size w w' := by
  have w0 := hF.wlo
  have w1 := hF.whi
  have cM := fun W => magnitude_any F u hu sg W
  have hml := magOf_le sg u hu
  have hb0 : 2 ≤ b := by omega
  have cD := fun W => digits_any (magOf sg u) b U hml hb0 (by omega) W
  have hds := digB_size b U hb0 _ hml
  have hss := signOf_nil F (negOf sg u)
  obtain ⟨S, hS⟩ : ∃ S, signOf F (negOf sg u) ⟨#[]⟩ = S := ⟨_, rfl⟩
  obtain ⟨m, hm⟩ : ∃ m, magOf sg u = m := ⟨_, rfl⟩
  obtain ⟨D, hD⟩ : ∃ D, digB b U (magOf sg u) = D := ⟨_, rfl⟩
  rw [hS, hm] at cM
  rw [hD, hm] at cD
  rw [hS, hD] at hR
  rw [hD] at hds
  rw [hS] at hss
  have hhs := headOf_size F.sh b O U
  obtain ⟨H, hH⟩ : ∃ H, headOf F.sh b O U = H := ⟨_, rfl⟩
  rw [hH] at hR hhs
  have HH := Lib.hid hH
  have HR := Lib.hid hR
  have HV := Lib.hid hv
  have HF := Lib.hid hF
  obtain ⟨opn, hopn⟩ : ∃ c, opnOf F b u O = c := ⟨_, rfl⟩
  have Hopn := Lib.hid hopn
  have HCM := Lib.hid cM
  have HCD := Lib.hid cD
  clear hS hm hD hH hR hv hF hopn hml hb0 cM cD
  go_enter Try.func26, Try.ntmps26
  go_upto_region 1 with (fail)
  have hBx : Boxed (w.alloc (.cells #[.int .i64 F.wid, .int .i64 F.prec, .bool F.hw, .bool F.hp, .bool F.mi, .bool F.pl, .bool F.sh, .bool F.sp, .bool F.ze] 30)) w.heap.size F := by unfold Boxed; simp
  have k1 : Below w.heap.size w (w.alloc (.cells #[.int .i64 F.wid, .int .i64 F.prec, .bool F.hw, .bool F.hp, .bool F.mi, .bool F.pl, .bool F.sh, .bool F.sp, .bool F.ze] 30)) := (Below.refl _ _).alloc (Nat.le_refl _) _
  generalize w.alloc (.cells #[.int .i64 F.wid, .int .i64 F.prec, .bool F.hw, .bool F.hp, .bool F.mi, .bool F.pl, .bool F.sh, .bool F.sp, .bool F.ze] 30) = W at *
  obtain ⟨x0, x1, x2, x3, x4, x5, x6, x7, x8⟩ := id hBx
  have HBx := Lib.hid hBx
  have hv := HV.out
  clear hBx
  go_cut [0, 43] from 18 to 43 (fun _ s43 wx => s43 = .bool opn ∧ W = wx)
  case first =>
    have e : Hid (opn = (F.hp || (F.pl && F.sp) || (F.sh && (O || (decide (b = 8) && decide (u = 0)))))) := Hopn.out.symm
    clear x0 x1 x2 x4 x8
    rcases hhp : F.hp with _ | _
    · rw [hhp] at x3
      have Hhp := Lib.hid hhp
      clear hhp
      rcases hsh : F.sh with _ | _
      · rw [hsh] at x6
        have Hsh := Lib.hid hsh
        clear hsh
        rcases hpl : F.pl with _ | _
        · rw [hpl] at x5
          have Hpl := Lib.hid hpl
          clear hpl
          go_wp2
          go_meet
          exact ⟨by rw [e.out, Hhp.out, Hsh.out, Hpl.out]; rfl, rfl⟩
        · rw [hpl] at x5
          have Hpl := Lib.hid hpl
          clear hpl
          rcases hsp : F.sp with _ | _
          all_goals (
            rw [hsp] at x7
            have Hsp := Lib.hid hsp
            clear hsp
            go_wp2
            go_meet
            exact ⟨by rw [e.out, Hhp.out, Hsh.out, Hpl.out, Hsp.out]; rfl, rfl⟩)
      · rw [hsh] at x6
        have Hsh := Lib.hid hsh
        clear hsh
        have key : ∀ c : Bool, True := fun _ => trivial
        rcases hpl : F.pl with _ | _
        · rw [hpl] at x5
          have Hpl := Lib.hid hpl
          clear hpl
          have e2 : Hid (opn = (O || (decide (b = 8) && decide (u = 0)))) := by show _ = _; rw [e.out, Hhp.out, Hsh.out, Hpl.out]; simp
          cases O
          · rcases hb with rfl | rfl | rfl | rfl
            · go_wp2
              go_meet
              exact ⟨by rw [e2.out]; rfl, rfl⟩
            · by_cases hu0 : u = 0
              · subst hu0
                go_wp2
                go_meet
                exact ⟨by rw [e2.out]; rfl, rfl⟩
              · have hub : ((u : Int) == 0) = false := by simpa using hu0
                have Hu0 := Lib.hid hu0
                clear hu0
                go_wp2
                go_meet
                exact ⟨by rw [e2.out]; simp [Hu0.out], rfl⟩
            · go_wp2
              go_meet
              exact ⟨by rw [e2.out]; rfl, rfl⟩
            · go_wp2
              go_meet
              exact ⟨by rw [e2.out]; rfl, rfl⟩
          · go_wp2
            go_meet
            exact ⟨by rw [e2.out]; rfl, rfl⟩
        · rw [hpl] at x5
          have Hpl := Lib.hid hpl
          clear hpl
          rcases hsp : F.sp with _ | _
          · rw [hsp] at x7
            have Hsp := Lib.hid hsp
            clear hsp
            have e2 : Hid (opn = (O || (decide (b = 8) && decide (u = 0)))) := by show _ = _; rw [e.out, Hhp.out, Hsh.out, Hpl.out, Hsp.out]; simp
            cases O
            · rcases hb with rfl | rfl | rfl | rfl
              · go_wp2
                go_meet
                exact ⟨by rw [e2.out]; rfl, rfl⟩
              · by_cases hu0 : u = 0
                · subst hu0
                  go_wp2
                  go_meet
                  exact ⟨by rw [e2.out]; rfl, rfl⟩
                · have hub : ((u : Int) == 0) = false := by simpa using hu0
                  have Hu0 := Lib.hid hu0
                  clear hu0
                  go_wp2
                  go_meet
                  exact ⟨by rw [e2.out]; simp [Hu0.out], rfl⟩
              · go_wp2
                go_meet
                exact ⟨by rw [e2.out]; rfl, rfl⟩
              · go_wp2
                go_meet
                exact ⟨by rw [e2.out]; rfl, rfl⟩
            · go_wp2
              go_meet
              exact ⟨by rw [e2.out]; rfl, rfl⟩
          · rw [hsp] at x7
            have Hsp := Lib.hid hsp
            clear hsp
            go_wp2
            go_meet
            exact ⟨by rw [e.out, Hhp.out, Hsh.out, Hpl.out, Hsp.out]; rfl, rfl⟩
    · rw [hhp] at x3
      have Hhp := Lib.hid hhp
      clear hhp
      go_wp2
      go_meet
      exact ⟨by rw [e.out, Hhp.out]; rfl, rfl⟩
  case rest =>
    obtain ⟨rfl, rfl⟩ := hcut
    cases opn
    · have e : Hid ((V = false ∧ R = ⟨#[]⟩ ∧ zerOf F = true ∧ 0 < H.size) ∨ (V = true ∧ ((zerOf F = true ∧ H = ⟨#[]⟩ ∧ R = S ++ fill 48 (F.wid - S.size - D.size).toNat ++ D) ∨ (zerOf F = false ∧ R = padOf F (S ++ H ++ D))))) := by
        show _ ∨ _
        rcases HR.out with ⟨h1, h2, h3 | h3⟩ | ⟨h1, h2, h3⟩
        · rw [Hopn.out] at h3; cases h3
        · exact .inl ⟨h1, h2, h3⟩
        · exact .inr ⟨h1, h3⟩
      clear hv
      go_upto_region 5 with (first | (go_at_call 42; refine (HCM.out _).mono ?_; rintro e w2 ⟨rfl, hb2⟩; have hBx2 : Boxed w2 w.heap.size F := HBx.out.below hb2; have k2 : Below w.heap.size w w2 := k1.trans (hb2.mono k1.size)) | (go_at_call 39; refine (HCD.out _).mono ?_; rintro e w3 ⟨rfl, rfl⟩))
      clear x0 x1 x2 x3 x4 x5 x6 x7 x8
      obtain ⟨x0, x1, x2, x3, x4, x5, x6, x7, x8⟩ := id hBx2
      have HBx2 := Lib.hid hBx2
      clear hBx2 hb2
      go_upto_block 0 with (fail)
      go_cut [17] from 44 to 88 (fun s17 wx => s17 = .string H ∧ w2 = wx)
      case first =>
        have hv := HV.out
        cases O
        · rcases hsh : F.sh with _ | _
          · rw [hsh] at x6
            have eH : Hid (H = ⟨#[]⟩) := by show _ = _; rw [← HH.out, hsh]; rfl
            clear hsh
            go_wp2
            go_meet
            exact ⟨by rw [eH.out], rfl⟩
          · rw [hsh] at x6
            rcases hb with rfl | rfl | rfl | rfl
            · have eH : Hid (H = ⟨#[48, 98]⟩) := by show _ = _; rw [← HH.out, hsh]; rfl
              clear hsh
              go_wp2
              go_meet
              exact ⟨by rw [eH.out], rfl⟩
            · have eH : Hid (H = ⟨#[48]⟩) := by show _ = _; rw [← HH.out, hsh]; rfl
              clear hsh
              go_wp2
              go_meet
              exact ⟨by rw [eH.out], rfl⟩
            · have eH : Hid (H = ⟨#[]⟩) := by show _ = _; rw [← HH.out, hsh]; rfl
              clear hsh
              go_wp2
              go_meet
              exact ⟨by rw [eH.out], rfl⟩
            · cases U
              · have eH : Hid (H = ⟨#[48, 120]⟩) := by show _ = _; rw [← HH.out, hsh]; rfl
                clear hsh
                go_wp2
                go_meet
                exact ⟨by rw [eH.out], rfl⟩
              · have eH : Hid (H = ⟨#[48, 88]⟩) := by show _ = _; rw [← HH.out, hsh]; rfl
                clear hsh
                go_wp2
                go_meet
                exact ⟨by rw [eH.out], rfl⟩
        · have eH : Hid (H = ⟨#[48, 111]⟩) := by show _ = _; rw [← HH.out]; rfl
          go_wp2
          go_meet
          exact ⟨by rw [eH.out], rfl⟩
      case rest =>
        obtain ⟨rfl, rfl⟩ := hcut
        obtain ⟨zr, hzr⟩ : ∃ z, zerOf F = z := ⟨_, rfl⟩
        have Hzr := Lib.hid hzr
        clear hzr
        go_upto_region 16 with (fail)
        go_cut [99] from 89 to 99 (fun s99 wx => s99 = .bool zr ∧ w2 = wx)
        case first =>
          have e3 : Hid (zr = (F.ze && !F.mi && F.hw)) := Hzr.out.symm
          rcases hze : F.ze with _ | _
          · rw [hze] at x8
            have Hze := Lib.hid hze
            clear hze
            go_wp2
            go_meet
            exact ⟨by rw [e3.out, Hze.out]; rfl, rfl⟩
          · rw [hze] at x8
            have Hze := Lib.hid hze
            clear hze
            rcases hmi : F.mi with _ | _
            · rw [hmi] at x4
              have Hmi := Lib.hid hmi
              clear hmi
              rcases hhw : F.hw with _ | _
              all_goals (
                rw [hhw] at x2
                have Hhw := Lib.hid hhw
                clear hhw
                go_wp2
                go_meet
                exact ⟨by rw [e3.out, Hze.out, Hmi.out, Hhw.out]; rfl, rfl⟩)
            · rw [hmi] at x4
              have Hmi := Lib.hid hmi
              clear hmi
              go_wp2
              go_meet
              exact ⟨by rw [e3.out, Hze.out, Hmi.out]; rfl, rfl⟩
        case rest =>
          obtain ⟨rfl, rfl⟩ := hcut
          cases zr
          · have e4 : Hid (V = true ∧ R = padOf F (S ++ H ++ D)) := by
              show _ ∧ _
              rcases e.out with ⟨_, _, h3, _⟩ | ⟨h1, ⟨h2, _⟩ | ⟨_, h3⟩⟩
              · rw [Hzr.out] at h3; cases h3
              · rw [Hzr.out] at h2; cases h2
              · exact ⟨h1, h3⟩
            obtain ⟨rfl, hRR⟩ := e4
            have cP : ∀ W, Calls Try.prog 15 #[(.agg #[.int .i64 F.wid, .int .i64 F.prec, .bool F.hw, .bool F.hp, .bool F.mi, .bool F.pl, .bool F.sh, .bool F.sp, .bool F.ze]), .string (S ++ H ++ D)] W fun e w' => e = .returned (.string R) ∧ Below W.heap.size W w' := by
              intro W
              rw [hRR]
              exact specPad_any F (S ++ H ++ D) W HF.out (by rw [size_app, size_app]; omega)
            clear e HR HH hRR Hopn
            go_wp2_with (go_at_call 15; refine (cP _).mono ?_; rintro e w4 ⟨rfl, hb4⟩)
            go_ret2
            exact ⟨rfl, k2.trans (hb4.mono k2.size)⟩
          · by_cases h0 : 0 < H.size
            · have e4 : Hid (V = false ∧ R = ⟨#[]⟩) := by
                show _ ∧ _
                rcases e.out with ⟨h1, h2, _⟩ | ⟨h1, ⟨h2, h3, _⟩ | ⟨h3, _⟩⟩
                · exact ⟨h1, h2⟩
                · rw [h3] at h0; exact absurd h0 (Nat.lt_irrefl 0)
                · rw [Hzr.out] at h3; cases h3
              obtain ⟨rfl, rfl⟩ := e4
              have hne : H.toList.isEmpty = false := by
                rw [ByteArray.toList_eq]
                cases hl : H.data.toList with
                | nil =>
                  have : H.data.toList.length = H.size := by rw [Array.length_toList]; rfl
                  rw [hl] at this
                  simp at this
                  omega
                | cons _ _ => rfl
              clear e HR HH Hopn
              go_wp2
              go_ret2
              exact ⟨rfl, k2⟩
            · have e4 : Hid (V = true ∧ H = ⟨#[]⟩ ∧ R = S ++ fill 48 (F.wid - S.size - D.size).toNat ++ D) := by
                show _ ∧ _ ∧ _
                rcases e.out with ⟨_, _, _, h3⟩ | ⟨h1, ⟨h2, h3, h4⟩ | ⟨h3, _⟩⟩
                · exact absurd h3 h0
                · exact ⟨h1, h3, h4⟩
                · rw [Hzr.out] at h3; cases h3
              have cF : ∀ W, Calls Try.prog 35 #[.int .u8 48, .int .i64 (F.wid - S.size - D.size)] W fun e w' => e = .returned (.string (fill 48 (F.wid - S.size - D.size).toNat)) ∧ Below W.heap.size W w' := fun W => repeated_any 48 (F.wid - S.size - D.size) W (by omega) (by omega)
              obtain ⟨rfl, rfl, hRR⟩ := e4
              have hZs := fill_size 48 (F.wid - S.size - D.size).toNat
              obtain ⟨Z, hZ⟩ : ∃ Z, fill 48 (F.wid - S.size - D.size).toNat = Z := ⟨_, rfl⟩
              rw [hZ] at hZs cF hRR
              have hZ1 : Z.size ≤ 4095 := by omega
              subst hRR
              clear e HR HH Hopn hZs hZ
              go_wp2_with (go_at_call 35; refine (cF _).mono ?_; rintro e w4 ⟨rfl, hb4⟩)
              go_ret2
              exact ⟨rfl, k2.trans (hb4.mono k2.size)⟩
    · have e : Hid (V = false ∧ R = ⟨#[]⟩) := by
        show _ ∧ _
        rcases HR.out with ⟨h1, h2, _⟩ | ⟨_, h2, _⟩
        · exact ⟨h1, h2⟩
        · rw [Hopn.out] at h2; cases h2
      clear hv HR
      obtain ⟨rfl, rfl⟩ := e
      go_wp2
      go_ret2
      exact ⟨rfl, k1⟩

end Go.Proofs.Ytdadbfehackfjaa
