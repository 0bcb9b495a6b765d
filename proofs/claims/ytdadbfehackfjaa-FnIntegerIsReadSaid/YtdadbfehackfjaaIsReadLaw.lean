/- FnIntegerIsRead: what is written of an integer has at least so many code points as the width, at least so many digits as the precision, and is read as this integer: the walk of the law returns true at every flags, every number and every choice of base and verb. No condition. -/
import Derived.Test.YtdadbfehackfjaaReadPlain
import Derived.Test.YtdadbfehackfjaaIntegerLaw
import Derived.Deep.DeepCutAuto
import Derived.Deep.QuietTactic
import Derived.BigQuiet
set_option linter.unusedVariables false
set_option linter.unusedSimpArgs false
namespace Go.Proofs.Ytdadbfehackfjaa
open Go.RowKit Go.Deep

theorem Boxed.lt {w : World} {b : Nat} {F : Fl} (h : Boxed w b F) : b < w.heap.size := World.block_lt_of_cell? w _ h.1

set_option maxHeartbeats 8000000 in
set_option maxRecDepth 100000 in
theorem fnIntegerIsRead_any (F : Fl) (ui k : Int) (sg up ot : Bool) (w : World) (h0 : -9223372036854775808 ≤ F.wid) (h1 : F.wid ≤ 9223372036854775807) (h2 : -9223372036854775808 ≤ F.prec) (h3 : F.prec ≤ 9223372036854775807) (hu0 : 0 ≤ ui) (hu1 : ui ≤ 18446744073709551615) (hk0 : -9223372036854775808 ≤ k) (hk1 : k ≤ 9223372036854775807) :
    Calls Try.prog 9 #[(.agg #[.int .i64 F.wid, .int .i64 F.prec, .bool F.hw, .bool F.hp, .bool F.mi, .bool F.pl, .bool F.sh, .bool F.sp, .bool F.ze]), .int .u64 ui, .int .i64 k, .bool sg, .bool up, .bool ot] w fun e w' => e = .returned (.bool true) ∧ Below w.heap.size w w' := by
  obtain ⟨u, rfl⟩ : ∃ u : Nat, ui = (u : Int) := ⟨ui.toNat, by omega⟩
  have hok := clean_ok F
  have cC := fun W => clean_any F W h0 h1 h2 h3
  obtain ⟨G, hG⟩ : ∃ G, F.clean = G := ⟨_, rfl⟩
  rw [hG] at hok cC
  clear hG h0 h1 h2 h3
  have cB := fun W => base_any k W hk0 hk1
  have hb := baseOf_or k
  obtain ⟨b, hbe⟩ : ∃ b, baseOf k = b := ⟨_, rfl⟩
  rw [hbe] at cB hb
  have hb2 : 2 ≤ b := by omega
  have cV := fun W => verb_any b hb up ot W
  have hv := vbOf_O b up ot
  have hvl := vbOf_le b up ot
  obtain ⟨vb, hvb⟩ : ∃ v, vbOf b up ot = v := ⟨_, rfl⟩
  rw [hvb] at cV hv hvl
  have hO : (decide (b = 8) && ot) = true → b = 8 := by intro h; simp at h; exact h.1
  obtain ⟨O, hOe⟩ : ∃ O, (decide (b = 8) && ot) = O := ⟨_, rfl⟩
  rw [hOe] at hv hO
  have cI := fun W => integer_any G hok u hu1 b hb sg vb hvl.1 hvl.2 O up hv hO W
  obtain ⟨hwide, hprec, hsize⟩ := out_wide G hok sg u b O up hu1 hO hb
  have hread := out_read G sg u b O up hb hO
  obtain ⟨s, hs⟩ : ∃ s, outOf G sg u b O up = s := ⟨_, rfl⟩
  rw [hs] at cI hwide hprec hsize
  simp only [hs] at hread
  have hml := magOf_le sg u hu1
  obtain ⟨m, hm⟩ : ∃ m, magOf sg u = m := ⟨_, rfl⟩
  obtain ⟨ng, hng⟩ : ∃ n, negOf sg u = n := ⟨_, rfl⟩
  rw [hm] at hml hprec
  simp only [hm, hng] at hread
  have hmz := magOf_zero sg u hu1
  rw [hm] at hmz
  have hsl : s.size ≤ 1099511627776 := by
    rw [← hs]
    unfold outOf
    have w1 := hok.whi
    split
    · rw [fill_size]; omega
    · have e1 := int_fits G hok (negOf sg u) b hb2 O up hO (magOf sg u) (magOf_le sg u hu1)
      have e2 := (roomOf_ge G hok).2
      have e3 : (intText G sg u b O up).size ≤ (ohOf O (sharpOf G.sh b up (numOf (precOf G (negOf sg u)) b up (magOf sg u)))).size + 1 := by
        unfold intText
        exact (signOf_ge G (negOf sg u) _).2
      have e4 := padOf_size { G with ze := false } (intText G sg u b O up) w1
      omega
  have cRn := fun W => runes_any s W hsize
  have cVal : ∀ W, ¬ (G.hp = true ∧ G.prec = 0 ∧ m = 0) → Calls Try.prog 29 #[.string s, .int .i64 b, .int .u8 vb] W fun e w' => e = .returned (.tuple #[.bool ng, .int .u64 m, .bool true]) ∧ W = w' := by
    intro W hn
    obtain ⟨a, c, X, Wt, T, r1, r2, r3, r4, r5, r6, r7, r8⟩ := hread hn
    exact value_any a c b m hb vb O hv s X Wt T ng r1 hsl r2 r3 r4 r5 r6 r7 r8 hml W
  obtain ⟨rc, hrc⟩ : ∃ rc, Lib.runeCount s = rc := ⟨_, rfl⟩
  rw [hrc] at hwide cRn
  have p0 := hok.plo
  have p1 := hok.phi
  have Hng := Lib.hid hng
  have Hm := Lib.hid hm
  have Hmz := Lib.hid hmz
  have Hwide := Lib.hid hwide
  have Hprec := Lib.hid hprec
  have HVal := Lib.hid cVal
  have HRn := Lib.hid cRn
  have hsz2 : (s.size : Int) ≤ 1099511627776 := by omega
  clear hbe hvb hOe hv hO hvl hk0 hk1 hread hs hm hng hmz hwide hprec hsize cVal cRn hrc hb
  go_enter Try.func9, Try.ntmps9
  go_wp2_with (go_at_call 11; refine (cC _).mono ?_; rintro e w1 ⟨rfl, hb1⟩; obtain ⟨hc1, hf1⟩ := bcell hb1)
  have hBx : Boxed (refilled w1 w.heap.size G) w.heap.size G := Boxed.refill (F := F) (Boxed.below (by unfold Boxed; simp) hb1) G
  have hBl : Below w.heap.size w (refilled w1 w.heap.size G) := below_refilled (Below.trans (by repeat (first | (with_reducible refine Below.drew ?_) | (with_reducible refine below_drewN ?_ _) | (with_reducible refine Below.alloc ?_ (by first | (simp; done) | (simp; omega)) _) | (with_reducible refine Below.setCell ?_ (by first | (simp; done) | (simp; omega)) _) | with_reducible exact Below.refl _ _)) (hb1.mono (by first | (simp; done) | (simp; omega)))) (Nat.le_refl _) G
  change Calls _ _ _ (refilled w1 w.heap.size G) _
  generalize refilled w1 w.heap.size G = W at *
  clear hb1 hc1 hf1
  refine (cB W).mono ?_
  rintro e w2 ⟨rfl, hb2⟩
  have hBx2 : Boxed w2 w.heap.size G := hBx.below hb2
  obtain ⟨y0, y1, y2, y3, y4, y5, y6, y7, y8⟩ := id hBx2
  have q2 : Below w.heap.size w w2 := (by first | exact (hBl).trans ((hb2).mono (hBl).size) | exact (hBl).drew.trans ((hb2).mono (hBl).size) | exact (below_drewN (hBl) _).trans ((hb2).mono (hBl).size))
  clear hBx hb2 cB cC hok
  go_upto_region 5 with (first | (go_at_call 25; refine (cV _).mono ?_; rintro e w' ⟨rfl, rfl⟩) | (go_at_call 27; refine (cI _).mono ?_; rintro e w4 ⟨rfl, hb4⟩; have q4 : Below w.heap.size w w4 := (by first | exact (q2).trans ((hb4).mono (q2).size) | exact (q2).drew.trans ((hb4).mono (q2).size) | exact (below_drewN (q2) _).trans ((hb4).mono (q2).size)); have hBx4 : Boxed w4 w.heap.size G := hBx2.below hb4))
  clear y0 y1 y2 y3 y4 y5 y6 y7 y8 hBx2 q2 hb4
  obtain ⟨y0, y1, y2, y3, y4, y5, y6, y7, y8⟩ := id hBx4
  have HBx4 := Lib.hid hBx4
  clear hBx4 y4 y5 y6 y7 y8
  go_cut [0, 43] from 20 to 43 (fun _ s43 wx => s43 = .bool false ∧ Hid (Boxed wx w.heap.size G) ∧ Hid (Below w.heap.size w wx))
  case first =>
    rcases hhw : G.hw with _ | _
    · rw [hhw] at y2
      clear hhw
      go_quiet (fail)
      go_wp2
      go_meet
      exact ⟨rfl, HBx4.out.drewN _, below_drewN q4 _⟩
    · rw [hhw] at y2
      have hrw := Hwide.out hhw
      have hrd : decide ((rc : Int) < G.wid) = false := decide_eq_false (by omega)
      clear hhw
      go_quiet ((go_at_call 28; exact quiet_left (HRn.out _)))
      go_wp2
      go_meet
      exact ⟨by simp, HBx4.out.drewN _, below_drewN q4 _⟩
  case rest =>
    obtain ⟨rfl, HBx5, q5⟩ := hcut
    clear y0 y1 y2 y3 q4 HBx4 Hwide HRn cV cI
    obtain ⟨y0, y1, y2, y3, y4, y5, y6, y7, y8⟩ := id HBx5.out
    clear y0 y2 y4 y5 y6 y7 y8
    obtain ⟨nz, hnz⟩ : ∃ z, (decide (u = 0) && G.hp && decide (G.prec = 0)) = z := ⟨_, rfl⟩
    have Hnz := Lib.hid hnz
    clear hnz
    go_upto_region 7 with (fail)
    go_cut [54] from 44 to 54 (fun s54 wx => s54 = .bool nz ∧ wc = wx)
    case first =>
      by_cases hu0 : u = 0
      · have hub : ((u : Int) == 0) = true := by rw [hu0]; rfl
        rcases hhp : G.hp with _ | _
        · rw [hhp] at y3
          have e : Hid (nz = false) := by show _ = _; rw [← Hnz.out, hhp]; simp
          clear hhp hu0
          go_wp2
          go_meet
          exact ⟨by rw [e.out], rfl⟩
        · rw [hhp] at y3
          by_cases hp0 : G.prec = 0
          · have hpb : (G.prec == 0) = true := by rw [hp0]; rfl
            have e : Hid (nz = true) := by show _ = _; rw [← Hnz.out, hhp, hu0, hp0]; rfl
            clear hhp hu0 hp0
            go_wp2
            go_meet
            exact ⟨by rw [e.out], rfl⟩
          · have hpb : (G.prec == 0) = false := by simpa using hp0
            have e : Hid (nz = false) := by show _ = _; rw [← Hnz.out]; simp [hp0]
            clear hhp hu0 hp0
            go_wp2
            go_meet
            exact ⟨by rw [e.out], rfl⟩
      · have hub : ((u : Int) == 0) = false := by simpa using hu0
        have e : Hid (nz = false) := by show _ = _; rw [← Hnz.out]; simp [hu0]
        clear hu0
        go_wp2
        go_meet
        exact ⟨by rw [e.out], rfl⟩
    case rest =>
      obtain ⟨rfl, rfl⟩ := hcut
      cases nz
      · have hn : ¬ (G.hp = true ∧ G.prec = 0 ∧ m = 0) := by
          rintro ⟨e1, e2, e3⟩
          have e4 := Hmz.out.1 e3
          have e5 := Hnz.out
          rw [e1, e2, e4] at e5
          exact absurd e5 (by decide)
        have hpl : Hid (G.hp = true → G.prec ≤ (s.size : Int)) := by
          show _ → _
          intro h
          exact Hprec.out h (fun ⟨e2, e3⟩ => hn ⟨h, e2, e3⟩)
        have cVal := fun W => HVal.out W hn
        clear hn HVal Hnz Hprec
        go_upto_region 10 with (fail)
        go_cut [61] from 55 to 61 (fun s61 wx => s61 = .bool ng ∧ wc = wx)
        case first =>
          clear cVal
          cases sg
          · have e : Hid (ng = false) := by show _ = _; rw [← Hng.out]; rfl
            go_wp2
            go_meet
            exact ⟨by rw [e.out], rfl⟩
          · by_cases hbig : 9223372036854775808 ≤ u
            · have e : Hid (ng = true) := by show _ = _; rw [← Hng.out]; simp [negOf, hbig]
              have hx : IntKind.i64.wrap (u : Int) = (u : Int) - 18446744073709551616 := by rw [IntKind.wrap_i64]; omega
              have hneg : (u : Int) - 18446744073709551616 < 0 := by omega
              go_wp2
              go_meet
              exact ⟨by rw [e.out], rfl⟩
            · have e : Hid (ng = false) := by show _ = _; rw [← Hng.out]; simp [negOf, hbig]
              have hx : IntKind.i64.wrap (u : Int) = (u : Int) := by rw [IntKind.wrap_i64]; omega
              have hneg : ¬ (u : Int) < 0 := by omega
              go_wp2
              go_meet
              exact ⟨by rw [e.out], rfl⟩
        case rest =>
          obtain ⟨rfl, rfl⟩ := hcut
          go_upto_if 61 with (fail)
          go_cut [16] from 61 to 63 (fun s16 wx => s16 = .int .u64 (m : Nat) ∧ wc = wx)
          case first =>
            clear cVal
            cases ng
            · have e : Hid (u = m) := by show _ = _; rw [← Hm.out]; unfold magOf; rw [Hng.out]; rfl
              go_wp2
              go_meet
              exact ⟨by rw [e.out], rfl⟩
            · have e : Hid (18446744073709551616 - u = m ∧ 9223372036854775808 ≤ u) := by
                refine ⟨?_, ?_⟩
                · rw [← Hm.out]; unfold magOf; rw [Hng.out]; rfl
                · have := Hng.out; simp [negOf] at this; exact this.2
              have hx : IntKind.u64.wrap (-(u : Int)) = (m : Int) := by
                have := e.out
                rw [IntKind.wrap_u64]; omega
              go_wp2
              go_meet
              exact ⟨rfl, rfl⟩
          case rest =>
            obtain ⟨rfl, rfl⟩ := hcut
            go_upto_region 13 with (go_at_call 29; refine (cVal _).mono ?_; rintro e w' ⟨rfl, rfl⟩)
            clear cVal
            have hcase : (sg = false ∧ ng = false) ∨ (sg = true ∧ ng = true ∧ 9223372036854775808 ≤ u) ∨ (sg = true ∧ ng = false ∧ u < 9223372036854775808) := by
              have e := Hng.out
              cases sg
              · exact .inl ⟨rfl, e.symm⟩
              · by_cases hbig : 9223372036854775808 ≤ u
                · exact .inr (.inl ⟨rfl, by rw [← e]; simp [negOf, hbig], hbig⟩)
                · exact .inr (.inr ⟨rfl, by rw [← e]; simp [negOf, hbig], by omega⟩)
            rcases hhp : G.hp with _ | _
            all_goals (
              rw [hhp] at y3
              have hps : G.hp = true → G.prec ≤ (s.size : Int) := hpl.out
              rw [hhp] at hps
              have Hps := Lib.hid hps
              clear hhp hps)
            · rcases hcase with ⟨rfl, rfl⟩ | ⟨rfl, rfl, hbig⟩ | ⟨rfl, rfl, hbig⟩
              · go_wp2
                go_ret
                exact ⟨rfl, q5.out⟩
              · have hx : IntKind.i64.wrap (u : Int) = (u : Int) - 18446744073709551616 := by rw [IntKind.wrap_i64]; omega
                have hneg : (u : Int) - 18446744073709551616 < 0 := by omega
                go_wp2
                go_ret
                exact ⟨rfl, q5.out⟩
              · have hx : IntKind.i64.wrap (u : Int) = (u : Int) := by rw [IntKind.wrap_i64]; omega
                have hneg : ¬ (u : Int) < 0 := by omega
                go_wp2
                go_ret
                exact ⟨rfl, q5.out⟩
            · have hple : G.prec ≤ (s.size : Int) := Hps.out rfl
              rcases hcase with ⟨rfl, rfl⟩ | ⟨rfl, rfl, hbig⟩ | ⟨rfl, rfl, hbig⟩
              · go_wp2
                go_ret
                exact ⟨rfl, q5.out⟩
              · have hx : IntKind.i64.wrap (u : Int) = (u : Int) - 18446744073709551616 := by rw [IntKind.wrap_i64]; omega
                have hneg : (u : Int) - 18446744073709551616 < 0 := by omega
                go_wp2
                go_ret
                exact ⟨rfl, q5.out⟩
              · have hx : IntKind.i64.wrap (u : Int) = (u : Int) := by rw [IntKind.wrap_i64]; omega
                have hneg : ¬ (u : Int) < 0 := by omega
                go_wp2
                go_ret
                exact ⟨rfl, q5.out⟩
      · go_wp2
        go_ret
        exact ⟨rfl, q5.out⟩

end Go.Proofs.Ytdadbfehackfjaa
