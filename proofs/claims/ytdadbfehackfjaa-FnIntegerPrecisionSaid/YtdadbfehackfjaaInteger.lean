/- The walk of (*fmt).fmtInteger (printed by gen_int.py), but for a precision of 0 and the number 0. Conditions: the base is 2, 8, 10 or 16, the verb O stands with base 8 alone, widths and precisions lie between 0 and 4095. -/
import Derived.Test.YtdadbfehackfjaaIntText
import Derived.Deep.DeepCutAuto
import Derived.Deep.CutBlock
import Derived.Deep.QuietTactic
import Derived.BigQuiet
import Derived.Outline
set_option linter.unusedVariables false
set_option linter.unusedSimpArgs false
namespace Go.Proofs.Ytdadbfehackfjaa
open Go.RowKit Go.Deep

theorem low_u64_2 (x : Int) (h0 : 0 ≤ x) (h1 : x ≤ 18446744073709551615) : bits .and .u64 x 1 = x % 2 := bits_mask .u64 64 (by decide) (fun n h0 h1 => by rw [IntKind.wrap_u64]; omega) 1 (by decide) x h0 (by omega)
theorem low_u64_8 (x : Int) (h0 : 0 ≤ x) (h1 : x ≤ 18446744073709551615) : bits .and .u64 x 7 = x % 8 := bits_mask .u64 64 (by decide) (fun n h0 h1 => by rw [IntKind.wrap_u64]; omega) 3 (by decide) x h0 (by omega)
theorem low_u64_16 (x : Int) (h0 : 0 ≤ x) (h1 : x ≤ 18446744073709551615) : bits .and .u64 x 15 = x % 16 := bits_mask .u64 64 (by decide) (fun n h0 h1 => by rw [IntKind.wrap_u64]; omega) 4 (by decide) x h0 (by omega)
theorem ten_wrap (x : Nat) (h : (x : Int) ≤ 18446744073709551615) : IntKind.u64.wrap (IntKind.u64.wrap (48 + (x : Int)) - (x : Int) / 10 * 10) = 48 + (x : Int) % 10 := by
  rw [IntKind.wrap_u64, IntKind.wrap_u64]; omega

set_option maxHeartbeats 8000000 in
set_option maxRecDepth 100000 in
theorem fmtInteger_main {w : World} {o f : Nat} {F : Fl} {I : List Value} (hI : I.length = 68) (hf : w.heap[f]? = some (.cells (fmCells o F I) 88 (0, 0))) (ho : w.heap[o]? = some (.cells #[.slice none 0 0] 71 (0, 0))) (hF : F.Ok) (u : Nat) (hu : (u : Int) ≤ 18446744073709551615) (b : Nat) (hb : b = 2 ∨ b = 8 ∨ b = 10 ∨ b = 16) (sg : Bool) (vb : Int) (O U : Bool) (hv : (vb == 79) = O) (hO : O = true → b = 8) (hnz : ¬ (F.hp = true ∧ F.prec = 0 ∧ magOf sg u = 0)) :
    Calls Try.prog 54 #[.pointer (some ⟨f, 0, none⟩), .int .u64 u, .int .i64 b, .bool sg, .int .i32 vb, .string (tab U)] w fun e w' => e = .returned (.tuple #[]) ∧ Wrote w w' o f F (padOf { F with ze := false } (intText F sg u b O U)) := by
  have hT := Tail.start (w := w) (o := o) (F := F) hI hf
  have c1 : w.cell? ⟨f, 1, none⟩ = some (.bool F.hw) := hT.fcell 1 (by decide)
  have c2 : w.cell? ⟨f, 2, none⟩ = some (.bool F.hp) := hT.fcell 2 (by decide)
  have c10 : w.cell? ⟨f, 10, none⟩ = some (.int .i64 F.wid) := hT.fcell 10 (by decide)
  have c11 : w.cell? ⟨f, 11, none⟩ = some (.int .i64 F.prec) := hT.fcell 11 (by decide)
  have w0 := hF.wlo
  have w1 := hF.whi
  have p0 := hF.plo
  have p1 := hF.phi
  have HT := Lib.hid hT
  have HO := Lib.hid ho
  have HF := Lib.hid hF
  have HOF := Lib.hid (of_ne hf ho)
  have hb0 : 2 ≤ b := by omega
  have hb1 : b ≤ 16 := by omega
  obtain ⟨ng, hng⟩ : ∃ ng, negOf sg u = ng := ⟨_, rfl⟩
  obtain ⟨m, hm⟩ : ∃ m, magOf sg u = m := ⟨_, rfl⟩
  obtain ⟨N, hN⟩ : ∃ N, roomOf F = N := ⟨_, rfl⟩
  obtain ⟨Pr, hPr⟩ : ∃ Pr, precOf F ng = Pr := ⟨_, rfl⟩
  have hml := magOf_le sg u hu
  have hN1 := (roomOf_ge F hF).1
  have hN2 := (roomOf_ge F hF).2
  have hfit := int_fits F hF ng b hb0 O U hO m (by rw [← hm]; exact hml)
  obtain ⟨R, hR⟩ : ∃ R, padOf { F with ze := false } (intText F sg u b O U) = R := ⟨_, rfl⟩
  have HR : Hid (padOf { F with ze := false } (signOf F ng (ohOf O (sharpOf F.sh b U (numOf Pr b U m)))) = R) := by
    show _ = _
    rw [← hR, intText, hng, hm, hPr]
  have hdl := digB_size b U hb0 m (by rw [← hm]; exact hml)
  rw [hR]
  rw [hm] at hml hnz
  have hrp := roomOf_prec F hF ng
  rw [hPr, hN] at hfit hrp
  rw [hN] at hN1 hN2
  have hD := table_tab U
  obtain ⟨D, hDe⟩ : ∃ D, tab U = D := ⟨_, rfl⟩
  rw [hDe] at hD
  rw [hDe]
  have hDN : D.size = 17 := hD.size
  have hD17 : (17 : Int) ≤ (D.size : Int) := by omega
  have hD17' : 17 ≤ D.size := by omega
  have HD := Lib.hid hD
  have Hng := Lib.hid hng
  have Hm := Lib.hid hm
  have HN := Lib.hid hN
  have HP := Lib.hid hPr
  have HV := Lib.hid hv
  have HFit := Lib.hid hfit
  have Hnz := Lib.hid hnz
  have Hdl := Lib.hid hdl
  have Hrp := Lib.hid hrp
  clear hI hf ho hF hT hng hm hN hPr hR hD hDe hv hO hfit hnz hdl hDN hrp
  go_enter Try.func54, Try.ntmps54
  go_upto_region 0 with (fail)
  go_cut [12] from 20 to 25 (fun s12 wx => s12 = .bool ng ∧ w = wx)
  case first =>
    cases sg
    · have e : Hid (ng = false) := by show _ = _; rw [← Hng.out]; rfl
      go_wp2
      go_meet
      exact ⟨by rw [e.out], rfl⟩
    · by_cases hbig : 9223372036854775808 ≤ u
      · have e : Hid (ng = true) := by show _ = _; rw [← Hng.out]; simp [negOf, hbig]
        have hx : IntKind.i64.wrap (u : Int) = (u : Int) - 18446744073709551616 := by rw [IntKind.wrap_i64]; omega
        have hneg : (u : Int) - 18446744073709551616 < 0 := by omega
        go_wp2
        go_meet
        exact ⟨by rw [e.out], rfl⟩
      · have e : Hid (ng = false) := by show _ = _; rw [← Hng.out]; simp [negOf, hbig]
        have hx : IntKind.i64.wrap (u : Int) = (u : Int) := by rw [IntKind.wrap_i64]; omega
        have hneg : ¬ (u : Int) < 0 := by omega
        go_wp2
        go_meet
        exact ⟨by rw [e.out], rfl⟩
  case rest =>
    obtain ⟨rfl, rfl⟩ := hcut
    go_upto_if 26 with (fail)
    go_cut [1] from 26 to 28 (fun s1 wx => s1 = .int .u64 (m : Nat) ∧ w = wx)
    case first =>
      cases ng
      · have e : Hid (u = m) := by show _ = _; rw [← Hm.out]; unfold magOf; rw [Hng.out]; rfl
        go_wp2
        go_meet
        exact ⟨by rw [e.out], rfl⟩
      · have e : Hid (18446744073709551616 - u = m ∧ 9223372036854775808 ≤ u) := by
          refine ⟨?_, ?_⟩
          · rw [← Hm.out]; unfold magOf; rw [Hng.out]; rfl
          · have := Hng.out; simp [negOf] at this; exact this.2
        have hx : IntKind.u64.wrap (-(u : Int)) = (m : Int) := by
          have := e.out
          rw [IntKind.wrap_u64]; omega
        go_wp2
        go_meet
        exact ⟨rfl, rfl⟩
    case rest =>
      obtain ⟨rfl, rfl⟩ := hcut
      go_upto_region 4 with (fail)
      go_cut [44] from 29 to 44 (fun s44 wx => s44 = .bool (F.hw || F.hp) ∧ w = wx)
      case first =>
        rcases hz : F.hw with _ | _
        · rw [hz] at c1
          rcases hy : F.hp with _ | _
          · rw [hy] at c2
            have Hz := Lib.hid hz
            have Hy := Lib.hid hy
            clear hz hy
            go_wp2
            go_meet
            exact ⟨by rw [Hz.out, Hy.out]; rfl, rfl⟩
          · rw [hy] at c2
            have Hz := Lib.hid hz
            have Hy := Lib.hid hy
            clear hz hy
            go_wp2
            go_meet
            exact ⟨by rw [Hz.out, Hy.out]; rfl, rfl⟩
        · rw [hz] at c1
          have Hz := Lib.hid hz
          clear hz
          go_wp2
          go_meet
          exact ⟨by rw [Hz.out]; rfl, rfl⟩
      case rest =>
        obtain ⟨rfl, rfl⟩ := hcut
        obtain ⟨cw, hcw⟩ : ∃ c, (F.hw || F.hp) = c := ⟨_, rfl⟩
        rw [hcw]
        have Hcw := Lib.hid hcw
        clear hcw
        go_upto_if 44 with (fail)
        go_cut [13, 14] from 44 to 60 (fun s13 _ wx => ∃ bb off C : Nat, s13 = .slice (some ⟨bb, off, none⟩) N C ∧ N ≤ C ∧ Hid (Tail w wx o f F bb off N N ⟨#[]⟩))
        case first =>
          cases cw
          · have e : Hid (68 = N) := by
              show _ = _
              rw [← HN.out]; unfold roomOf
              have := Hcw.out
              rw [Bool.or_eq_false_iff] at this
              rw [this.1, this.2]; simp
            go_wp2
            go_meet
            exact ⟨f, 12, 68, by rw [e.out], by rw [e.out]; exact Nat.le_refl _, by rw [← e.out]; exact HT.out⟩
          · by_cases hbig : 68 < F.wid + F.prec + 3
            · have hNe : 3 + F.wid + F.prec = (N : Int) := by
                rw [← HN.out]; unfold roomOf
                have := Hcw.out
                rw [Bool.or_eq_true] at this
                rw [if_pos ⟨this, hbig⟩]; omega
              have hmk : ∀ W, (Instr.makeSlice 32 (.int .i64 (3 + F.wid + F.prec)) (.int .i64 (3 + F.wid + F.prec))).run Try.prog W = .ok (.slice (some ⟨W.heap.size, 0, none⟩) N N) (W.alloc (.cells (madeCells #[.int .u8 0] N) 5)) := fun W => by
                rw [hNe]
                exact run_make_row' (P := Try.prog) 32 5 (.int .u8 0) 1 Try.underlying32 Try.info5 rfl .i64 .i64 N (by omega) (by omega) W
              have hbig2 : (68 : Int) < 3 + F.wid + F.prec := by omega
              have Hne := Lib.hid hNe
              clear hNe hbig
              go_upto_region 5 with (fail)
              go_quiet (fail)
              go_wp2
              go_meet
              exact ⟨_, 0, N, rfl, Nat.le_refl _, Tail.made (HT.out.drewN _) _ N (size_madeCells _ _)⟩
            · have e : Hid (68 = N) := by
                show _ = _
                rw [← HN.out]; unfold roomOf
                rw [if_neg (fun h => hbig h.2)]
              have hbig2 : ¬ (68 : Int) < 3 + F.wid + F.prec := by omega
              go_upto_region 5 with (fail)
              go_quiet (fail)
              go_wp2
              go_meet
              exact ⟨f, 12, 68, by rw [e.out], by rw [e.out]; exact Nat.le_refl _, by rw [← e.out]; exact HT.out.drewN _⟩
        case rest =>
          obtain ⟨bb, off, C, rfl, hNC, HT2⟩ := hcut
          clear c1 c2 c10 c11 HT
          have c1 : wc.cell? ⟨f, 1, none⟩ = some (.bool F.hw) := HT2.out.fcell 1 (by decide)
          have c2 : wc.cell? ⟨f, 2, none⟩ = some (.bool F.hp) := HT2.out.fcell 2 (by decide)
          have c3 : wc.cell? ⟨f, 3, none⟩ = some (.bool F.mi) := HT2.out.fcell 3 (by decide)
          have c4 : wc.cell? ⟨f, 4, none⟩ = some (.bool F.pl) := HT2.out.fcell 4 (by decide)
          have c6 : wc.cell? ⟨f, 6, none⟩ = some (.bool F.sp) := HT2.out.fcell 6 (by decide)
          have c7 : wc.cell? ⟨f, 7, none⟩ = some (.bool F.ze) := HT2.out.fcell 7 (by decide)
          have c10 : wc.cell? ⟨f, 10, none⟩ = some (.int .i64 F.wid) := HT2.out.fcell 10 (by decide)
          have c11 : wc.cell? ⟨f, 11, none⟩ = some (.int .i64 F.prec) := HT2.out.fcell 11 (by decide)
          go_upto_if 65 with (fail)
          go_cut [15] from 61 to 136 (fun s15 wx => s15 = .int .i64 Pr ∧ wc = wx)
          case first =>
            rcases hz : F.hp with _ | _
            · rw [hz] at c2
              have Hz := Lib.hid hz
              clear hz
              have ePr : Hid (Pr = if F.ze && !F.mi && F.hw then (if ng || F.pl || F.sp then F.wid - 1 else F.wid) else 0) := by
                show _ = _
                rw [← HP.out]; unfold precOf; rw [Hz.out]; rfl
              rcases hze : F.ze with _ | _
              · rw [hze] at c7
                have e : Hid (Pr = 0) := by show _ = _; rw [ePr.out, hze]; rfl
                clear hze
                go_wp2
                go_meet
                exact ⟨by rw [e.out], rfl⟩
              · rw [hze] at c7
                rcases hmi : F.mi with _ | _
                · rw [hmi] at c3
                  rcases hhw : F.hw with _ | _
                  · rw [hhw] at c1
                    have e : Hid (Pr = 0) := by show _ = _; rw [ePr.out, hze, hmi, hhw]; rfl
                    clear hze hmi hhw
                    go_wp2
                    go_meet
                    exact ⟨by rw [e.out], rfl⟩
                  · rw [hhw] at c1
                    have e : Hid (Pr = if ng || F.pl || F.sp then F.wid - 1 else F.wid) := by show _ = _; rw [ePr.out, hze, hmi, hhw]; rfl
                    clear hze hmi hhw
                    cases ng
                    · rcases hpl : F.pl with _ | _
                      · rw [hpl] at c4
                        rcases hsp : F.sp with _ | _
                        · rw [hsp] at c6
                          have e2 : Hid (Pr = F.wid) := by show _ = _; rw [e.out, hpl, hsp]; rfl
                          clear hpl hsp
                          go_wp2
                          go_meet
                          exact ⟨by rw [e2.out], rfl⟩
                        · rw [hsp] at c6
                          have e2 : Hid (Pr = F.wid - 1) := by show _ = _; rw [e.out, hpl, hsp]; rfl
                          clear hpl hsp
                          go_wp2
                          go_meet
                          exact ⟨by rw [e2.out], rfl⟩
                      · rw [hpl] at c4
                        have e2 : Hid (Pr = F.wid - 1) := by show _ = _; rw [e.out, hpl]; rfl
                        clear hpl
                        go_wp2
                        go_meet
                        exact ⟨by rw [e2.out], rfl⟩
                    · have e2 : Hid (Pr = F.wid - 1) := by show _ = _; rw [e.out]; rfl
                      go_wp2
                      go_meet
                      exact ⟨by rw [e2.out], rfl⟩
                · rw [hmi] at c3
                  have e : Hid (Pr = 0) := by show _ = _; rw [ePr.out, hze, hmi]; rfl
                  clear hze hmi
                  go_wp2
                  go_meet
                  exact ⟨by rw [e.out], rfl⟩
            · rw [hz] at c2
              have Hz := Lib.hid hz
              clear hz
              have e : Hid (Pr = F.prec) := by
                show _ = _
                rw [← HP.out]; unfold precOf; rw [Hz.out]; rfl
              by_cases hp0 : F.prec = 0
              · have hm0 : ¬ m = 0 := fun h => Hnz.out ⟨Hz.out, hp0, h⟩
                have t1 : (F.prec == 0) = true := by rw [hp0]; rfl
                have t2 : ((m : Int) == 0) = false := by simpa using hm0
                clear hp0 hm0
                go_wp2
                go_meet
                exact ⟨by rw [e.out], rfl⟩
              · have t1 : (F.prec == 0) = false := by simpa using hp0
                clear hp0
                go_wp2
                go_meet
                exact ⟨by rw [e.out], rfl⟩
          case rest =>
            obtain ⟨rfl, rfl⟩ := hcut
            clear c1 c2 c3 c4 c6 c7 c10 c11 Hnz
            go_upto_block 0 with (fail)
            go_cut [1, 17, 18] from 137 to 203 (fun s1 s17 _ wx => ∃ (m' p : Nat) (T : ByteArray), s1 = .int .u64 m' ∧ s17 = .int .i64 (p + 1 : Nat) ∧ m' < b ∧ Hid (Tail w wx o f F bb off N (p + 1) T) ∧ Hid (one (hexd U m') ++ T = digB b U m))
            case first =>
              rcases hb with rfl | rfl | rfl | rfl
              · go_wp2
                trace "base 2"
                go_loopw [1, 17] (fun v1 v17 wr => ∃ (m' p : Nat) (T : ByteArray), v1 = .int .u64 m' ∧ v17 = .int .i64 p ∧ (m' : Int) ≤ 18446744073709551615 ∧ Hid (Tail w wr o f F bb off N p T) ∧ Hid (digB 2 U m' ++ T = digB 2 U m)) (fun v1 _ _ => (intOf v1).toNat)
                case atStart => exact ⟨m, N, ⟨#[]⟩, rfl, rfl, hml, HT2, by show _ = _; exact app_nil _⟩
                case round =>
                  obtain ⟨m', p, T, rfl, rfl, hml', HTr, HTd⟩ := hrel
                  have hp1 : 1 ≤ p := by
                    have h1 := HTr.out.pos
                    have h2 := Hdl.out
                    have h3 := digB_pos 2 U (by omega) m'
                    rw [← HTd.out, size_app] at h2
                    omega
                  obtain ⟨q, rfl⟩ : ∃ q, p = q + 1 := ⟨p - 1, by omega⟩
                  have hqN : q + 1 ≤ N := by have := HTr.out.pos; omega
                  by_cases hlt : 2 ≤ m'
                  · have hltz : (2 : Int) ≤ (m' : Int) := by omega
                    obtain ⟨⟨uq, k1⟩, k2⟩ := HTr.out.bcell q (by omega)
                    have hpush := Lib.hid (HTr.out.push (hexd U (m' % 2)))
                    have hdig := Lib.hid (digB_step 2 U m' (by omega) (by omega))

                    have hch : (hexd U (m' % 2)).toNat = 48 + m' % 2 := by
                      have : m' % 2 < 2 := Nat.mod_lt _ (by omega)
                      unfold hexd
                      rw [if_pos (by omega), UInt8.toNat_ofNat']
                      omega
                    have hcz : ((hexd U (m' % 2)).toNat : Int) = 48 + (m' : Int) % 2 := by omega

                    rw [hcz] at hpush
                    clear hch hcz

                    have b1 : bits .and .u64 (m' : Int) 1 = (m' : Int) % 2 := low_u64_2 m' (by omega) hml'

                    have HTs := hpush
                    clear hpush
                    have Hq := Lib.hid (Int.natCast_ediv m' 2)
                    go_wp2
                    go_roundw
                    case rel => exact ⟨m' / 2, q, _, by go_num, by go_num, by omega, HTs, by show _ = _; rw [← app_assoc, ← hdig.out]; exact HTd.out⟩
                    case measure => simp [intOf]; omega
                  · have hltz : ¬ (2 : Int) ≤ (m' : Int) := by omega
                    go_wp2
                    go_meet
                    exact ⟨m', q, T, rfl, by go_num, by omega, HTr, by show _ = _; rw [← HTd.out, digB_small 2 U m' (by omega)]⟩
              · go_wp2
                trace "base 8"
                go_loopw [1, 17] (fun v1 v17 wr => ∃ (m' p : Nat) (T : ByteArray), v1 = .int .u64 m' ∧ v17 = .int .i64 p ∧ (m' : Int) ≤ 18446744073709551615 ∧ Hid (Tail w wr o f F bb off N p T) ∧ Hid (digB 8 U m' ++ T = digB 8 U m)) (fun v1 _ _ => (intOf v1).toNat)
                case atStart => exact ⟨m, N, ⟨#[]⟩, rfl, rfl, hml, HT2, by show _ = _; exact app_nil _⟩
                case round =>
                  obtain ⟨m', p, T, rfl, rfl, hml', HTr, HTd⟩ := hrel
                  have hp1 : 1 ≤ p := by
                    have h1 := HTr.out.pos
                    have h2 := Hdl.out
                    have h3 := digB_pos 8 U (by omega) m'
                    rw [← HTd.out, size_app] at h2
                    omega
                  obtain ⟨q, rfl⟩ : ∃ q, p = q + 1 := ⟨p - 1, by omega⟩
                  have hqN : q + 1 ≤ N := by have := HTr.out.pos; omega
                  by_cases hlt : 8 ≤ m'
                  · have hltz : (8 : Int) ≤ (m' : Int) := by omega
                    obtain ⟨⟨uq, k1⟩, k2⟩ := HTr.out.bcell q (by omega)
                    have hpush := Lib.hid (HTr.out.push (hexd U (m' % 8)))
                    have hdig := Lib.hid (digB_step 8 U m' (by omega) (by omega))

                    have hch : (hexd U (m' % 8)).toNat = 48 + m' % 8 := by
                      have : m' % 8 < 8 := Nat.mod_lt _ (by omega)
                      unfold hexd
                      rw [if_pos (by omega), UInt8.toNat_ofNat']
                      omega
                    have hcz : ((hexd U (m' % 8)).toNat : Int) = 48 + (m' : Int) % 8 := by omega

                    rw [hcz] at hpush
                    clear hch hcz

                    have b1 : bits .and .u64 (m' : Int) 7 = (m' : Int) % 8 := low_u64_8 m' (by omega) hml'

                    have HTs := hpush
                    clear hpush
                    have Hq := Lib.hid (Int.natCast_ediv m' 8)
                    go_wp2
                    go_roundw
                    case rel => exact ⟨m' / 8, q, _, by go_num, by go_num, by omega, HTs, by show _ = _; rw [← app_assoc, ← hdig.out]; exact HTd.out⟩
                    case measure => simp [intOf]; omega
                  · have hltz : ¬ (8 : Int) ≤ (m' : Int) := by omega
                    go_wp2
                    go_meet
                    exact ⟨m', q, T, rfl, by go_num, by omega, HTr, by show _ = _; rw [← HTd.out, digB_small 8 U m' (by omega)]⟩
              · go_wp2
                trace "base 10"
                go_loopw [1, 17, 18] (fun v1 v17 _ wr => ∃ (m' p : Nat) (T : ByteArray), v1 = .int .u64 m' ∧ v17 = .int .i64 p ∧ (m' : Int) ≤ 18446744073709551615 ∧ Hid (Tail w wr o f F bb off N p T) ∧ Hid (digB 10 U m' ++ T = digB 10 U m)) (fun v1 _ _ _ => (intOf v1).toNat)
                case atStart => exact ⟨m, N, ⟨#[]⟩, rfl, rfl, hml, HT2, by show _ = _; exact app_nil _⟩
                case round =>
                  obtain ⟨m', p, T, rfl, rfl, hml', HTr, HTd⟩ := hrel
                  have hp1 : 1 ≤ p := by
                    have h1 := HTr.out.pos
                    have h2 := Hdl.out
                    have h3 := digB_pos 10 U (by omega) m'
                    rw [← HTd.out, size_app] at h2
                    omega
                  obtain ⟨q, rfl⟩ : ∃ q, p = q + 1 := ⟨p - 1, by omega⟩
                  have hqN : q + 1 ≤ N := by have := HTr.out.pos; omega
                  by_cases hlt : 10 ≤ m'
                  · have hltz : (10 : Int) ≤ (m' : Int) := by omega
                    obtain ⟨⟨uq, k1⟩, k2⟩ := HTr.out.bcell q (by omega)
                    have hpush := Lib.hid (HTr.out.push (hexd U (m' % 10)))
                    have hdig := Lib.hid (digB_step 10 U m' (by omega) (by omega))

                    have hch : (hexd U (m' % 10)).toNat = 48 + m' % 10 := by
                      have : m' % 10 < 10 := Nat.mod_lt _ (by omega)
                      unfold hexd
                      rw [if_pos this, UInt8.toNat_ofNat']
                      omega
                    have hcz : ((hexd U (m' % 10)).toNat : Int) = 48 + (m' : Int) % 10 := by omega

                    rw [hcz] at hpush
                    clear hch hcz

                    have hov := ten_wrap m' hml'
                    trace "ten"

                    have HTs := hpush
                    clear hpush
                    have Hq := Lib.hid (Int.natCast_ediv m' 10)
                    go_wp2
                    go_roundw
                    case rel => exact ⟨m' / 10, q, _, by go_num, by go_num, by omega, HTs, by show _ = _; rw [← app_assoc, ← hdig.out]; exact HTd.out⟩
                    case measure => simp [intOf]; omega
                  · have hltz : ¬ (10 : Int) ≤ (m' : Int) := by omega
                    go_wp2
                    go_meet
                    exact ⟨m', q, T, rfl, by go_num, by omega, HTr, by show _ = _; rw [← HTd.out, digB_small 10 U m' (by omega)]⟩
              · go_wp2
                trace "base 16"
                go_loopw [1, 17] (fun v1 v17 wr => ∃ (m' p : Nat) (T : ByteArray), v1 = .int .u64 m' ∧ v17 = .int .i64 p ∧ (m' : Int) ≤ 18446744073709551615 ∧ Hid (Tail w wr o f F bb off N p T) ∧ Hid (digB 16 U m' ++ T = digB 16 U m)) (fun v1 _ _ => (intOf v1).toNat)
                case atStart => exact ⟨m, N, ⟨#[]⟩, rfl, rfl, hml, HT2, by show _ = _; exact app_nil _⟩
                case round =>
                  obtain ⟨m', p, T, rfl, rfl, hml', HTr, HTd⟩ := hrel
                  have hp1 : 1 ≤ p := by
                    have h1 := HTr.out.pos
                    have h2 := Hdl.out
                    have h3 := digB_pos 16 U (by omega) m'
                    rw [← HTd.out, size_app] at h2
                    omega
                  obtain ⟨q, rfl⟩ : ∃ q, p = q + 1 := ⟨p - 1, by omega⟩
                  have hqN : q + 1 ≤ N := by have := HTr.out.pos; omega
                  by_cases hlt : 16 ≤ m'
                  · have hltz : (16 : Int) ≤ (m' : Int) := by omega
                    obtain ⟨⟨uq, k1⟩, k2⟩ := HTr.out.bcell q (by omega)
                    have hpush := Lib.hid (HTr.out.push (hexd U (m' % 16)))
                    have hdig := Lib.hid (digB_step 16 U m' (by omega) (by omega))

                    have b1 : bits .and .u64 (m' : Int) 15 = (m' : Int) % 16 := low_u64_16 m' (by omega) hml'

                    have hx : m' % 16 < D.size := by omega
                    have hxz : (m' : Int) % 16 < (D.size : Int) := by omega
                    have hch : (D[m' % 16]'hx).toNat = (hexd U (m' % 16)).toNat := by
                      rw [← get_of_lt D _ hx, HD.out.dig _ (by omega)]
                    have Hch := Lib.hid hch
                    clear hch

                    have HTs := hpush
                    clear hpush
                    have Hq := Lib.hid (Int.natCast_ediv m' 16)
                    go_wp2
                    go_roundw
                    case rel => refine ⟨_, _, _, _, _, _, _, _, _, _, _, _, _, _, _, ?_, rfl⟩; exact ⟨m' / 16, q, _, by go_num, by go_num, by omega, Hch.out.symm ▸ HTs, by show _ = _; rw [← app_assoc, ← hdig.out]; exact HTd.out⟩
                    case measure => simp [intOf]; omega
                  · have hltz : ¬ (16 : Int) ≤ (m' : Int) := by omega
                    go_wp2
                    go_meet
                    exact ⟨m', q, T, rfl, by go_num, by omega, HTr, by show _ = _; rw [← HTd.out, digB_small 16 U m' (by omega)]⟩
            case rest =>
              obtain ⟨m', p, T, rfl, rfl, hmb, HT3, Hdg⟩ := hcut
              have hpN : p + 1 ≤ N := by have := HT3.out.pos; omega
              have hx : m' < D.size := by omega
              have hxz : (m' : Int) < (D.size : Int) := by omega
              have hch : (D[m']'hx).toNat = (hexd U m').toNat := by
                rw [← get_of_lt D _ hx, HD.out.dig _ (by omega)]
              obtain ⟨⟨uq, k1⟩, k2⟩ := HT3.out.bcell p (by omega)
              have HT4 : Hid (Tail w (wc.setCell ⟨bb, off + p, none⟩ (.int .u8 ((D[m']'hx).toNat : Int))) o f F bb off N p (digB b U m)) := by
                show Tail _ _ _ _ _ _ _ _ _ _
                have := HT3.out.push (hexd U m')
                rw [Hdg.out, ← hch] at this
                exact this
              clear hch
              go_upto_block 9 with (fail)
              clear k1 k2
              generalize wc.setCell ⟨bb, off + p, none⟩ (.int .u8 ((D[m']'hx).toNat : Int)) = W at *
              obtain ⟨DG, hDG⟩ : ∃ DG, digB b U m = DG := ⟨_, rfl⟩
              have hNum : Hid (fill 48 (Pr.toNat - DG.size) ++ DG = numOf Pr b U m) := by
                show _ = _
                rw [← hDG]; rfl
              rw [hDG] at HT4 Hdl
              clear hDG Hdg
              go_cut [17] from 204 to 226 (fun s17 wx => ∃ p : Nat, s17 = .int .i64 p ∧ Hid (Tail w wx o f F bb off N p (numOf Pr b U m)))
              case first =>
                have hdl := Hdl.out
                have hrp := Hrp.out
                go_wp2
                go_loopw [17] (fun v17 wr => ∃ p k : Nat, v17 = .int .i64 p ∧ Hid (Tail w wr o f F bb off N p (fill 48 k ++ DG)) ∧ p + (k + DG.size) = N ∧ (k = 0 ∨ (DG.size : Int) + (k : Int) ≤ Pr)) (fun v17 _ => (intOf v17).toNat)
                case atStart => exact ⟨p, 0, by go_num, by rw [fill_zero, nil_app]; exact HT4, by have := HT4.out.pos; omega, .inl rfl⟩
                case round =>
                  obtain ⟨p, k, rfl, HTr, hpk, hk⟩ := hrel
                  obtain ⟨q, rfl⟩ : ∃ q, p = q + 1 := ⟨p - 1, by omega⟩
                  have hqN : q + 1 ≤ N := by omega
                  obtain ⟨⟨uq, k1⟩, k2⟩ := HTr.out.bcell q (by omega)
                  have hpush := Lib.hid (HTr.out.push 48)
                  by_cases hlt : (N : Int) - ((q : Int) + 1) < Pr
                  · have HK : Hid (k + 1 = 0 ∨ (DG.size : Int) + ((k + 1 : Nat) : Int) ≤ Pr) := by show _ ∨ _; omega
                    have HPK : Hid (q + (k + 1 + DG.size) = N) := by show _ = _; omega
                    clear hpk hk
                    go_wp2
                    go_roundw
                    case rel => exact ⟨q, k + 1, by go_num, by rw [fill_succ, app_assoc]; exact hpush, HPK.out, HK.out⟩
                    case measure => simp [intOf]
                  · have hkk : Hid (k = Pr.toNat - DG.size) := by show _ = _; omega
                    clear hpk hk
                    go_wp2
                    go_meet
                    exact ⟨q + 1, by go_num, by rw [← hNum.out, ← hkk.out]; exact HTr⟩
              case rest =>
                obtain ⟨p, rfl, HT5⟩ := hcut
                clear HT4 HT3 HT2 hpN
                obtain ⟨T2, hT2⟩ : ∃ T2, numOf Pr b U m = T2 := ⟨_, rfl⟩
                have hsz2 : 1 ≤ T2.size := by
                  have h1 := digB_pos b U hb0 m
                  rw [← hT2, numOf_size]; omega
                rw [hT2] at HT5 HR HFit
                clear hT2 hNum Hdl
                have c5 : wc.cell? ⟨f, 5, none⟩ = some (.bool F.sh) := HT5.out.fcell 5 (by decide)
                have hpp := HT5.out.pos
                have hf1 : (sharpOf F.sh b U T2).size + 1 ≤ N := by
                  have h1 := HFit.out
                  have h2 := ohOf_size O (sharpOf F.sh b U T2)
                  omega
                have Hf1 := Lib.hid hf1
                clear hf1
                go_upto_if 231 with (fail)
                go_cut [17] from 227 to 270 (fun s17 wx => ∃ p : Nat, s17 = .int .i64 p ∧ Hid (Tail w wx o f F bb off N p (sharpOf F.sh b U T2)))
                case first =>
                  have hf1 := Hf1.out
                  have Hpp := Lib.hid hpp
                  clear hpp
                  rcases hz : F.sh with _ | _
                  · rw [hz] at c5
                    have e : Hid (sharpOf false b U T2 = T2) := rfl
                    have Hz := Lib.hid hz
                    clear hz hf1
                    go_wp2
                    go_meet
                    exact ⟨p, rfl, by rw [Hz.out, e.out]; exact HT5⟩
                  · rw [hz] at c5 hf1
                    have Hz := Lib.hid hz
                    clear hz
                    rcases hb with rfl | rfl | rfl | rfl
                    · have e : Hid (sharpOf true 2 U T2 = one 48 ++ (one 98 ++ T2)) := by show _ = _; rfl
                      rw [e.out, size_app, size_app, one_size, one_size] at hf1
                      obtain ⟨q, rfl⟩ : ∃ q, p = q + 1 + 1 := ⟨p - 2, by have := Hpp.out; omega⟩
                      have hqN : q + 2 ≤ N := by have := Hpp.out; omega
                      obtain ⟨⟨u1, k1⟩, k2⟩ := HT5.out.bcell (q + 1) (by omega)
                      obtain ⟨⟨u2, k3⟩, k4⟩ := HT5.out.bcell q (by omega)
                      have hpush := Lib.hid ((HT5.out.push 98).push 48)
                      clear hf1
                      go_wp2
                      go_meet
                      exact ⟨q, by go_num, by rw [Hz.out, e.out]; exact hpush⟩
                    · by_cases h48 : T2.get! 0 = 48
                      · have e : Hid (sharpOf true 8 U T2 = T2) := by
                          show _ = _
                          unfold sharpOf
                          rw [if_pos rfl, if_neg (by decide), if_pos rfl, if_pos h48]
                        have hc : wc.cell? ⟨bb, off + p, none⟩ = some (.int .u8 48) := by
                          have := HT5.out.txt 0 (by omega)
                          rw [Nat.add_zero, h48] at this
                          exact this
                        have hpN : p < N := by have := Hpp.out; omega
                        clear hf1 h48
                        go_wp2
                        go_meet
                        exact ⟨p, by go_num, by rw [Hz.out, e.out]; exact HT5⟩
                      · have e : Hid (sharpOf true 8 U T2 = one 48 ++ T2) := by
                          show _ = _
                          unfold sharpOf
                          rw [if_pos rfl, if_neg (by decide), if_pos rfl, if_neg h48]
                        rw [e.out, size_app, one_size] at hf1
                        obtain ⟨c, hcT⟩ : ∃ c, T2.get! 0 = c := ⟨_, rfl⟩
                        rw [hcT] at h48
                        have hc : wc.cell? ⟨bb, off + p, none⟩ = some (.int .u8 (c.toNat : Int)) := by
                          have := HT5.out.txt 0 (by omega)
                          rw [Nat.add_zero, hcT] at this
                          exact this
                        have hcn : ¬ (c.toNat : Int) = 48 := by
                          intro h
                          exact h48 (UInt8.toNat_inj.1 (by show c.toNat = 48; omega))
                        have hcb : ((c.toNat : Int) == 48) = false := by simpa using hcn
                        obtain ⟨q, rfl⟩ : ∃ q, p = q + 1 := ⟨p - 1, by have := Hpp.out; omega⟩
                        have hqN : q + 1 < N := by have := Hpp.out; omega
                        obtain ⟨⟨u2, k3⟩, k4⟩ := HT5.out.bcell q (by omega)
                        have hpush := Lib.hid (HT5.out.push 48)
                        clear hf1 h48 hcT hcn
                        go_wp2
                        go_meet
                        exact ⟨q, by go_num, by rw [Hz.out, e.out]; exact hpush⟩
                    · have e : Hid (sharpOf true 10 U T2 = T2) := by show _ = _; rfl
                      clear hf1
                      go_wp2
                      go_meet
                      exact ⟨p, by go_num, by rw [Hz.out, e.out]; exact HT5⟩
                    · have e : Hid (sharpOf true 16 U T2 = one 48 ++ (one (if U then 88 else 120) ++ T2)) := by show _ = _; rfl
                      rw [e.out, size_app, size_app, one_size, one_size] at hf1
                      have hx16 : 16 < D.size := by omega
                      have h16 : (D[16]'hx16) = (if U then 88 else 120) := by
                        have h1 := HD.out.pre
                        rw [get_of_lt D 16 hx16] at h1
                        have h2 : (preH U).get! 1 = D[16] := by rw [h1]; rfl
                        rw [← h2]
                        cases U <;> rfl
                      obtain ⟨q, rfl⟩ : ∃ q, p = q + 1 + 1 := ⟨p - 2, by have := Hpp.out; omega⟩
                      have hqN : q + 2 ≤ N := by have := Hpp.out; omega
                      obtain ⟨⟨u1, k1⟩, k2⟩ := HT5.out.bcell (q + 1) (by omega)
                      obtain ⟨⟨u2, k3⟩, k4⟩ := HT5.out.bcell q (by omega)
                      have hpush := Lib.hid ((HT5.out.push (D[16]'hx16)).push 48)
                      have H16 := Lib.hid h16
                      have hz16 : (16 : Int) < (D.size : Int) := by omega
                      clear hf1 h16
                      go_wp2
                      go_meet
                      exact ⟨q, by go_num, by rw [Hz.out, e.out, ← H16.out]; exact hpush⟩
                case rest =>
                  obtain ⟨p, rfl, HT6⟩ := hcut
                  clear HT5 c5 hpp
                  obtain ⟨T3, hT3⟩ : ∃ T3, sharpOf F.sh b U T2 = T3 := ⟨_, rfl⟩
                  have hsz3 : 1 ≤ T3.size := by rw [← hT3]; have := sharpOf_ge F.sh b U T2; omega
                  rw [hT3] at HT6 HR HFit Hf1
                  clear hT3
                  have hv := HV.out
                  have hpp := HT6.out.pos
                  have hf2 := HFit.out
                  go_upto_if 272 with (fail)
                  clear hv
                  go_cut [17] from 271 to 282 (fun s17 wx => ∃ p : Nat, s17 = .int .i64 p ∧ Hid (Tail w wx o f F bb off N p (ohOf O T3)))
                  case first =>
                    cases O
                    · clear hpp hf2
                      go_wp2
                      go_meet
                      exact ⟨p, rfl, HT6⟩
                    · have hs := ohOf_size true T3
                      rw [hs] at hf2
                      simp only [if_true] at hf2
                      obtain ⟨q, rfl⟩ : ∃ q, p = q + 1 + 1 := ⟨p - 2, by omega⟩
                      have hqN : q + 2 ≤ N := by omega
                      obtain ⟨⟨u1, k1⟩, k2⟩ := HT6.out.bcell (q + 1) (by omega)
                      obtain ⟨⟨u2, k3⟩, k4⟩ := HT6.out.bcell q (by omega)
                      have hpush := Lib.hid ((HT6.out.push 111).push 48)
                      clear hf2 hs hpp
                      go_wp2
                      go_meet
                      exact ⟨q, by go_num, hpush⟩
                  case rest =>
                    obtain ⟨p, rfl, HT7⟩ := hcut
                    clear HT6 hpp hf2
                    obtain ⟨T4, hT4⟩ : ∃ T4, ohOf O T3 = T4 := ⟨_, rfl⟩
                    have hT4s : 1 ≤ T4.size := by rw [← hT4]; have := ohOf_size O T3; omega
                    rw [hT4] at HT7 HR HFit
                    clear hT4
                    have hpp := HT7.out.pos
                    have hf2 := HFit.out
                    obtain ⟨q, rfl⟩ : ∃ q, p = q + 1 := ⟨p - 1, by omega⟩
                    have hqN : q + 1 ≤ N := by omega
                    clear hf2 hpp
                    have c4 : wc.cell? ⟨f, 4, none⟩ = some (.bool F.pl) := HT7.out.fcell 4 (by decide)
                    have c6 : wc.cell? ⟨f, 6, none⟩ = some (.bool F.sp) := HT7.out.fcell 6 (by decide)
                    go_upto_if 283 with (fail)
                    go_cut [17] from 283 to 308 (fun s17 wx => ∃ p : Nat, s17 = .int .i64 p ∧ Hid (Tail w wx o f F bb off N p (signOf F ng T4)))
                    case first =>
                      obtain ⟨⟨u2, k3⟩, k4⟩ := HT7.out.bcell q (by omega)
                      cases ng
                      · rcases hpl : F.pl with _ | _
                        · rw [hpl] at c4
                          rcases hsp : F.sp with _ | _
                          · rw [hsp] at c6
                            have e : Hid (signOf F false T4 = T4) := by show _ = _; unfold signOf; rw [hpl, hsp]; rfl
                            clear hpl hsp
                            go_wp2
                            go_meet
                            exact ⟨q + 1, rfl, by rw [e.out]; exact HT7⟩
                          · rw [hsp] at c6
                            have e : Hid (signOf F false T4 = one 32 ++ T4) := by show _ = _; unfold signOf; rw [hpl, hsp]; rfl
                            have hpush := Lib.hid (HT7.out.push 32)
                            clear hpl hsp
                            go_wp2
                            go_meet
                            exact ⟨q, by go_num, by rw [e.out]; exact hpush⟩
                        · rw [hpl] at c4
                          have e : Hid (signOf F false T4 = one 43 ++ T4) := by show _ = _; unfold signOf; rw [hpl]; rfl
                          have hpush := Lib.hid (HT7.out.push 43)
                          clear hpl
                          go_wp2
                          go_meet
                          exact ⟨q, by go_num, by rw [e.out]; exact hpush⟩
                      · have e : Hid (signOf F true T4 = one 45 ++ T4) := rfl
                        have hpush := Lib.hid (HT7.out.push 45)
                        go_wp2
                        go_meet
                        exact ⟨q, by go_num, by rw [e.out]; exact hpush⟩
                    case rest =>
                      obtain ⟨p, rfl, HT8⟩ := hcut
                      obtain ⟨T5, hT5⟩ : ∃ T5, signOf F ng T4 = T5 := ⟨_, rfl⟩
                      have hT5s : 1 ≤ T5.size := by rw [← hT5]; have := signOf_ge F ng T4; omega
                      rw [hT5] at HT8 HR
                      clear hT5 c4 c6
                      have hpp := HT8.out.pos
                      have c7 : wc.cell? ⟨f, 7, none⟩ = some (.bool F.ze) := HT8.out.fcell 7 (by decide)
                      have k7 := HT8.out.ffree 7
                      have HT9 := Lib.hid (HT8.out.setze false)
                      have hpN : p < N := by omega
                      have hpC : p < C := by omega
                      have HNp : Hid (N - p = T5.size) := by show _ = _; omega
                      have hT5l : T5.size ≤ 274877906944 := by omega
                      have hT5C : T5.size ≤ C - p := by omega
                      clear hpp
                      go_upto_region 81 with (fail)
                      clear c7 k7
                      generalize wc.setCell ⟨f, 7, none⟩ (.bool false) = W at *
                      have HPad : Hid (Calls Try.prog 49 #[.pointer (some ⟨f, 0, none⟩), .slice (some ⟨bb, off + p, none⟩) (N - p) (C - p)] W fun e w' => e = .returned (.tuple #[]) ∧ Hid (Wrote w (w'.setCell ⟨f, 7, none⟩ (.bool F.ze)) o f F R) ∧ w'.cell? ⟨f, 7, none⟩ = some (.bool false) ∧ w'.frozen? ⟨f, 7, none⟩ = false) := by
                        show Calls _ _ _ _ _
                        obtain ⟨I2, hI2, hS, hsrc⟩ := HT9.out.src HO.out HOF.out
                        rw [HNp.out]
                        have hF0 : Fl.Ok { F with ze := false } := ⟨w0, w1, p0, p1⟩
                        refine (pad_any hS hF0 T5 _ (C - p) hsrc hT5C (Nat.zero_le _) hT5l).mono ?_
                        rintro e w2 ⟨rfl, hS2⟩
                        rw [nil_app, HR.out] at hS2
                        refine ⟨rfl, ?_, hS2.fcell 7, hS2.ffree 7⟩
                        have hS3 := hS2.setze F.ze
                        exact ⟨HT9.out.near.weak.trans (hS3.bel.mono HT9.out.near.size), W, I2, HT9.out.near.size, hS3⟩
                      go_wp2_with (go_at_call 49; refine HPad.out.mono ?_; rintro e w2 ⟨rfl, hW, k1, k2⟩)
                      go_end0
                      exact ⟨rfl, hW.out⟩

set_option maxHeartbeats 8000000 in
set_option maxRecDepth 100000 in
theorem fmtInteger_none {w : World} {o f : Nat} {F : Fl} {I : List Value} (hI : I.length = 68) (hf : w.heap[f]? = some (.cells (fmCells o F I) 88 (0, 0))) (ho : w.heap[o]? = some (.cells #[.slice none 0 0] 71 (0, 0))) (hF : F.Ok) (u : Nat) (hu : (u : Int) ≤ 18446744073709551615) (b : Nat) (hb : b = 2 ∨ b = 8 ∨ b = 10 ∨ b = 16) (sg : Bool) (vb : Int) (O U : Bool) (hv : (vb == 79) = O) (hO : O = true → b = 8) (hnz : F.hp = true ∧ F.prec = 0 ∧ magOf sg u = 0) :
    Calls Try.prog 54 #[.pointer (some ⟨f, 0, none⟩), .int .u64 u, .int .i64 b, .bool sg, .int .i32 vb, .string (tab U)] w fun e w' => e = .returned (.tuple #[]) ∧ Wrote w w' o f F (fill 32 F.wid.toNat) := by
  have hT := Tail.start (w := w) (o := o) (F := F) hI hf
  have c1 : w.cell? ⟨f, 1, none⟩ = some (.bool F.hw) := hT.fcell 1 (by decide)
  have c2 : w.cell? ⟨f, 2, none⟩ = some (.bool F.hp) := hT.fcell 2 (by decide)
  have c10 : w.cell? ⟨f, 10, none⟩ = some (.int .i64 F.wid) := hT.fcell 10 (by decide)
  have c11 : w.cell? ⟨f, 11, none⟩ = some (.int .i64 F.prec) := hT.fcell 11 (by decide)
  have w0 := hF.wlo
  have w1 := hF.whi
  have p0 := hF.plo
  have p1 := hF.phi
  have HT := Lib.hid hT
  have HO := Lib.hid ho
  have HF := Lib.hid hF
  have HOF := Lib.hid (of_ne hf ho)
  have hb0 : 2 ≤ b := by omega
  have hb1 : b ≤ 16 := by omega
  obtain ⟨ng, hng⟩ : ∃ ng, negOf sg u = ng := ⟨_, rfl⟩
  obtain ⟨m, hm⟩ : ∃ m, magOf sg u = m := ⟨_, rfl⟩
  obtain ⟨N, hN⟩ : ∃ N, roomOf F = N := ⟨_, rfl⟩
  obtain ⟨Pr, hPr⟩ : ∃ Pr, precOf F ng = Pr := ⟨_, rfl⟩
  have hml := magOf_le sg u hu
  have hN1 := (roomOf_ge F hF).1
  have hN2 := (roomOf_ge F hF).2
  have hfit := int_fits F hF ng b hb0 O U hO m (by rw [← hm]; exact hml)
  obtain ⟨R, hR⟩ : ∃ R, fill 32 F.wid.toNat = R := ⟨_, rfl⟩
  have HR := Lib.hid hR
  have hdl := digB_size b U hb0 m (by rw [← hm]; exact hml)
  rw [hR]
  rw [hm] at hml hnz
  have hrp := roomOf_prec F hF ng
  rw [hPr, hN] at hfit hrp
  rw [hN] at hN1 hN2
  have hD := table_tab U
  obtain ⟨D, hDe⟩ : ∃ D, tab U = D := ⟨_, rfl⟩
  rw [hDe] at hD
  rw [hDe]
  have hDN : D.size = 17 := hD.size
  have hD17 : (17 : Int) ≤ (D.size : Int) := by omega
  have hD17' : 17 ≤ D.size := by omega
  have HD := Lib.hid hD
  have Hng := Lib.hid hng
  have Hm := Lib.hid hm
  have HN := Lib.hid hN
  have HP := Lib.hid hPr
  have HV := Lib.hid hv
  have HFit := Lib.hid hfit
  have Hnz := Lib.hid hnz
  have Hdl := Lib.hid hdl
  have Hrp := Lib.hid hrp
  clear hI hf ho hF hT hng hm hN hPr hR hD hDe hv hO hfit hnz hdl hDN hrp
  go_enter Try.func54, Try.ntmps54
  go_upto_region 0 with (fail)
  go_cut [12] from 20 to 25 (fun s12 wx => s12 = .bool ng ∧ w = wx)
  case first =>
    cases sg
    · have e : Hid (ng = false) := by show _ = _; rw [← Hng.out]; rfl
      go_wp2
      go_meet
      exact ⟨by rw [e.out], rfl⟩
    · by_cases hbig : 9223372036854775808 ≤ u
      · have e : Hid (ng = true) := by show _ = _; rw [← Hng.out]; simp [negOf, hbig]
        have hx : IntKind.i64.wrap (u : Int) = (u : Int) - 18446744073709551616 := by rw [IntKind.wrap_i64]; omega
        have hneg : (u : Int) - 18446744073709551616 < 0 := by omega
        go_wp2
        go_meet
        exact ⟨by rw [e.out], rfl⟩
      · have e : Hid (ng = false) := by show _ = _; rw [← Hng.out]; simp [negOf, hbig]
        have hx : IntKind.i64.wrap (u : Int) = (u : Int) := by rw [IntKind.wrap_i64]; omega
        have hneg : ¬ (u : Int) < 0 := by omega
        go_wp2
        go_meet
        exact ⟨by rw [e.out], rfl⟩
  case rest =>
    obtain ⟨rfl, rfl⟩ := hcut
    go_upto_if 26 with (fail)
    go_cut [1] from 26 to 28 (fun s1 wx => s1 = .int .u64 (m : Nat) ∧ w = wx)
    case first =>
      cases ng
      · have e : Hid (u = m) := by show _ = _; rw [← Hm.out]; unfold magOf; rw [Hng.out]; rfl
        go_wp2
        go_meet
        exact ⟨by rw [e.out], rfl⟩
      · have e : Hid (18446744073709551616 - u = m ∧ 9223372036854775808 ≤ u) := by
          refine ⟨?_, ?_⟩
          · rw [← Hm.out]; unfold magOf; rw [Hng.out]; rfl
          · have := Hng.out; simp [negOf] at this; exact this.2
        have hx : IntKind.u64.wrap (-(u : Int)) = (m : Int) := by
          have := e.out
          rw [IntKind.wrap_u64]; omega
        go_wp2
        go_meet
        exact ⟨rfl, rfl⟩
    case rest =>
      obtain ⟨rfl, rfl⟩ := hcut
      go_upto_region 4 with (fail)
      go_cut [44] from 29 to 44 (fun s44 wx => s44 = .bool (F.hw || F.hp) ∧ w = wx)
      case first =>
        rcases hz : F.hw with _ | _
        · rw [hz] at c1
          rcases hy : F.hp with _ | _
          · rw [hy] at c2
            have Hz := Lib.hid hz
            have Hy := Lib.hid hy
            clear hz hy
            go_wp2
            go_meet
            exact ⟨by rw [Hz.out, Hy.out]; rfl, rfl⟩
          · rw [hy] at c2
            have Hz := Lib.hid hz
            have Hy := Lib.hid hy
            clear hz hy
            go_wp2
            go_meet
            exact ⟨by rw [Hz.out, Hy.out]; rfl, rfl⟩
        · rw [hz] at c1
          have Hz := Lib.hid hz
          clear hz
          go_wp2
          go_meet
          exact ⟨by rw [Hz.out]; rfl, rfl⟩
      case rest =>
        obtain ⟨rfl, rfl⟩ := hcut
        obtain ⟨cw, hcw⟩ : ∃ c, (F.hw || F.hp) = c := ⟨_, rfl⟩
        rw [hcw]
        have Hcw := Lib.hid hcw
        clear hcw
        go_upto_if 44 with (fail)
        go_cut [13, 14] from 44 to 60 (fun s13 _ wx => ∃ bb off C : Nat, s13 = .slice (some ⟨bb, off, none⟩) N C ∧ N ≤ C ∧ Hid (Tail w wx o f F bb off N N ⟨#[]⟩))
        case first =>
          cases cw
          · have e : Hid (68 = N) := by
              show _ = _
              rw [← HN.out]; unfold roomOf
              have := Hcw.out
              rw [Bool.or_eq_false_iff] at this
              rw [this.1, this.2]; simp
            go_wp2
            go_meet
            exact ⟨f, 12, 68, by rw [e.out], by rw [e.out]; exact Nat.le_refl _, by rw [← e.out]; exact HT.out⟩
          · by_cases hbig : 68 < F.wid + F.prec + 3
            · have hNe : 3 + F.wid + F.prec = (N : Int) := by
                rw [← HN.out]; unfold roomOf
                have := Hcw.out
                rw [Bool.or_eq_true] at this
                rw [if_pos ⟨this, hbig⟩]; omega
              have hmk : ∀ W, (Instr.makeSlice 32 (.int .i64 (3 + F.wid + F.prec)) (.int .i64 (3 + F.wid + F.prec))).run Try.prog W = .ok (.slice (some ⟨W.heap.size, 0, none⟩) N N) (W.alloc (.cells (madeCells #[.int .u8 0] N) 5)) := fun W => by
                rw [hNe]
                exact run_make_row' (P := Try.prog) 32 5 (.int .u8 0) 1 Try.underlying32 Try.info5 rfl .i64 .i64 N (by omega) (by omega) W
              have hbig2 : (68 : Int) < 3 + F.wid + F.prec := by omega
              have Hne := Lib.hid hNe
              clear hNe hbig
              go_upto_region 5 with (fail)
              go_quiet (fail)
              go_wp2
              go_meet
              exact ⟨_, 0, N, rfl, Nat.le_refl _, Tail.made (HT.out.drewN _) _ N (size_madeCells _ _)⟩
            · have e : Hid (68 = N) := by
                show _ = _
                rw [← HN.out]; unfold roomOf
                rw [if_neg (fun h => hbig h.2)]
              have hbig2 : ¬ (68 : Int) < 3 + F.wid + F.prec := by omega
              go_upto_region 5 with (fail)
              go_quiet (fail)
              go_wp2
              go_meet
              exact ⟨f, 12, 68, by rw [e.out], by rw [e.out]; exact Nat.le_refl _, by rw [← e.out]; exact HT.out.drewN _⟩
        case rest =>
          obtain ⟨bb, off, C, rfl, hNC, HT2⟩ := hcut
          clear c1 c2 c10 c11 HT
          have c1 : wc.cell? ⟨f, 1, none⟩ = some (.bool F.hw) := HT2.out.fcell 1 (by decide)
          have c2 : wc.cell? ⟨f, 2, none⟩ = some (.bool F.hp) := HT2.out.fcell 2 (by decide)
          have c3 : wc.cell? ⟨f, 3, none⟩ = some (.bool F.mi) := HT2.out.fcell 3 (by decide)
          have c4 : wc.cell? ⟨f, 4, none⟩ = some (.bool F.pl) := HT2.out.fcell 4 (by decide)
          have c6 : wc.cell? ⟨f, 6, none⟩ = some (.bool F.sp) := HT2.out.fcell 6 (by decide)
          have c7 : wc.cell? ⟨f, 7, none⟩ = some (.bool F.ze) := HT2.out.fcell 7 (by decide)
          have c10 : wc.cell? ⟨f, 10, none⟩ = some (.int .i64 F.wid) := HT2.out.fcell 10 (by decide)
          have c11 : wc.cell? ⟨f, 11, none⟩ = some (.int .i64 F.prec) := HT2.out.fcell 11 (by decide)

          have e2 := Hnz.out.1
          have t1 : (F.prec == 0) = true := by rw [Hnz.out.2.1]; rfl
          have t2 : ((m : Int) == 0) = true := by rw [Hnz.out.2.2]; rfl
          rw [e2] at c2
          have k7 := HT2.out.ffree 7
          have HT9 := Lib.hid (HT2.out.setze false)
          clear e2 c1 c3 c4 c6
          go_upto_region 14 with (fail)
          clear c7 k7 c10 c11 c2
          generalize wc.setCell ⟨f, 7, none⟩ (.bool false) = W at *
          have c10 : W.cell? ⟨f, 10, none⟩ = some (.int .i64 F.wid) := HT9.out.fcell 10 (by decide)
          have HPad : Hid (Calls Try.prog 58 #[.pointer (some ⟨f, 0, none⟩), .int .i64 F.wid] W fun e w' => e = .returned (.tuple #[]) ∧ Hid (Wrote w (w'.setCell ⟨f, 7, none⟩ (.bool F.ze)) o f F R) ∧ w'.cell? ⟨f, 7, none⟩ = some (.bool false) ∧ w'.frozen? ⟨f, 7, none⟩ = false) := by
            show Calls _ _ _ _ _
            obtain ⟨I2, hI2, hS, hsrc⟩ := HT9.out.src HO.out HOF.out
            refine (padding_any hS F.wid (by omega) (Nat.zero_le _)).mono ?_
            rintro e w2 ⟨rfl, hS2⟩
            have hpb : padByte false F.mi = 32 := by cases F.mi <;> rfl
            rw [nil_app] at hS2
            simp only [hpb] at hS2
            rw [HR.out] at hS2
            refine ⟨rfl, ?_, hS2.fcell 7, hS2.ffree 7⟩
            have hS3 := hS2.setze F.ze
            exact ⟨HT9.out.near.weak.trans (hS3.bel.mono HT9.out.near.size), W, I2, HT9.out.near.size, hS3⟩
          go_wp2_with (go_at_call 58; refine HPad.out.mono ?_; rintro e w2 ⟨rfl, hW, k1, k2⟩)
          exact bodyPost_ret (results_none rfl _ _ _) rfl ⟨rfl, hW.out⟩

end Go.Proofs.Ytdadbfehackfjaa
