/- The walk of fmtSbx over a slice of bytes that is not nil (printed by gen_hexb.py out of the walk over a string). Conditions: no more than 2^35 bytes; widths and precisions lie between 0 and 4095. -/
import Derived.Test.YtdadbfehackfjaaHex
set_option linter.unusedVariables false
set_option linter.unusedSimpArgs false
namespace Go.Proofs.Ytdadbfehackfjaa
open Go.RowKit Go.Deep

set_option maxHeartbeats 8000000 in
set_option maxRecDepth 100000 in
theorem fmtSbx_bytes {W0 w : World} {o f : Nat} {F : Fl} {I : List Value} (h : St W0 w o f F I ⟨#[]⟩) (bb off cap : Nat) (hbb : bb < W0.heap.size) (hbo : bb ≠ o) (hbf : bb ≠ f) (hF : F.Ok) (s : ByteArray) (U : Bool) (D : ByteArray) (hD : Table D U) (hs : s.size ≤ 34359738368) (hsrc : ∀ j, j < s.size → W0.cell? ⟨bb, off + j, none⟩ = some (.int .u8 ((s.get! j).toNat : Int))) :
    Calls Try.prog 62 #[.pointer (some ⟨f, 0, none⟩), .string ⟨#[]⟩, .slice (some ⟨bb, off, none⟩) s.size cap, .string D] w fun e w' => e = .returned (.tuple #[]) ∧ St W0 w' o f F I (padOf F (hexOf F U (cutOf F s))) := by
  have c0 : w.cell? ⟨f, 0, none⟩ = some (.pointer (some ⟨o, 0, none⟩)) := h.fcell 0
  have c1 : w.cell? ⟨f, 1, none⟩ = some (.bool F.hw) := h.fcell 1
  have c2 : w.cell? ⟨f, 2, none⟩ = some (.bool F.hp) := h.fcell 2
  have c3 : w.cell? ⟨f, 3, none⟩ = some (.bool F.mi) := h.fcell 3
  have c5 : w.cell? ⟨f, 5, none⟩ = some (.bool F.sh) := h.fcell 5
  have c6 : w.cell? ⟨f, 6, none⟩ = some (.bool F.sp) := h.fcell 6
  have c10 : w.cell? ⟨f, 10, none⟩ = some (.int .i64 F.wid) := h.fcell 10
  have c11 : w.cell? ⟨f, 11, none⟩ = some (.int .i64 F.prec) := h.fcell 11
  have H := Lib.hid h
  have w0 := hF.wlo
  have w1 := hF.whi
  have p0 := hF.plo
  have p1 := hF.phi
  have hsz := cutOf_size F s p0
  obtain ⟨t, ht⟩ : ∃ t, cutOf F s = t := ⟨_, rfl⟩
  rw [ht] at hsz ⊢
  have Ht0 := Lib.hid ht
  have Ht : Hid (∀ i, i < t.size → t.get! i = s.get! i) := by
    show _
    intro i hi
    rw [← ht] at hi ⊢
    exact cutOf_get F s i hi
  have HD := Lib.hid hD
  have hD16 : (16 : Int) < (D.size : Int) := by rw [hD.size]; decide
  have hDN : 16 < D.size := by rw [hD.size]; decide
  clear h hF ht hD
  have htz : t.size ≤ 34359738368 := by omega
  obtain ⟨wd, hwd⟩ : ∃ wd, hexLen F.sh F.sp t.size = wd := ⟨_, rfl⟩
  have hwds : wd ≤ 5 * t.size + 2 := by
    rw [← hwd]
    unfold hexLen
    cases F.sh <;> cases F.sp <;> simp only [Bool.false_eq_true, if_false, if_true] <;> omega
  have Hwd := Lib.hid hwd
  clear hwd
  have hnil := fun W => eql_nil W (some ⟨bb, off, none⟩) s.size cap
  have hnn := fun W => neq_nil W (some ⟨bb, off, none⟩) s.size cap
  simp only [Option.isNone_some, Bool.not_false] at hnil hnn
  have HSRC := Lib.hid hsrc
  clear hsrc
  go_enter Try.func62, Try.ntmps62
  go_upto_region 3 with (fail)
  go_cut [31] from 13 to 31 (fun s31 wx => (∃ c : Bool, s31 = .bool c ∧ Hid (c = decide (F.hp = true ∧ F.prec < s.size))) ∧ w = wx)
  case first =>
    rcases hz : F.hp with _ | _
    · rw [hz] at c2
      have Hz := Lib.hid hz
      clear hz
      go_wp2
      go_meet
      exact ⟨⟨_, rfl, by show _ = _; simp [Hz.out]⟩, rfl⟩
    · rw [hz] at c2
      have Hz := Lib.hid hz
      clear hz
      by_cases hlt : F.prec < (s.size : Int)
      · go_wp2
        go_meet
        exact ⟨⟨_, rfl, by show _ = _; simp [Hz.out, hlt]⟩, rfl⟩
      · go_wp2
        go_meet
        exact ⟨⟨_, rfl, by show _ = _; simp [Hz.out, hlt]⟩, rfl⟩
  case rest =>
    obtain ⟨⟨c, rfl, Hc⟩, rfl⟩ := hcut
    go_upto_if 31 with (fail)
    go_cut [8] from 31 to 35 (fun s8 wx => s8 = .int .i64 t.size ∧ w = wx)
    case first =>
      cases c
      · have e : Hid (s = t) := by
          show _ = _
          have hc := of_decide_eq_false Hc.out.symm
          rw [← Ht0.out]
          unfold cutOf
          rw [if_neg hc]
        go_wp2
        go_meet
        exact ⟨by rw [e.out], rfl⟩
      · have e : Hid (F.prec = t.size) := by
          show _ = _
          obtain ⟨hc1, hc2⟩ := of_decide_eq_true Hc.out.symm
          rw [← Ht0.out]
          unfold cutOf
          rw [if_pos ⟨hc1, hc2⟩, ByteArray.size_extract]
          omega
        go_wp2
        go_meet
        exact ⟨by rw [e.out], rfl⟩
    case rest =>
      obtain ⟨rfl, rfl⟩ := hcut
      by_cases h0 : 0 < t.size
      · have h0z : (0 : Int) < (t.size : Int) := by omega
        go_upto_if 39 with (fail)
        go_cut [9] from 36 to 62 (fun s9 wx => s9 = .int .i64 (wd : Nat) ∧ w = wx)
        case first =>
          rcases hz : F.sh with _ | _
          · rcases hy : F.sp with _ | _
            · rw [hz] at c5
              rw [hy] at c6
              have Hz := Lib.hid hz
              have Hy := Lib.hid hy
              clear hz hy
              go_wp2
              go_meet
              exact ⟨by rw [← Hwd.out, Hz.out, Hy.out]; simp [hexLen], rfl⟩
            · rw [hz] at c5
              rw [hy] at c6
              have Hz := Lib.hid hz
              have Hy := Lib.hid hy
              clear hz hy
              go_wp2
              go_meet
              exact ⟨by rw [← Hwd.out, Hz.out, Hy.out]; simp [hexLen]; omega, rfl⟩
          · rcases hy : F.sp with _ | _
            · rw [hz] at c5
              rw [hy] at c6
              have Hz := Lib.hid hz
              have Hy := Lib.hid hy
              clear hz hy
              go_wp2
              go_meet
              exact ⟨by rw [← Hwd.out, Hz.out, Hy.out]; simp [hexLen], rfl⟩
            · rw [hz] at c5
              rw [hy] at c6
              have Hz := Lib.hid hz
              have Hy := Lib.hid hy
              clear hz hy
              go_wp2
              go_meet
              exact ⟨by rw [← Hwd.out, Hz.out, Hy.out]; simp [hexLen]; omega, rfl⟩
        case rest =>
          obtain ⟨rfl, rfl⟩ := hcut
          go_upto_region 15 with (fail)
          go_cut [94] from 74 to 94 (fun s94 wx => (∃ c : Bool, s94 = .bool c ∧ Hid (c = decide (F.hw = true ∧ (wd : Int) < F.wid ∧ F.mi = false))) ∧ w = wx)
          case first =>
            rcases hz : F.hw with _ | _
            · rw [hz] at c1
              have Hz := Lib.hid hz
              clear hz
              go_wp2
              go_meet
              exact ⟨⟨_, rfl, by show _ = _; simp [Hz.out]⟩, rfl⟩
            · rw [hz] at c1
              have Hz := Lib.hid hz
              clear hz
              by_cases hlt : (wd : Int) < F.wid
              · rcases hy : F.mi with _ | _
                · rw [hy] at c3
                  have Hy := Lib.hid hy
                  clear hy
                  go_wp2
                  go_meet
                  exact ⟨⟨_, rfl, by show _ = _; simp [Hz.out, Hy.out, hlt]⟩, rfl⟩
                · rw [hy] at c3
                  have Hy := Lib.hid hy
                  clear hy
                  go_wp2
                  go_meet
                  exact ⟨⟨_, rfl, by show _ = _; simp [Hz.out, Hy.out, hlt]⟩, rfl⟩
              · go_wp2
                go_meet
                exact ⟨⟨_, rfl, by show _ = _; exact (decide_eq_false (fun h => by have := h.2.1; omega)).symm⟩, rfl⟩
          case rest =>
            obtain ⟨⟨c, rfl, Hc⟩, rfl⟩ := hcut
            obtain ⟨L, hL⟩ : ∃ L, (if F.hw = true ∧ F.mi = false then fill (padByte F.ze F.mi) (F.wid - wd).toNat else ⟨#[]⟩) = L := ⟨_, rfl⟩
            have HL := Lib.hid hL
            have hLs : L.size ≤ 4095 := by
              rw [← hL]
              split
              · rw [fill_size]; omega
              · exact Nat.zero_le _
            clear hL
            go_upto_if 94 with (fail)
            go_cut [9] from 94 to 102 (fun s9 wx => s9 = .int .i64 (wd : Nat) ∧ St W0 wx o f F I L)
            case first =>
              cases c
              · have hc := of_decide_eq_false Hc.out.symm
                have e : Hid (L = ⟨#[]⟩) := by
                  show _ = _
                  rw [← HL.out]
                  split
                  · rename_i h1
                    rw [show (F.wid - wd).toNat = 0 by have := h1.1; have := h1.2; by_cases hlt : (wd : Int) < F.wid; exact absurd ⟨h1.1, hlt, h1.2⟩ hc; omega, fill_zero]
                  · rfl
                clear hc
                go_wp2
                go_meet
                exact ⟨rfl, by rw [e.out]; exact H.out⟩
              · have e : Hid (L = ⟨#[]⟩ ++ fill (padByte F.ze F.mi) (F.wid - wd).toNat) := by
                  show _ = _
                  obtain ⟨h1, h2, h3⟩ := of_decide_eq_true Hc.out.symm
                  rw [← HL.out, if_pos ⟨h1, h3⟩, nil_app]
                have hwl : (wd : Int) ≤ 4194304000000 := by omega
                go_wp2_with (go_at_call 58; refine (padding_any H.out (F.wid - wd) (by omega) (Nat.zero_le _)).mono ?_; rintro e w2 ⟨rfl, hS⟩)
                go_meet
                exact ⟨rfl, by rw [e.out]; exact hS⟩
            case rest =>
              obtain ⟨rfl, hS⟩ := hcut
              clear c0 c1 c2 c3 c5 c6 c10 c11 H Hc Ht0
              obtain ⟨P, hP⟩ : ∃ P, (if F.sh then preH U else ⟨#[]⟩) = P := ⟨_, rfl⟩
              have HP := Lib.hid hP
              have hPs : P.size ≤ 2 := by
                rw [← hP]
                cases F.sh
                · exact Nat.zero_le _
                · exact Nat.le_of_eq (preH_size U)
              clear hP
              have c0 : wc.cell? ⟨f, 0, none⟩ = some (.pointer (some ⟨o, 0, none⟩)) := hS.fcell 0
              have c5 : wc.cell? ⟨f, 5, none⟩ = some (.bool F.sh) := hS.fcell 5
              obtain ⟨v0, co, hB⟩ := Bd.of hS
              have HB := Lib.hid hB
              clear hS hB
              obtain ⟨i0, hi, hz0, hz1, hz2⟩ := info_parts Try.info5
              go_upto_if 113 with (fail)
              go_cut [10] from 103 to 118 (fun s10 wx => Bd W0 wx o f F I s10 (L ++ P))
              case first =>
                rcases hz : F.sh with _ | _
                · rw [hz] at c5
                  have e : Hid (L = L ++ P) := by
                    show _ = _
                    rw [← HP.out, hz]; exact (app_nil _).symm
                  clear hz
                  go_wp2
                  go_meet
                  exact e.out ▸ HB.out
                · rw [hz] at c5
                  have e : Hid (preH U = P) := by
                    show _ = _
                    rw [← HP.out, hz]; rfl
                  have hp16 := HD.out.pre
                  have hgi := get_of_lt D 16 hDN
                  have e2 : Hid (P = ⟨#[48, D[16]]⟩) := by
                    show _ = _
                    rw [← e.out, hp16, hgi]
                  clear hz hp16 hgi
                  go_wp2_with (at_builtin; refine wpList_bd (W0 := W0) (o := o) (f := f) (F := F) (I := I) (v := v0) (s := L) rfl _ _ 71 rfl i0 Try.underlying71 hi hz0 hz1 hz2 rfl (HB.out.alloc _) ⟨wc.heap.size, 0, none⟩ 2 2 P rfl (by rw [e2.out]; rfl) (news_two _ 48 _ _ e2.out) (by omega) ?_; intro v1 w2 hB2; have HB2 := Lib.hid hB2; clear hB2)
                  go_meet
                  exact HB2.out
              case rest =>
                have HB := Lib.hid hcut
                clear hcut c0 c5 co
                go_wp2
                go_loopw [10, 11, 12] (fun v10 _ v12 wr => ∃ (i : Nat) (S : ByteArray), v12 = .int .i64 i ∧ i ≤ t.size ∧ Hid (Bd W0 wr o f F I v10 S) ∧ Hid (S = L ++ P ++ hexBody U F.sh F.sp t i)) (fun _ _ v12 _ => t.size - (intOf v12).toNat)
                case atStart => exact ⟨0, _, rfl, Nat.zero_le _, HB, (app_nil _).symm⟩
                case round =>
                  obtain ⟨i, S, rfl, hil, HB, HS⟩ := hrel
                  have c5 : wr.cell? ⟨f, 5, none⟩ = some (.bool F.sh) := HB.out.fcell 5
                  have c6 : wr.cell? ⟨f, 6, none⟩ = some (.bool F.sp) := HB.out.fcell 6
                  have hSs : S.size ≤ 4097 + 5 * i := by
                    have := hexBody_size U F.sh F.sp t i
                    rw [HS.out, size_app, size_app]; omega
                  by_cases hit : i < t.size
                  · have hitz : (i : Int) < (t.size : Int) := by omega
                    have hisz : (i : Int) < (s.size : Int) := by omega
                    have his : i < s.size := by omega
                    go_upto_region 24 with (fail)
                    go_cut [132] from 119 to 132 (fun s132 wx => (∃ c : Bool, s132 = .bool c ∧ Hid (c = (F.sp && decide (0 < i)))) ∧ wr = wx)
                    case first =>
                      rcases hz : F.sp with _ | _
                      · rw [hz] at c6
                        have Hz := Lib.hid hz
                        clear hz
                        go_wp2
                        go_meet
                        exact ⟨⟨_, rfl, by show _ = _; rw [Hz.out]; rfl⟩, rfl⟩
                      · rw [hz] at c6
                        have Hz := Lib.hid hz
                        clear hz
                        by_cases hi0 : 0 < i
                        · have hi0z : (0 : Int) < (i : Int) := by omega
                          go_wp2
                          go_meet
                          exact ⟨⟨_, rfl, by show _ = _; rw [Hz.out]; simp [hi0]⟩, rfl⟩
                        · have hi0z : ¬ (0 : Int) < (i : Int) := by omega
                          go_wp2
                          go_meet
                          exact ⟨⟨_, rfl, by show _ = _; rw [Hz.out]; simp [hi0]⟩, rfl⟩
                    case rest =>
                      obtain ⟨⟨c, rfl, Hc⟩, rfl⟩ := hcut
                      obtain ⟨G, hG⟩ : ∃ G, gapH U F.sh F.sp i = G := ⟨_, rfl⟩
                      have hGs : G.size ≤ 3 := by rw [← hG]; exact gapH_size U F.sh F.sp i
                      have HG := Lib.hid hG
                      clear hG
                      go_upto_if 132 with (fail)
                      go_cut [10] from 132 to 145 (fun s10 wx => Hid (Bd W0 wx o f F I s10 (S ++ G)))
                      case first =>
                        cases c
                        · have e : Hid (S = S ++ G) := by
                            show _ = _
                            rw [← HG.out]
                            unfold gapH
                            rw [← Hc.out]
                            exact (app_nil _).symm
                          go_wp2
                          go_meet
                          exact e.out ▸ HB
                        · rcases hz : F.sh with _ | _
                          · rw [hz] at c5
                            have Hz := Lib.hid hz
                            have e : Hid (S ++ one 32 = S ++ G) := by
                              show _ = _
                              rw [← HG.out]
                              unfold gapH
                              rw [← Hc.out, hz]
                              simp [app_nil]
                            clear hz
                            go_wp2_with (at_builtin; refine wpList_bd (W0 := W0) (o := o) (f := f) (F := F) (I := I) (v := u10) (s := S) rfl _ _ 71 rfl i0 Try.underlying71 hi hz0 hz1 hz2 rfl (HB.out.alloc _) ⟨wr.heap.size, 0, none⟩ 1 1 (one 32) rfl rfl (news_one _ 32) (by rw [one_size]; omega) ?_; intro v1 w2 hB2; have HB2 := Lib.hid hB2; clear hB2; have d5 : w2.cell? ⟨f, 5, none⟩ = some (.bool false) := by rw [HB2.out.fcell 5, ← Hz.out]; rfl)
                            go_meet
                            exact e.out ▸ HB2
                          · rw [hz] at c5
                            have Hz := Lib.hid hz
                            have e : Hid (S ++ one 32 ++ preH U = S ++ G) := by
                              show _ = _
                              rw [← HG.out]
                              unfold gapH
                              rw [← Hc.out, hz]
                              simp [app_assoc]
                            have e2 : Hid (preH U = ⟨#[48, D[16]]⟩) := by
                              show _ = _
                              have hgi := get_of_lt D 16 hDN
                              rw [HD.out.pre, hgi]
                            clear hz
                            go_wp2_with (first | (at_builtin; refine wpList_bd (W0 := W0) (o := o) (f := f) (F := F) (I := I) (v := u10) (s := S) rfl _ _ 71 rfl i0 Try.underlying71 hi hz0 hz1 hz2 rfl (HB.out.alloc _) ⟨wr.heap.size, 0, none⟩ 1 1 (one 32) rfl rfl (news_one _ 32) (by rw [one_size]; omega) ?_; intro v1 w2 hB2; have HB2 := Lib.hid hB2; clear hB2; have d5 : w2.cell? ⟨f, 5, none⟩ = some (.bool true) := by rw [HB2.out.fcell 5, ← Hz.out]; rfl) | (at_builtin; refine wpList_bd (W0 := W0) (o := o) (f := f) (F := F) (I := I) (v := v1) (s := S ++ one 32) rfl _ _ 71 rfl i0 Try.underlying71 hi hz0 hz1 hz2 rfl (HB2.out.alloc _) ⟨w2.heap.size, 0, none⟩ 2 2 (preH U) rfl (preH_size U).symm (news_two _ 48 _ _ e2.out) (by rw [size_app, one_size, preH_size]; omega) ?_; intro v2 w3 hB2; have HB3 := Lib.hid hB2; clear hB2))
                            go_meet
                            exact e.out ▸ HB3
                      case rest =>
                        have HB := hcut
                        clear hcut c5 c6
                        obtain ⟨c, hgi⟩ : ∃ c : UInt8, s.get! i = c := ⟨_, rfl⟩
                        have hc : wc.cell? ⟨bb, off + i, none⟩ = some (.int .u8 (c.toNat : Int)) := by
                          rw [← hgi, ← HSRC.out i his]
                          exact World.cell?_of_block (a := ⟨bb, off + i, none⟩) (HB.out.near.block bb hbb hbo hbf)
                        have hcl := c.toNat_lt
                        have hc0 : (0 : Int) ≤ (c.toNat : Int) := by omega
                        have hc1 : (c.toNat : Int) ≤ 255 := by omega
                        have b1 := low_four c.toNat hc0 hc1
                        have hx0 : (0 : Int) ≤ (c.toNat : Int) / 16 := by omega
                        have hx1 : (c.toNat : Int) / 16 < (D.size : Int) := by have := hD16; omega
                        have hy0 : (0 : Int) ≤ (c.toNat : Int) % 16 := by omega
                        have hy1 : (c.toNat : Int) % 16 < (D.size : Int) := by have := hD16; omega
                        have hxl : ((c.toNat : Int) / 16).toNat < D.size := by omega
                        have hyl : ((c.toNat : Int) % 16).toNat < D.size := by omega
                        have e2 : Hid (twoH U c = ⟨#[D[((c.toNat : Int) / 16).toNat]'hxl, D[((c.toNat : Int) % 16).toNat]'hyl]⟩) := by
                          show _ = _
                          rw [← get_of_lt D _ hxl, ← get_of_lt D _ hyl, show ((c.toNat : Int) / 16).toNat = c.toNat / 16 by omega, show ((c.toNat : Int) % 16).toNat = c.toNat % 16 by omega, HD.out.dig _ (by omega), HD.out.dig _ (by omega)]
                          rfl
                        have e3 : Hid (t.get! i = c) := by
                          show _ = _
                          rw [← hgi, Ht.out i hit]
                        have hSb : (S ++ G).size + 2 ≤ 140737488355328 := by rw [size_app]; omega
                        clear hgi
                        go_upto_region 31 with (fail)
                        clear hc
                        go_region_law (refine step_bd (W0 := W0) (o := o) (f := f) (F := F) (I := I) (v := u10) (s := S ++ G) rfl _ _ 71 rfl i0 Try.underlying71 hi hz0 hz1 hz2 rfl (by first | exact HB.out.alloc _ | exact HB.out.drew.alloc _) ⟨wc.heap.size, 0, none⟩ 2 2 (twoH U c) rfl rfl (by first | exact news_two _ _ _ _ e2.out | exact news_two wc.drew _ _ _ e2.out) hSb ?_; intro v1 w2 hB2; have HB2 := Lib.hid hB2; clear hB2)
                        all_goals (
                          go_wp2
                          go_roundw
                          case rel => exact ⟨i + 1, _, by go_num, by omega, HB2, by show _ = _; rw [HS.out, ← HG.out, ← e3.out]; simp only [hexBody, app_assoc]⟩
                          case measure => simp [intOf]; omega)
                  · have hge : ¬ (i : Int) < (t.size : Int) := by omega
                    obtain ⟨A', n', c', rfl⟩ := own_slice HB.out.2
                    have k0 : wr.cell? ⟨f, 0, none⟩ = some (.pointer (some ⟨o, 0, none⟩)) := HB.out.fcell 0
                    obtain ⟨uo, ko⟩ := HB.out.ocell
                    have kf := HB.out.ofree 0
                    have HS2 : Hid (St W0 (wr.setCell ⟨o, 0, none⟩ (.slice A' n' c')) o f F I S) := HB.out.put
                    have hti : i = t.size := by omega
                    have HE : Hid (S ++ (if F.hw = true ∧ F.mi = true then fill (padByte F.ze F.mi) (F.wid - wd).toNat else ⟨#[]⟩) = padOf F (hexOf F U t)) := by
                      show _ = _
                      rw [hex_end F U t L P wd h0 Hwd.out HL.out HP.out, HS.out, hti]
                    clear c5 c6 hti
                    go_upto_region 33 with (fail)
                    clear ko kf k0
                    generalize wr.setCell ⟨o, 0, none⟩ (.slice A' n' c') = W at *
                    have c1 : W.cell? ⟨f, 1, none⟩ = some (.bool F.hw) := HS2.out.fcell 1
                    have c3 : W.cell? ⟨f, 3, none⟩ = some (.bool F.mi) := HS2.out.fcell 3
                    have c10 : W.cell? ⟨f, 10, none⟩ = some (.int .i64 F.wid) := HS2.out.fcell 10
                    go_cut [191] from 166 to 191 (fun s191 wx => (∃ c : Bool, s191 = .bool c ∧ Hid (c = decide (F.hw = true ∧ (wd : Int) < F.wid ∧ F.mi = true))) ∧ W = wx)
                    case first =>
                      rcases hz : F.hw with _ | _
                      · rw [hz] at c1
                        have Hz := Lib.hid hz
                        clear hz
                        go_wp2
                        go_meet
                        exact ⟨⟨_, rfl, by show _ = _; simp [Hz.out]⟩, rfl⟩
                      · rw [hz] at c1
                        have Hz := Lib.hid hz
                        clear hz
                        by_cases hlt : (wd : Int) < F.wid
                        · rcases hy : F.mi with _ | _
                          · rw [hy] at c3
                            have Hy := Lib.hid hy
                            clear hy
                            go_wp2
                            go_meet
                            exact ⟨⟨_, rfl, by show _ = _; simp [Hz.out, Hy.out, hlt]⟩, rfl⟩
                          · rw [hy] at c3
                            have Hy := Lib.hid hy
                            clear hy
                            go_wp2
                            go_meet
                            exact ⟨⟨_, rfl, by show _ = _; simp [Hz.out, Hy.out, hlt]⟩, rfl⟩
                        · go_wp2
                          go_meet
                          exact ⟨⟨_, rfl, by show _ = _; exact (decide_eq_false (fun h => by have := h.2.1; omega)).symm⟩, rfl⟩
                    case rest =>
                      obtain ⟨⟨c, rfl, Hc⟩, rfl⟩ := hcut
                      cases c
                      · have hc := of_decide_eq_false Hc.out.symm
                        have e : Hid (S = padOf F (hexOf F U t)) := by
                          show _ = _
                          rw [← HE.out]
                          split
                          · rename_i h1
                            rw [show (F.wid - wd).toNat = 0 by have := h1.1; have := h1.2; by_cases hlt : (wd : Int) < F.wid; exact absurd ⟨h1.1, hlt, h1.2⟩ hc; omega, fill_zero, app_nil]
                          · rw [app_nil]
                        clear hc
                        go_wp2
                        go_end0
                        exact ⟨rfl, e.out ▸ HS2.out⟩
                      · have e : Hid (S ++ fill (padByte F.ze F.mi) (F.wid - wd).toNat = padOf F (hexOf F U t)) := by
                          show _ = _
                          obtain ⟨h1, h2, h3⟩ := of_decide_eq_true Hc.out.symm
                          rw [← HE.out, if_pos ⟨h1, h3⟩]
                        have hwl : (wd : Int) ≤ 4194304000000 := by omega
                        go_wp2_with (go_at_call 58; refine (padding_any HS2.out (F.wid - wd) (by omega) (by omega)).mono ?_; rintro e w2 ⟨rfl, hS⟩)
                        go_end0
                        exact ⟨rfl, e.out ▸ hS⟩
      · have h0z : ¬ (0 : Int) < 2 * (t.size : Int) := by omega
        have he : Hid (t = ⟨#[]⟩) := empty_of_size t (by omega)
        have e : Hid (hexOf F U t = ⟨#[]⟩) := by
          show _ = _
          rw [he.out]; rfl
        rcases hz : F.hw with _ | _
        · rw [hz] at c1
          have Hz := Lib.hid hz
          clear hz
          go_wp2
          exact bodyPost_ret (results_none rfl _ _ _) rfl ⟨rfl, by rw [e.out, padOf_none F _ Hz.out]; exact H.out⟩
        · rw [hz] at c1
          have e2 : Hid (⟨#[]⟩ ++ fill (padByte F.ze F.mi) F.wid.toNat = padOf F ⟨#[]⟩) := by
            show _ = _
            have hr0 : Lib.runeCount ⟨#[]⟩ = 0 := rfl
            cases hm : F.mi
            · rw [padOf_left F _ hz hm, hm, hr0, nil_app, app_nil]; simp
            · rw [padOf_right F _ hz hm, hm, hr0]; simp
          clear hz
          go_wp2_with (go_at_call 58; refine (padding_any H.out F.wid (by omega) (Nat.zero_le _)).mono ?_; rintro e w2 ⟨rfl, hS⟩)
          exact bodyPost_ret (results_none rfl _ _ _) rfl ⟨rfl, by rw [e.out, ← e2.out]; exact hS⟩

end Go.Proofs.Ytdadbfehackfjaa
