/- FnQuotedChar: a code point is written as a rune literal of Go that means it, or U+FFFD, if it is none; with the flag + in ASCII alone; and filled up to the width: the walk of the law returns true at every flags and every number, where the four tables of strconv.IsPrint stand as their initialisers lay them. -/
import Derived.Test.YtdadbfehackfjaaDoorQcCalls
import Derived.Test.YtdadbfehackfjaaDoorUnq
set_option linter.unusedVariables false
set_option linter.unusedSimpArgs false
namespace Go.Proofs.YtdadbfehackfjaaDoor
open Go.RowKit Go.Deep

theorem count_enc (r : Nat) (hr : Sc r) : Lib.runeCount (enc r) = 1 := by
  have h := dec_enc r hr ⟨#[]⟩
  rw [app_nil] at h
  have hl := enc_le (r : Int)
  have h0 : 0 < (enc (r : Int)).size := by omega
  rw [count_step _ h0, h]
  rw [count_none _ (by rw [size_tail]; simp)]
theorem enc_bad : enc (65533 : Nat) = ⟨#[239, 191, 189]⟩ := by
  apply ByteArray.ext
  apply Array.ext'
  show (strOfNums _).data.toList = _
  rw [strOf_data]
  decide

theorem boxed_pl {w : World} {b : Nat} {G : Fl} {p : Bool} (h : Boxed w b G) (hp : G.pl = p) : w.cell? ⟨b, 0, none⟩ = some (.int .i64 G.wid) ∧ w.cell? ⟨b, 1, none⟩ = some (.int .i64 G.prec) ∧ w.cell? ⟨b, 2, none⟩ = some (.bool G.hw) ∧ w.cell? ⟨b, 3, none⟩ = some (.bool G.hp) ∧ w.cell? ⟨b, 4, none⟩ = some (.bool G.mi) ∧ w.cell? ⟨b, 5, none⟩ = some (.bool p) ∧ w.cell? ⟨b, 6, none⟩ = some (.bool G.sh) ∧ w.cell? ⟨b, 7, none⟩ = some (.bool G.sp) ∧ w.cell? ⟨b, 8, none⟩ = some (.bool G.ze) := by
  rw [← hp]; exact h

set_option maxHeartbeats 8000000 in
set_option maxRecDepth 100000 in
theorem fnQuotedChar_any (F : Fl) (ui : Int) (w : World) (h0 : -9223372036854775808 ≤ F.wid) (h1 : F.wid ≤ 9223372036854775807) (h2 : -9223372036854775808 ≤ F.prec) (h3 : F.prec ≤ 9223372036854775807) (hu0 : 0 ≤ ui) (hu1 : ui ≤ 18446744073709551615) (hPT : Lib.PrintTabsAt 0 1 2 3 Lib.goPrintTabs w) :
    Calls Tryd.prog 5 #[(.agg #[.int .i64 F.wid, .int .i64 F.prec, .bool F.hw, .bool F.hp, .bool F.mi, .bool F.pl, .bool F.sh, .bool F.sp, .bool F.ze]), .int .u64 ui] w fun e w' => e = .returned (.bool true) ∧ Below w.heap.size w w' := by
  obtain ⟨u, rfl⟩ : ∃ u : Nat, ui = (u : Int) := ⟨ui.toNat, by omega⟩
  have hok := clean_ok F
  have cC := fun W => clean_any F W h0 h1 h2 h3
  obtain ⟨G, hG⟩ : ∃ G, F.clean = G := ⟨_, rfl⟩
  rw [hG] at hok cC
  clear hG h0 h1 h2 h3
  have cS := fun W => scalar_any (u : Int) hu0 hu1 W
  have hsz := qcT_size G.pl u
  have cU := fun W (hT : Lib.PrintTabsAt 0 1 2 3 Lib.goPrintTabs W) => quotedChar_any G hok u hu1 W hT
  have cV : ∀ W (hT : Lib.PrintTabsAt 0 1 2 3 Lib.goPrintTabs W), Calls Tryd.prog 17 #[.agg #[.int .i64 0, .int .i64 G.prec, .bool false, .bool G.hp, .bool G.mi, .bool G.pl, .bool G.sh, .bool G.sp, .bool G.ze], .int .u64 u] W fun e w' => e = .returned (.string (qcT G.pl u)) ∧ Below W.heap.size W w' := fun W hT => quotedChar_any (tightF G) (tightF_ok hok) u hu1 W hT
  have cP := fun W => specPad_any G (qcT G.pl u) W hok (by omega)
  have cT := fun W => tight_any G W
  have hL : Lit 39 (escT 39 G.pl (rr u)) (enc (rr u)) := by
    have := Lit.rune (q := 39) G.pl (rr u) _ _ (rr_sc u) Lit.nil
    rwa [app_nil, app_nil] at this
  have hel := enc_le ((rr u : Nat) : Int)
  have hes := escT_size 39 G.pl (rr u)
  have cQ := fun W => unq_sq (escT 39 G.pl (rr u)) (enc (rr u)) hL (by omega) (by omega) (count_enc _ (rr_sc u)) (qcT G.pl u) rfl W
  have cA := fun (hp : G.pl = true) W => ascii_any (qcT G.pl u) (by
    rw [hp]
    exact (Asc.one (by decide)).app ((Asc.escT 39 _ (by decide)).app (Asc.one (by decide)))) (by omega) W
  have hg0 : (qcT G.pl u).get! 0 = 39 := get_app_one _ _
  have key : ∃ sc : Bool, decide ((u : Int) < 55296 ∨ 57343 < (u : Int) ∧ (u : Int) ≤ 1114111) = sc ∧ (sc = true → (u : Int) ≤ 1114111 ∧ ((u : Int) < 55296 ∨ 57343 < (u : Int)) ∧ enc (u : Int) = enc (rr u)) ∧ (sc = false → (⟨#[239, 191, 189]⟩ : ByteArray) = enc (rr u)) := by
    by_cases h : u < 55296 ∨ (57343 < u ∧ u ≤ 1114111)
    · exact ⟨true, decide_eq_true (by omega), fun _ => ⟨by omega, by omega, by rw [show rr u = u from if_pos h]⟩, fun h => by cases h⟩
    · exact ⟨false, decide_eq_false (by omega), fun h => (by cases h), fun _ => by rw [show rr u = 65533 from if_neg h]; exact enc_bad.symm⟩
  obtain ⟨sc, hsc, hs1, hs2⟩ := key
  simp only [hsc] at cS
  obtain ⟨E, hE⟩ : ∃ E, enc (rr u) = E := ⟨_, rfl⟩
  rw [hE] at hs1 hs2
  simp only [hE] at cQ
  obtain ⟨T, hT⟩ : ∃ T, qcT G.pl u = T := ⟨_, rfl⟩
  simp only [hT] at cV cU cP cQ cA hsz hg0
  obtain ⟨R, hR⟩ : ∃ R, padOf G T = R := ⟨_, rfl⟩
  simp only [hR] at cU cP
  have hT0 : 0 < T.size := by omega
  have hT0z : (0 : Int) < (T.size : Int) := by omega
  have hTz : T[0]'hT0 = 39 := by rw [← hg0, get_of_lt T 0 hT0]
  have HU := Lib.hid cU
  have HV := Lib.hid cV
  have HP := Lib.hid cP
  have HA := Lib.hid cA
  have HQ := Lib.hid cQ
  have HS1 := Lib.hid hs1
  have HS2 := Lib.hid hs2
  have HPT := Lib.hid hPT
  have eqE : (E.toList == E.toList) = true := beq_self_eq_true _
  have eqR : (R.toList == R.toList) = true := beq_self_eq_true _
  clear cU cV cP cA cQ hs1 hs2 hPT hsc hE hT hR hL hel hes hsz hg0 hok hu0
  go_enter Tryd.func5, Tryd.ntmps5
  go_upto_region 2 with (go_at_call 7; refine (cC _).mono ?_; rintro e w1 ⟨rfl, hb1⟩; obtain ⟨hc1, hf1⟩ := bcell hb1)
  have hBx : Boxed (refilled w1 w.heap.size G) w.heap.size G := Boxed.refill (F := F) (Boxed.below (by unfold Boxed; simp) hb1) G
  have hBl : Below w.heap.size w (refilled w1 w.heap.size G) := below_refilled (Below.trans (by repeat (first | (with_reducible refine Below.drew ?_) | (with_reducible refine below_drewN ?_ _) | (with_reducible refine Below.alloc ?_ (by first | (simp; done) | (simp; omega)) _) | (with_reducible refine Below.setCell ?_ (by first | (simp; done) | (simp; omega)) _) | with_reducible exact Below.refl _ _)) (hb1.mono (by first | (simp; done) | (simp; omega)))) (Nat.le_refl _) G
  change Code.wp _ _ _ _ (refilled w1 w.heap.size G)
  generalize refilled w1 w.heap.size G = W at *
  clear hb1 hc1 hf1 cC
  have HBx := Lib.hid hBx
  have HBl := Lib.hid hBl
  clear hBx hBl
  go_upto_if 12 with (go_at_call 15; refine (cS _).mono ?_; rintro e w' ⟨rfl, rfl⟩)
  clear cS
  go_cut [0, 5] from 13 to 15 (fun _ s5 wx => s5 = .string E ∧ Hid (Boxed wx w.heap.size G) ∧ Hid (Below w.heap.size w wx))
  case first =>
    cases sc
    · have e := HS2.out rfl
      have He := Lib.hid e
      clear e
      go_wp2
      go_meet
      exact ⟨by rw [He.out], HBx, HBl⟩
    · obtain ⟨he1, he2, he3⟩ := HS1.out rfl
      have cE := fun W => encoded_any (u : Int) (by omega) he1 he2 W
      simp only [he3] at cE
      clear he3 he2
      go_wp2_with (go_at_call 16; refine (cE _).mono ?_; rintro e w9 ⟨rfl, hb9⟩)
      go_meet
      exact ⟨rfl, Boxed.below HBx.out hb9, HBl.out.trans (hb9.mono HBl.out.size)⟩
  case rest =>
    obtain ⟨rfl, HBc, HLc⟩ := hcut
    clear HS1 HS2 HBx HBl
    obtain ⟨x0, x1, x2, x3, x4, x5, x6, x7, x8⟩ := id HBc.out
    have hLc := HLc.out
    go_upto_region 6 with (first | (go_at_call 13; refine (cT _).mono ?_; rintro e w2 ⟨rfl, hb2⟩; have q2 : Below w.heap.size w w2 := (by first | exact (hLc).trans ((hb2).mono (hLc).size) | exact (hLc).drew.trans ((hb2).mono (hLc).size) | exact (below_drewN (hLc) _).trans ((hb2).mono (hLc).size)); have hBx2 : Boxed w2 w.heap.size G := Boxed.below (by first | with_reducible exact HBc.out | with_reducible exact (HBc.out).drew | with_reducible exact (HBc.out).drewN _) hb2) | (go_at_call 17; refine (HV.out _ (PrintTabs_below HPT.out q2)).mono ?_; rintro e w3 ⟨rfl, hb3⟩; have q3 : Below w.heap.size w w3 := (by first | exact (q2).trans ((hb3).mono (q2).size) | exact (q2).drew.trans ((hb3).mono (q2).size) | exact (below_drewN (q2) _).trans ((hb3).mono (q2).size)); have hBx3 : Boxed w3 w.heap.size G := Boxed.below hBx2 hb3))
    clear x0 x1 x2 x3 x4 x5 x6 x7 x8 hBx2 hb2 hb3 q2 HBc HLc hLc HV cT
    have HBx3 := Lib.hid hBx3
    clear hBx3
    go_upto_region 7 with (go_at_call 18; refine (HQ.out _).mono ?_; rintro e w4 ⟨rfl, hb4⟩; have q4 : Below w.heap.size w w4 := (by first | exact (q3).trans ((hb4).mono (q3).size) | exact (q3).drew.trans ((hb4).mono (q3).size) | exact (below_drewN (q3) _).trans ((hb4).mono (q3).size)); have HBx4 := Lib.hid (Boxed.below HBx3.out hb4))
    obtain ⟨x0, x1, x2, x3, x4, x5, x6, x7, x8⟩ := id HBx4.out
    clear hb4 q3 HBx3 HQ
    rcases hp : G.pl with _ | _
    · have cU := HU.out
      have cP := HP.out
      rw [hp] at x5 cU cP
      have Hp := Lib.hid hp
      clear HU HP hp HA
      refine wp_region_held_drew (S := (fun w' => w'.cell? ⟨w.heap.size, 0, none⟩ = some (.int .i64 G.wid) ∧ w'.cell? ⟨w.heap.size, 1, none⟩ = some (.int .i64 G.prec) ∧ w'.cell? ⟨w.heap.size, 2, none⟩ = some (.bool G.hw) ∧ w'.cell? ⟨w.heap.size, 3, none⟩ = some (.bool G.hp) ∧ w'.cell? ⟨w.heap.size, 4, none⟩ = some (.bool G.mi) ∧ w'.cell? ⟨w.heap.size, 5, none⟩ = some (.bool false) ∧ w'.cell? ⟨w.heap.size, 6, none⟩ = some (.bool G.sh) ∧ w'.cell? ⟨w.heap.size, 7, none⟩ = some (.bool G.sp) ∧ w'.cell? ⟨w.heap.size, 8, none⟩ = some (.bool G.ze))) (by kernel_rfl) (boxed_pl HBx4.out Hp.out) (fun hHeld => ?_)
      refine wpAnyH_take (i := 0) (v := ?_) rfl (by kernel_rfl) (by kernel_rfl) (by kernel_rfl) (fun _ _ _ h => h) (Or.inl ⟨by rfl, ?_⟩) (by assumption) ?_
      rotate_left 1
      · intro w hSw; (try dsimp only at hSw); go_simp
        all_goals with_reducible rfl
      try simp only [Act.put, List.setIfInBounds_toArray, List.set_cons_zero, List.set_cons_succ, List.getElem_toArray, List.getElem_cons_zero, List.getElem_cons_succ]
      refine wpAnyH_take (i := 1) (v := ?_) rfl (by kernel_rfl) (by kernel_rfl) (by kernel_rfl) (fun _ _ _ h => h) (Or.inl ⟨by rfl, ?_⟩) (by assumption) ?_
      rotate_left 1
      · intro w hSw; (try dsimp only at hSw); go_simp
        all_goals with_reducible rfl
      try simp only [Act.put, List.setIfInBounds_toArray, List.set_cons_zero, List.set_cons_succ, List.getElem_toArray, List.getElem_cons_zero, List.getElem_cons_succ]
      refine wpAnyH_take (i := 2) (v := ?_) rfl (by kernel_rfl) (by kernel_rfl) (by kernel_rfl) (fun _ _ _ h => h) (Or.inl ⟨by rfl, ?_⟩) (by assumption) ?_
      rotate_left 1
      · intro w hSw; (try dsimp only at hSw); go_simp
        all_goals with_reducible rfl
      try simp only [Act.put, List.setIfInBounds_toArray, List.set_cons_zero, List.set_cons_succ, List.getElem_toArray, List.getElem_cons_zero, List.getElem_cons_succ]
      refine wpAnyH_take (i := 3) (v := ?_) rfl (by kernel_rfl) (by kernel_rfl) (by kernel_rfl) (fun _ _ _ h => h) (Or.inl ⟨by rfl, ?_⟩) (by assumption) ?_
      rotate_left 1
      · intro w hSw; (try dsimp only at hSw); go_simp
        all_goals with_reducible rfl
      try simp only [Act.put, List.setIfInBounds_toArray, List.set_cons_zero, List.set_cons_succ, List.getElem_toArray, List.getElem_cons_zero, List.getElem_cons_succ]
      refine wpAnyH_take (i := 4) (v := ?_) rfl (by kernel_rfl) (by kernel_rfl) (by kernel_rfl) (fun _ _ _ h => h) (Or.inl ⟨by rfl, ?_⟩) (by assumption) ?_
      rotate_left 1
      · intro w hSw; (try dsimp only at hSw); go_simp
        all_goals with_reducible rfl
      try simp only [Act.put, List.setIfInBounds_toArray, List.set_cons_zero, List.set_cons_succ, List.getElem_toArray, List.getElem_cons_zero, List.getElem_cons_succ]
      refine wpAnyH_take (i := 5) (v := ?_) rfl (by kernel_rfl) (by kernel_rfl) (by kernel_rfl) (fun _ _ _ h => h) (Or.inl ⟨by rfl, ?_⟩) (by assumption) ?_
      rotate_left 1
      · intro w hSw; (try dsimp only at hSw); go_simp
        all_goals with_reducible rfl
      try simp only [Act.put, List.setIfInBounds_toArray, List.set_cons_zero, List.set_cons_succ, List.getElem_toArray, List.getElem_cons_zero, List.getElem_cons_succ]
      refine wpAnyH_take (i := 6) (v := ?_) rfl (by kernel_rfl) (by kernel_rfl) (by kernel_rfl) (fun _ _ _ h => h) (Or.inl ⟨by rfl, ?_⟩) (by assumption) ?_
      rotate_left 1
      · intro w hSw; (try dsimp only at hSw); go_simp
        all_goals with_reducible rfl
      try simp only [Act.put, List.setIfInBounds_toArray, List.set_cons_zero, List.set_cons_succ, List.getElem_toArray, List.getElem_cons_zero, List.getElem_cons_succ]
      refine wpAnyH_take (i := 7) (v := ?_) rfl (by kernel_rfl) (by kernel_rfl) (by kernel_rfl) (fun _ _ _ h => h) (Or.inl ⟨by rfl, ?_⟩) (by assumption) ?_
      rotate_left 1
      · intro w hSw; (try dsimp only at hSw); go_simp
        all_goals with_reducible rfl
      try simp only [Act.put, List.setIfInBounds_toArray, List.set_cons_zero, List.set_cons_succ, List.getElem_toArray, List.getElem_cons_zero, List.getElem_cons_succ]
      refine wpAnyH_take (i := 8) (v := ?_) rfl (by kernel_rfl) (by kernel_rfl) (by kernel_rfl) (fun _ _ _ h => h) (Or.inl ⟨by rfl, ?_⟩) (by assumption) ?_
      rotate_left 1
      · intro w hSw; (try dsimp only at hSw); go_simp
        all_goals with_reducible rfl
      try simp only [Act.put, List.setIfInBounds_toArray, List.set_cons_zero, List.set_cons_succ, List.getElem_toArray, List.getElem_cons_zero, List.getElem_cons_succ]
      refine wpAnyH_take (i := 9) (v := ?_) rfl (by kernel_rfl) (by kernel_rfl) (by kernel_rfl) (fun _ _ _ h => h) (Or.inl ⟨by rfl, ?_⟩) (by assumption) ?_
      rotate_left 1
      · intro w hSw; (try dsimp only at hSw); go_simp
        all_goals with_reducible rfl
      try simp only [Act.put, List.setIfInBounds_toArray, List.set_cons_zero, List.set_cons_succ, List.getElem_toArray, List.getElem_cons_zero, List.getElem_cons_succ]
      refine wpAnyH_take (i := 10) (v := ?_) rfl (by kernel_rfl) (by kernel_rfl) (by kernel_rfl) (fun _ _ _ h => h) (Or.inl ⟨by rfl, ?_⟩) (by assumption) ?_
      rotate_left 1
      · intro w hSw; (try dsimp only at hSw); go_simp
        all_goals with_reducible rfl
      try simp only [Act.put, List.setIfInBounds_toArray, List.set_cons_zero, List.set_cons_succ, List.getElem_toArray, List.getElem_cons_zero, List.getElem_cons_succ]
      refine wpAnyH_take (i := 11) (v := ?_) rfl (by kernel_rfl) (by kernel_rfl) (by kernel_rfl) (fun _ _ _ h => h) (Or.inl ⟨by rfl, ?_⟩) (by assumption) ?_
      rotate_left 1
      · intro w hSw; (try dsimp only at hSw); go_simp
        all_goals with_reducible rfl
      try simp only [Act.put, List.setIfInBounds_toArray, List.set_cons_zero, List.set_cons_succ, List.getElem_toArray, List.getElem_cons_zero, List.getElem_cons_succ]
      refine wpAnyH_take (i := 12) (v := ?_) rfl (by kernel_rfl) (by kernel_rfl) (by kernel_rfl) (fun _ _ _ h => h) (Or.inl ⟨by rfl, ?_⟩) (by assumption) ?_
      rotate_left 1
      · intro w hSw; (try dsimp only at hSw); go_simp
        all_goals with_reducible rfl
      try simp only [Act.put, List.setIfInBounds_toArray, List.set_cons_zero, List.set_cons_succ, List.getElem_toArray, List.getElem_cons_zero, List.getElem_cons_succ]
      refine wpAnyH_take (i := 13) (v := ?_) rfl (by kernel_rfl) (by kernel_rfl) (by kernel_rfl) (fun _ _ _ h => h) (Or.inl ⟨by rfl, ?_⟩) (by assumption) ?_
      rotate_left 1
      · intro w hSw; (try dsimp only at hSw); go_simp
        all_goals with_reducible rfl
      try simp only [Act.put, List.setIfInBounds_toArray, List.set_cons_zero, List.set_cons_succ, List.getElem_toArray, List.getElem_cons_zero, List.getElem_cons_succ]
      refine wpAnyH_take (i := 14) (v := ?_) rfl (by kernel_rfl) (by kernel_rfl) (by kernel_rfl) (fun _ _ _ h => h) (Or.inl ⟨by rfl, ?_⟩) (by assumption) ?_
      rotate_left 1
      · intro w hSw; (try dsimp only at hSw); go_simp
        all_goals with_reducible rfl
      try simp only [Act.put, List.setIfInBounds_toArray, List.set_cons_zero, List.set_cons_succ, List.getElem_toArray, List.getElem_cons_zero, List.getElem_cons_succ]
      refine wpAnyH_take (i := 15) (v := ?_) rfl (by kernel_rfl) (by kernel_rfl) (by kernel_rfl) (fun _ _ _ h => h) (Or.inl ⟨by rfl, ?_⟩) (by assumption) ?_
      rotate_left 1
      · intro w hSw; (try dsimp only at hSw); go_simp
        all_goals with_reducible rfl
      try simp only [Act.put, List.setIfInBounds_toArray, List.set_cons_zero, List.set_cons_succ, List.getElem_toArray, List.getElem_cons_zero, List.getElem_cons_succ]
      refine wpAnyH_take (i := 16) (v := undef) rfl (by kernel_rfl) (by kernel_rfl) (by kernel_rfl) (fun _ _ _ h => h) (Or.inr ⟨by rfl, rfl⟩) (by assumption) ?_
      try simp only [Act.put, List.setIfInBounds_toArray, List.set_cons_zero, List.set_cons_succ, List.getElem_toArray, List.getElem_cons_zero, List.getElem_cons_succ]
      refine wpAnyH_take (i := 17) (v := undef) rfl (by kernel_rfl) (by kernel_rfl) (by kernel_rfl) (fun _ _ _ h => h) (Or.inr ⟨by rfl, rfl⟩) (by assumption) ?_
      try simp only [Act.put, List.setIfInBounds_toArray, List.set_cons_zero, List.set_cons_succ, List.getElem_toArray, List.getElem_cons_zero, List.getElem_cons_succ]
      refine wpAnyH_take (i := 18) (v := ?_) rfl (by kernel_rfl) (by kernel_rfl) (by kernel_rfl) (fun _ _ _ h => h) (Or.inl ⟨by rfl, ?_⟩) (by assumption) ?_
      rotate_left 1
      · intro w hSw; (try dsimp only at hSw); go_simp
        all_goals with_reducible rfl
      try simp only [Act.put, List.setIfInBounds_toArray, List.set_cons_zero, List.set_cons_succ, List.getElem_toArray, List.getElem_cons_zero, List.getElem_cons_succ]
      refine wpAnyH_take (i := 19) (v := ?_) rfl (by kernel_rfl) (by kernel_rfl) (by kernel_rfl) (fun _ _ _ h => h) (Or.inl ⟨by rfl, ?_⟩) (by assumption) ?_
      rotate_left 1
      · intro w hSw; (try dsimp only at hSw); go_simp
        all_goals with_reducible rfl
      try simp only [Act.put, List.setIfInBounds_toArray, List.set_cons_zero, List.set_cons_succ, List.getElem_toArray, List.getElem_cons_zero, List.getElem_cons_succ]
      refine wpAnyH_take (i := 20) (v := ?_) rfl (by kernel_rfl) (by kernel_rfl) (by kernel_rfl) (fun _ _ _ h => h) (Or.inl ⟨by rfl, ?_⟩) (by assumption) ?_
      rotate_left 1
      · intro w hSw; (try dsimp only at hSw); go_simp
        all_goals with_reducible rfl
      try simp only [Act.put, List.setIfInBounds_toArray, List.set_cons_zero, List.set_cons_succ, List.getElem_toArray, List.getElem_cons_zero, List.getElem_cons_succ]
      refine wpAnyH_take (i := 21) (v := ?_) rfl (by kernel_rfl) (by kernel_rfl) (by kernel_rfl) (fun _ _ _ h => h) (Or.inl ⟨by rfl, ?_⟩) (by assumption) ?_
      rotate_left 1
      · intro w hSw; (try dsimp only at hSw); go_simp
        all_goals with_reducible rfl
      try simp only [Act.put, List.setIfInBounds_toArray, List.set_cons_zero, List.set_cons_succ, List.getElem_toArray, List.getElem_cons_zero, List.getElem_cons_succ]
      refine wpAnyH_take (i := 22) (v := ?_) rfl (by kernel_rfl) (by kernel_rfl) (by kernel_rfl) (fun _ _ _ h => h) (Or.inl ⟨by rfl, ?_⟩) (by assumption) ?_
      rotate_left 1
      · intro w hSw; (try dsimp only at hSw); go_simp
        all_goals with_reducible rfl
      try simp only [Act.put, List.setIfInBounds_toArray, List.set_cons_zero, List.set_cons_succ, List.getElem_toArray, List.getElem_cons_zero, List.getElem_cons_succ]
      refine wpAnyH_take (i := 24) (v := ?_) rfl (by kernel_rfl) (by kernel_rfl) (by kernel_rfl) (fun _ _ _ h => h) (Or.inl ⟨by rfl, ?_⟩) (by assumption) ?_
      rotate_left 1
      · intro w hSw; (try dsimp only at hSw); go_simp
        all_goals with_reducible rfl
      try simp only [Act.put, List.setIfInBounds_toArray, List.set_cons_zero, List.set_cons_succ, List.getElem_toArray, List.getElem_cons_zero, List.getElem_cons_succ]
      refine wpAnyH_take (i := 25) (v := ?_) rfl (by kernel_rfl) (by kernel_rfl) (by kernel_rfl) (fun _ _ _ h => h) (Or.inl ⟨by rfl, ?_⟩) (by assumption) ?_
      rotate_left 1
      · intro w hSw; (try dsimp only at hSw); go_simp
        all_goals with_reducible rfl
      try simp only [Act.put, List.setIfInBounds_toArray, List.set_cons_zero, List.set_cons_succ, List.getElem_toArray, List.getElem_cons_zero, List.getElem_cons_succ]
      refine wpAnyH_ready (rs := [23]) (by kernel_rfl) (by simp) ?_
      refine AllReadyH.cons rfl (fun K hK => ?_) ?_
      rotate_left 1
      · exact AllReadyH.nil
      go_simp
      (go_at_call 17; refine (cU _ (PrintTabs_below HPT.out (by first | with_reducible exact q4 | with_reducible exact (q4).drew | with_reducible exact below_drewN (q4) _))).mono ?_; rintro e w6 ⟨rfl, hb6⟩; have hBx6 : Boxed w6 w.heap.size G := Boxed.below (by first | with_reducible exact HBx4.out | with_reducible exact (HBx4.out).drew | with_reducible exact (HBx4.out).drewN _) hb6; have q6 : Below w.heap.size w w6 := (by first | with_reducible exact (q4).trans ((hb6).mono (q4).size) | with_reducible exact (q4).drew.trans ((hb6).mono (q4).size) | with_reducible exact (below_drewN (q4) _).trans ((hb6).mono (q4).size)))
      refine hK.out _ _ (by first | exact boxed_pl hBx6 Hp.out | (dsimp only; exact boxed_pl hBx6 Hp.out)) (fun hHeld => ?_)
      clear hK K
      try simp only [Act.put, List.setIfInBounds_toArray, List.set_cons_zero, List.set_cons_succ, List.getElem_toArray, List.getElem_cons_zero, List.getElem_cons_succ]
      refine wpAnyH_ready (rs := [26]) (by kernel_rfl) (by simp) ?_
      refine AllReadyH.cons rfl (fun K hK => ?_) ?_
      rotate_left 1
      · exact AllReadyH.nil
      go_simp
      (go_at_call 14; refine (cP _).mono ?_; rintro e w7 ⟨rfl, hb7⟩; have hBx7 : Boxed w7 w.heap.size G := Boxed.below (by first | with_reducible exact hBx6 | with_reducible exact (hBx6).drew | with_reducible exact (hBx6).drewN _) hb7; have q7 : Below w.heap.size w w7 := (by first | with_reducible exact (q6).trans ((hb7).mono (q6).size) | with_reducible exact (q6).drew.trans ((hb7).mono (q6).size) | with_reducible exact (below_drewN (q6) _).trans ((hb7).mono (q6).size)))
      refine hK.out _ _ (by first | exact boxed_pl hBx7 Hp.out | (dsimp only; exact boxed_pl hBx7 Hp.out)) (fun hHeld => ?_)
      clear hK K
      try simp only [Act.put, List.setIfInBounds_toArray, List.set_cons_zero, List.set_cons_succ, List.getElem_toArray, List.getElem_cons_zero, List.getElem_cons_succ]
      refine wpAnyH_take (i := 27) (v := ?_) rfl (by kernel_rfl) (by kernel_rfl) (by kernel_rfl) (fun _ _ _ h => h) (Or.inl ⟨by rfl, ?_⟩) (by assumption) ?_
      rotate_left 1
      · intro w hSw; (try dsimp only at hSw); go_simp
        all_goals with_reducible rfl
      try simp only [Act.put, List.setIfInBounds_toArray, List.set_cons_zero, List.set_cons_succ, List.getElem_toArray, List.getElem_cons_zero, List.getElem_cons_succ]
      refine wpAnyH_take (i := 28) (v := ?_) rfl (by kernel_rfl) (by kernel_rfl) (by kernel_rfl) (fun _ _ _ h => h) (Or.inl ⟨by rfl, ?_⟩) (by assumption) ?_
      rotate_left 1
      · intro w hSw; (try dsimp only at hSw); go_simp
        all_goals with_reducible rfl
      try simp only [Act.put, List.setIfInBounds_toArray, List.set_cons_zero, List.set_cons_succ, List.getElem_toArray, List.getElem_cons_zero, List.getElem_cons_succ]
      refine wpAnyH_take (i := 29) (v := ?_) rfl (by kernel_rfl) (by kernel_rfl) (by kernel_rfl) (fun _ _ _ h => h) (Or.inl ⟨by rfl, ?_⟩) (by assumption) ?_
      rotate_left 1
      · intro w hSw; (try dsimp only at hSw); go_simp
        all_goals with_reducible rfl
      try simp only [Act.put, List.setIfInBounds_toArray, List.set_cons_zero, List.set_cons_succ, List.getElem_toArray, List.getElem_cons_zero, List.getElem_cons_succ]
      refine wpAnyH_done (by kernel_rfl) ?_ _
      go_wp2
      go_ret
      refine ⟨rfl, ?_⟩
      exact (by first | with_reducible exact q7 | with_reducible exact (q7).drew | with_reducible exact below_drewN (q7) _)
    · have cU := HU.out
      have cP := HP.out
      rw [hp] at x5 cU cP
      have cA := HA.out hp
      have Hp := Lib.hid hp
      clear HU HP hp HA
      go_region_held3 (fun w' => w'.cell? ⟨w.heap.size, 0, none⟩ = some (.int .i64 G.wid) ∧ w'.cell? ⟨w.heap.size, 1, none⟩ = some (.int .i64 G.prec) ∧ w'.cell? ⟨w.heap.size, 2, none⟩ = some (.bool G.hw) ∧ w'.cell? ⟨w.heap.size, 3, none⟩ = some (.bool G.hp) ∧ w'.cell? ⟨w.heap.size, 4, none⟩ = some (.bool G.mi) ∧ w'.cell? ⟨w.heap.size, 5, none⟩ = some (.bool true) ∧ w'.cell? ⟨w.heap.size, 6, none⟩ = some (.bool G.sh) ∧ w'.cell? ⟨w.heap.size, 7, none⟩ = some (.bool G.sp) ∧ w'.cell? ⟨w.heap.size, 8, none⟩ = some (.bool G.ze)) (first | exact boxed_pl hBx7 Hp.out | exact boxed_pl hBx6 Hp.out | exact boxed_pl HBx4.out Hp.out) (first | (go_at_call 19; refine (cA _).mono ?_; rintro e w5 ⟨rfl, rfl⟩) | (go_at_call 17; refine (cU _ (PrintTabs_below HPT.out (by first | with_reducible exact q7 | with_reducible exact (q7).drew | with_reducible exact below_drewN (q7) _ | with_reducible exact q4 | with_reducible exact (q4).drew | with_reducible exact below_drewN (q4) _))).mono ?_; rintro e w6 ⟨rfl, hb6⟩; have hBx6 : Boxed w6 w.heap.size G := Boxed.below (by first | with_reducible exact hBx7 | with_reducible exact (hBx7).drew | with_reducible exact (hBx7).drewN _ | with_reducible exact HBx4.out | with_reducible exact (HBx4.out).drew | with_reducible exact (HBx4.out).drewN _) hb6; have q6 : Below w.heap.size w w6 := (by first | with_reducible exact (q7).trans ((hb6).mono (q7).size) | with_reducible exact (q7).drew.trans ((hb6).mono (q7).size) | with_reducible exact (below_drewN (q7) _).trans ((hb6).mono (q7).size) | with_reducible exact (q4).trans ((hb6).mono (q4).size) | with_reducible exact (q4).drew.trans ((hb6).mono (q4).size) | with_reducible exact (below_drewN (q4) _).trans ((hb6).mono (q4).size))) | (go_at_call 14; refine (cP _).mono ?_; rintro e w7 ⟨rfl, hb7⟩; have hBx7 : Boxed w7 w.heap.size G := Boxed.below (by first | with_reducible exact hBx6 | with_reducible exact (hBx6).drew | with_reducible exact (hBx6).drewN _ | with_reducible exact HBx4.out | with_reducible exact (HBx4.out).drew | with_reducible exact (HBx4.out).drewN _) hb7; have q7 : Below w.heap.size w w7 := (by first | with_reducible exact (q6).trans ((hb7).mono (q6).size) | with_reducible exact (q6).drew.trans ((hb7).mono (q6).size) | with_reducible exact (below_drewN (q6) _).trans ((hb7).mono (q6).size) | with_reducible exact (q4).trans ((hb7).mono (q4).size) | with_reducible exact (q4).drew.trans ((hb7).mono (q4).size) | with_reducible exact (below_drewN (q4) _).trans ((hb7).mono (q4).size))))
      all_goals (
        go_wp2
        go_ret
        refine ⟨rfl, ?_⟩
        exact (by first | with_reducible exact q7 | with_reducible exact (q7).drew | with_reducible exact below_drewN (q7) _ | with_reducible exact q6 | with_reducible exact (q6).drew | with_reducible exact below_drewN (q6) _))

end Go.Proofs.YtdadbfehackfjaaDoor
