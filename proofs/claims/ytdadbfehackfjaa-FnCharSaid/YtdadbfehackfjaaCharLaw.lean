/- FnChar: a code point is written as UTF-8, filled up to the width: the walk of the law returns true at every flags and every number. No condition. -/
import Derived.Test.YtdadbfehackfjaaChar
import Derived.Deep.RegionHeld3
set_option linter.unusedVariables false
set_option linter.unusedSimpArgs false
namespace Go.Proofs.Ytdadbfehackfjaa
open Go.RowKit Go.Deep

set_option maxHeartbeats 2000000 in
set_option maxRecDepth 100000 in
theorem fnChar_any (F : Fl) (c : Int) (w : World) (h0 : -9223372036854775808 ≤ F.wid) (h1 : F.wid ≤ 9223372036854775807) (h2 : -9223372036854775808 ≤ F.prec) (h3 : F.prec ≤ 9223372036854775807) (hc0 : 0 ≤ c) (hc1 : c ≤ 18446744073709551615) :
    Calls Try.prog 6 #[(.agg #[.int .i64 F.wid, .int .i64 F.prec, .bool F.hw, .bool F.hp, .bool F.mi, .bool F.pl, .bool F.sh, .bool F.sp, .bool F.ze]), .int .u64 c] w fun e w' => e = .returned (.bool true) ∧ Below w.heap.size w w' := by
  have hok := clean_ok F
  have cC := fun W => clean_any F W h0 h1 h2 h3
  obtain ⟨G, hG⟩ : ∃ G, F.clean = G := ⟨_, rfl⟩
  rw [hG] at hok cC
  clear hG h0 h1 h2 h3
  have cS := fun W => scalar_any c hc0 hc1 W
  by_cases hsc : c < 55296 ∨ 57343 < c ∧ c ≤ 1114111
  · rw [decide_eq_true hsc] at cS
    have cB := fun W => char_any G hok c hc0 (by omega) W
    have cE := fun W => encoded_any c hc0 (by omega) (by omega) W
    have cP := fun W => specPad_any G (enc c) W hok (by have := enc_le c; omega)
    obtain ⟨R, hR⟩ : ∃ R, padOf G (enc c) = R := ⟨_, rfl⟩
    obtain ⟨t, ht⟩ : ∃ t, enc c = t := ⟨_, rfl⟩
    rw [hR] at cB cP
    rw [ht] at cE cP
    have hcw : IntKind.i64.wrap c = c := by rw [IntKind.wrap_i64]; omega
    clear hR ht hsc hc1
    go_enter Try.func6, Try.ntmps6
    go_wp2_with (go_at_call 11; refine (cC _).mono ?_; rintro e w1 ⟨rfl, hb1⟩; obtain ⟨hc1, hf1⟩ := bcell hb1)
    have hBx : Boxed (refilled w1 w.heap.size G) w.heap.size G := Boxed.refill (F := F) (Boxed.below (by unfold Boxed; simp) hb1) G
    have hBl : Below w.heap.size w (refilled w1 w.heap.size G) := below_refilled (Below.trans (by repeat (first | (with_reducible refine Below.drew ?_) | (with_reducible refine below_drewN ?_ _) | (with_reducible refine Below.alloc ?_ (by first | (simp; done) | (simp; omega)) _) | (with_reducible refine Below.setCell ?_ (by first | (simp; done) | (simp; omega)) _) | with_reducible exact Below.refl _ _)) (hb1.mono (by first | (simp; done) | (simp; omega)))) (Nat.le_refl _) G
    change Code.wp _ _ _ _ (refilled w1 w.heap.size G)
    generalize refilled w1 w.heap.size G = W at *
    clear hb1 hc1 hf1
    obtain ⟨x0, x1, x2, x3, x4, x5, x6, x7, x8⟩ := id hBx
    have HBx := Lib.hid hBx
    clear hBx
    go_region_held3 (fun w' => w'.cell? ⟨w.heap.size, 0, none⟩ = some (.int .i64 G.wid) ∧ w'.cell? ⟨w.heap.size, 1, none⟩ = some (.int .i64 G.prec) ∧ w'.cell? ⟨w.heap.size, 2, none⟩ = some (.bool G.hw) ∧ w'.cell? ⟨w.heap.size, 3, none⟩ = some (.bool G.hp) ∧ w'.cell? ⟨w.heap.size, 4, none⟩ = some (.bool G.mi) ∧ w'.cell? ⟨w.heap.size, 5, none⟩ = some (.bool G.pl) ∧ w'.cell? ⟨w.heap.size, 6, none⟩ = some (.bool G.sh) ∧ w'.cell? ⟨w.heap.size, 7, none⟩ = some (.bool G.sp) ∧ w'.cell? ⟨w.heap.size, 8, none⟩ = some (.bool G.ze)) (first | exact hBx4 | exact hBx3 | exact hBx2 | exact HBx.out) (first | (go_at_call 18; refine (cS _).mono ?_; rintro e w2 ⟨rfl, rfl⟩) | (go_at_call 19; refine (cB _).mono ?_; rintro e w2 ⟨rfl, hb2⟩; have hBx2 : Boxed w2 w.heap.size G := Boxed.below (by first | with_reducible exact hBx4 | with_reducible exact (hBx4).drew | with_reducible exact (hBx4).drewN _ | with_reducible exact hBx3 | with_reducible exact (hBx3).drew | with_reducible exact (hBx3).drewN _ | with_reducible exact HBx.out | with_reducible exact (HBx.out).drew | with_reducible exact (HBx.out).drewN _) hb2; have q2 : Below w.heap.size w w2 := (by first | with_reducible exact (q4).trans ((hb2).mono (q4).size) | with_reducible exact (q4).drew.trans ((hb2).mono (q4).size) | with_reducible exact (below_drewN (q4) _).trans ((hb2).mono (q4).size) | with_reducible exact (q3).trans ((hb2).mono (q3).size) | with_reducible exact (q3).drew.trans ((hb2).mono (q3).size) | with_reducible exact (below_drewN (q3) _).trans ((hb2).mono (q3).size) | with_reducible exact (hBl).trans ((hb2).mono (hBl).size) | with_reducible exact (hBl).drew.trans ((hb2).mono (hBl).size) | with_reducible exact (below_drewN (hBl) _).trans ((hb2).mono (hBl).size))) | (go_at_call 20; refine (cE _).mono ?_; rintro e w3 ⟨rfl, hb3⟩; have hBx3 : Boxed w3 w.heap.size G := Boxed.below (by first | with_reducible exact hBx2 | with_reducible exact (hBx2).drew | with_reducible exact (hBx2).drewN _ | with_reducible exact HBx.out | with_reducible exact (HBx.out).drew | with_reducible exact (HBx.out).drewN _) hb3; have q3 : Below w.heap.size w w3 := (by first | with_reducible exact (q2).trans ((hb3).mono (q2).size) | with_reducible exact (q2).drew.trans ((hb3).mono (q2).size) | with_reducible exact (below_drewN (q2) _).trans ((hb3).mono (q2).size) | with_reducible exact (hBl).trans ((hb3).mono (hBl).size) | with_reducible exact (hBl).drew.trans ((hb3).mono (hBl).size) | with_reducible exact (below_drewN (hBl) _).trans ((hb3).mono (hBl).size))) | (go_at_call 15; refine (cP _).mono ?_; rintro e w4 ⟨rfl, hb4⟩; have hBx4 : Boxed w4 w.heap.size G := Boxed.below (by first | with_reducible exact hBx3 | with_reducible exact (hBx3).drew | with_reducible exact (hBx3).drewN _ | with_reducible exact hBx2 | with_reducible exact (hBx2).drew | with_reducible exact (hBx2).drewN _) hb4; have q4 : Below w.heap.size w w4 := (by first | with_reducible exact (q2).trans ((hb4).mono (q2).size) | with_reducible exact (q2).drew.trans ((hb4).mono (q2).size) | with_reducible exact (below_drewN (q2) _).trans ((hb4).mono (q2).size) | with_reducible exact (q3).trans ((hb4).mono (q3).size) | with_reducible exact (q3).drew.trans ((hb4).mono (q3).size) | with_reducible exact (below_drewN (q3) _).trans ((hb4).mono (q3).size))))
    all_goals (
      go_wp2
      go_ret
      exact ⟨rfl, (by first | with_reducible exact q4 | with_reducible exact (q4).drew | with_reducible exact below_drewN (q4) _ | with_reducible exact q2 | with_reducible exact (q2).drew | with_reducible exact below_drewN (q2) _)⟩)
  · rw [decide_eq_false hsc] at cS
    clear hsc hc0 hc1
    go_enter Try.func6, Try.ntmps6
    go_wp2_with (go_at_call 11; refine (cC _).mono ?_; rintro e w1 ⟨rfl, hb1⟩; obtain ⟨hc1, hf1⟩ := bcell hb1)
    have hBx : Boxed (refilled w1 w.heap.size G) w.heap.size G := Boxed.refill (F := F) (Boxed.below (by unfold Boxed; simp) hb1) G
    have hBl : Below w.heap.size w (refilled w1 w.heap.size G) := below_refilled (Below.trans (by repeat (first | (with_reducible refine Below.drew ?_) | (with_reducible refine below_drewN ?_ _) | (with_reducible refine Below.alloc ?_ (by first | (simp; done) | (simp; omega)) _) | (with_reducible refine Below.setCell ?_ (by first | (simp; done) | (simp; omega)) _) | with_reducible exact Below.refl _ _)) (hb1.mono (by first | (simp; done) | (simp; omega)))) (Nat.le_refl _) G
    change Code.wp _ _ _ _ (refilled w1 w.heap.size G)
    generalize refilled w1 w.heap.size G = W at *
    clear hb1 hc1 hf1
    obtain ⟨x0, x1, x2, x3, x4, x5, x6, x7, x8⟩ := id hBx
    have HBx := Lib.hid hBx
    clear hBx
    go_quiet ((go_at_call 18; exact quiet_left (cS _)))
    go_wp2
    go_ret
    exact ⟨rfl, (by first | with_reducible exact hBl | with_reducible exact (hBl).drew | with_reducible exact below_drewN (hBl) _)⟩

end Go.Proofs.Ytdadbfehackfjaa
