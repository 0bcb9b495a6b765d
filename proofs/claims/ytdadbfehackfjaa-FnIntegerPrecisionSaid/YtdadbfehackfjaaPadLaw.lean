/- FnPad: a text is filled up to the width, as a string and as bytes: the walk of the law returns true at every flags and every string. No condition. -/
import Derived.Test.YtdadbfehackfjaaPad
set_option linter.unusedVariables false
set_option linter.unusedSimpArgs false
namespace Go.Proofs.Ytdadbfehackfjaa
open Go.RowKit Go.Deep

set_option maxHeartbeats 2000000 in
set_option maxRecDepth 100000 in
theorem fnPad_any (F : Fl) (s : ByteArray) (w : World) (h0 : -9223372036854775808 ≤ F.wid) (h1 : F.wid ≤ 9223372036854775807) (h2 : -9223372036854775808 ≤ F.prec) (h3 : F.prec ≤ 9223372036854775807) (hs : s.size ≤ 9223372036854775807) :
    Calls Try.prog 5 #[(.agg #[.int .i64 F.wid, .int .i64 F.prec, .bool F.hw, .bool F.hp, .bool F.mi, .bool F.pl, .bool F.sh, .bool F.sp, .bool F.ze]), .string s] w fun e w' => e = .returned (.bool true) ∧ Below w.heap.size w w' := by
  by_cases hbig : 2147483647 < s.size
  · have hbig' : (2147483647 : Int) < (s.size : Int) := by omega
    go_enter Try.func5, Try.ntmps5
    go_wp2
    go_ret
    exact ⟨rfl, (by repeat (first | (with_reducible refine Below.drew ?_) | (with_reducible refine below_drewN ?_ _) | (with_reducible refine Below.alloc ?_ (by first | (simp; done) | (simp; omega)) _) | (with_reducible refine Below.setCell ?_ (by first | (simp; done) | (simp; omega)) _) | with_reducible exact Below.refl _ _))⟩
  · have hbig' : (s.size : Int) ≤ 2147483647 := by omega
    have hok := clean_ok F
    have cC := fun W => clean_any F W h0 h1 h2 h3
    obtain ⟨G, hG⟩ : ∃ G, F.clean = G := ⟨_, rfl⟩
    rw [hG] at hok cC
    clear hG h0 h1 h2 h3
    have cP := fun W => specPad_any G s W hok (by omega)
    have cS := fun W => padString_any G hok s W (by omega)
    have cB := fun W A c (hr : Rd W A s) (hc : s.size ≤ c) => padBytes_any G hok s A c W hr hc (by omega)
    obtain ⟨R, hR⟩ : ∃ R, padOf G s = R := ⟨_, rfl⟩
    rw [hR] at cP cS cB
    clear hR
    go_enter Try.func5, Try.ntmps5
    go_wp2_with (go_at_call 11; refine (cC _).mono ?_; rintro e w1 ⟨rfl, hb1⟩; obtain ⟨hc1, hf1⟩ := bcell hb1)
    have hBx : Boxed (refilled w1 w.heap.size G) w.heap.size G := Boxed.refill (F := F) (Boxed.below (by unfold Boxed; simp) hb1) G
    have hBl : Below w.heap.size w (refilled w1 w.heap.size G) := below_refilled (Below.trans (by repeat (first | (with_reducible refine Below.drew ?_) | (with_reducible refine below_drewN ?_ _) | (with_reducible refine Below.alloc ?_ (by first | (simp; done) | (simp; omega)) _) | (with_reducible refine Below.setCell ?_ (by first | (simp; done) | (simp; omega)) _) | with_reducible exact Below.refl _ _)) (hb1.mono (by first | (simp; done) | (simp; omega)))) (Nat.le_refl _) G
    change Calls _ _ _ (refilled w1 w.heap.size G) _
    generalize refilled w1 w.heap.size G = W at *
    clear hb1 hc1 hf1
    obtain ⟨x0, x1, x2, x3, x4, x5, x6, x7, x8⟩ := id hBx
    have HBx := Lib.hid hBx
    clear hBx
    refine (cP W).mono ?_
    rintro e w2 ⟨rfl, hb2⟩
    have hBx2 : Boxed w2 w.heap.size G := HBx.out.below hb2
    obtain ⟨y0, y1, y2, y3, y4, y5, y6, y7, y8⟩ := id hBx2
    have q2 : Below w.heap.size w w2 := (by first | exact (hBl).trans ((hb2).mono (hBl).size) | exact (hBl).drew.trans ((hb2).mono (hBl).size) | exact (below_drewN (hBl) _).trans ((hb2).mono (hBl).size))
    go_wp2_with (first | (go_at_call 16; refine (cS _).mono ?_; rintro e w3 ⟨rfl, hb3⟩; have q3 : Below w.heap.size w w3 := (by first | exact (q2).trans ((hb3).mono (q2).size) | exact (q2).drew.trans ((hb3).mono (q2).size) | exact (below_drewN (q2) _).trans ((hb3).mono (q2).size)); have hBx3 : Boxed w3 w.heap.size G := hBx2.below hb3; obtain ⟨z0, z1, z2, z3, z4, z5, z6, z7, z8⟩ := id hBx3; obtain ⟨c4, w4, hcv4, hc4, hb4, hr4⟩ := conv_bytes w3 s; have q4 : Below w.heap.size w w4 := (by first | exact (q3).trans ((hb4).mono (q3).size) | exact (q3).drew.trans ((hb4).mono (q3).size) | exact (below_drewN (q3) _).trans ((hb4).mono (q3).size)); have HR4 := Lib.hid hr4; clear hr4) | (go_at_call 17; refine (cB _ _ _ HR4.out hc4).mono ?_; rintro e w5 ⟨v5, rfl, hcv5, hb5⟩; have q5 : Below w.heap.size w w5 := (by first | exact (q4).trans ((hb5).mono (q4).size) | exact (q4).drew.trans ((hb5).mono (q4).size) | exact (below_drewN (q4) _).trans ((hb5).mono (q4).size))))
    go_ret
    exact ⟨rfl, q5⟩

end Go.Proofs.Ytdadbfehackfjaa
