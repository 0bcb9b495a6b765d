/- FnInteger: every integer is written in its base as the documentation says: the walk of the law returns true at every flags, every number and every choice of base and verb. No condition. -/
import Derived.Test.YtdadbfehackfjaaIntPlain
import Derived.Test.YtdadbfehackfjaaPadLaw
set_option linter.unusedVariables false
set_option linter.unusedSimpArgs false
namespace Go.Proofs.Ytdadbfehackfjaa
open Go.RowKit Go.Deep

theorem int_law (F : Fl) (hF : F.Ok) (sg : Bool) (u b : Nat) (O U : Bool) (hu : (u : Int) ≤ 18446744073709551615) (hb : b = 2 ∨ b = 8 ∨ b = 10 ∨ b = 16) :
    ∃ (R : ByteArray) (V : Bool), ((V = false ∧ R = ⟨#[]⟩ ∧ (opnOf F b u O = true ∨ (zerOf F = true ∧ 0 < (headOf F.sh b O U).size))) ∨ (V = true ∧ opnOf F b u O = false ∧ ((zerOf F = true ∧ headOf F.sh b O U = ⟨#[]⟩ ∧ R = signOf F (negOf sg u) ⟨#[]⟩ ++ fill 48 (F.wid - (signOf F (negOf sg u) ⟨#[]⟩).size - (digB b U (magOf sg u)).size).toNat ++ digB b U (magOf sg u)) ∨ (zerOf F = false ∧ R = padOf F (signOf F (negOf sg u) ⟨#[]⟩ ++ headOf F.sh b O U ++ digB b U (magOf sg u)))))) ∧ (V = true → R = outOf F sg u b O U) := by
  cases ho : opnOf F b u O
  · have hp : F.hp = false := by
      unfold opnOf at ho
      simp only [Bool.or_eq_false_iff] at ho
      exact ho.1.1
    cases hz : zerOf F
    · exact ⟨_, true, .inr ⟨rfl, rfl, .inr ⟨rfl, rfl⟩⟩, fun _ => (int_law_pad F hF sg u b O U hu hb ho hz).symm⟩
    · by_cases hh : 0 < (headOf F.sh b O U).size
      · exact ⟨_, false, .inl ⟨rfl, rfl, .inr ⟨rfl, hh⟩⟩, fun h => by cases h⟩
      · have hh0 := empty_of_size (headOf F.sh b O U) (by omega)
        exact ⟨_, true, .inr ⟨rfl, rfl, .inl ⟨rfl, hh0, rfl⟩⟩, fun _ => (int_law_zero F hF sg u b O U hb hp hz hh0).symm⟩
  · exact ⟨_, false, .inl ⟨rfl, rfl, .inl rfl⟩, fun h => by cases h⟩

set_option maxHeartbeats 4000000 in
set_option maxRecDepth 100000 in
theorem fnInteger_any (F : Fl) (ui k : Int) (sg up ot : Bool) (w : World) (h0 : -9223372036854775808 ≤ F.wid) (h1 : F.wid ≤ 9223372036854775807) (h2 : -9223372036854775808 ≤ F.prec) (h3 : F.prec ≤ 9223372036854775807) (hu0 : 0 ≤ ui) (hu1 : ui ≤ 18446744073709551615) (hk0 : -9223372036854775808 ≤ k) (hk1 : k ≤ 9223372036854775807) :
    Calls Try.prog 8 #[(.agg #[.int .i64 F.wid, .int .i64 F.prec, .bool F.hw, .bool F.hp, .bool F.mi, .bool F.pl, .bool F.sh, .bool F.sp, .bool F.ze]), .int .u64 ui, .int .i64 k, .bool sg, .bool up, .bool ot] w fun e w' => e = .returned (.bool true) ∧ Below w.heap.size w w' := by
  obtain ⟨u, rfl⟩ : ∃ u : Nat, ui = (u : Int) := ⟨ui.toNat, by omega⟩
  have hok := clean_ok F
  have cC := fun W => clean_any F W h0 h1 h2 h3
  obtain ⟨G, hG⟩ : ∃ G, F.clean = G := ⟨_, rfl⟩
  rw [hG] at hok cC
  clear hG h0 h1 h2 h3
  have cB := fun W => base_any k W hk0 hk1
  have hb := baseOf_or k
  obtain ⟨b, hbe⟩ : ∃ b, baseOf k = b := ⟨_, rfl⟩
  rw [hbe] at cB hb
  have cV := fun W => verb_any b hb up ot W
  have hv := vbOf_O b up ot
  have hvl := vbOf_le b up ot
  obtain ⟨vb, hvb⟩ : ∃ v, vbOf b up ot = v := ⟨_, rfl⟩
  rw [hvb] at cV hv hvl
  have hO : (decide (b = 8) && ot) = true → b = 8 := by intro h; simp at h; exact h.1
  obtain ⟨O, hOe⟩ : ∃ O, (decide (b = 8) && ot) = O := ⟨_, rfl⟩
  rw [hOe] at hv hO
  obtain ⟨R, V, hR, hRV⟩ := int_law G hok sg u b O up hu1 hb
  have cS := fun W => specInteger_any G hok u hu1 b hb sg vb O up hv R V hR W
  have cI := fun W => integer_any G hok u hu1 b hb sg vb hvl.1 hvl.2 O up hv hO W
  clear hbe hvb hOe hR hv hO hvl hk0 hk1 hb
  cases V
  · simp only [Bool.false_eq_true, if_false] at cS
    clear hRV cI
    go_enter Try.func8, Try.ntmps8
    go_wp2_with (go_at_call 11; refine (cC _).mono ?_; rintro e w1 ⟨rfl, hb1⟩; obtain ⟨hc1, hf1⟩ := bcell hb1)
    have hBx : Boxed (refilled w1 w.heap.size G) w.heap.size G := Boxed.refill (F := F) (Boxed.below (by unfold Boxed; simp) hb1) G
    have hBl : Below w.heap.size w (refilled w1 w.heap.size G) := below_refilled (Below.trans (by repeat (first | (with_reducible refine Below.drew ?_) | (with_reducible refine below_drewN ?_ _) | (with_reducible refine Below.alloc ?_ (by first | (simp; done) | (simp; omega)) _) | (with_reducible refine Below.setCell ?_ (by first | (simp; done) | (simp; omega)) _) | with_reducible exact Below.refl _ _)) (hb1.mono (by first | (simp; done) | (simp; omega)))) (Nat.le_refl _) G
    change Calls _ _ _ (refilled w1 w.heap.size G) _
    generalize refilled w1 w.heap.size G = W at *
    clear hb1 hc1 hf1
    refine (cB W).mono ?_
    rintro e w2 ⟨rfl, hb2⟩
    have hBx2 : Boxed w2 w.heap.size G := hBx.below hb2
    obtain ⟨y0, y1, y2, y3, y4, y5, y6, y7, y8⟩ := id hBx2
    have q2 : Below w.heap.size w w2 := (by first | exact (hBl).trans ((hb2).mono (hBl).size) | exact (hBl).drew.trans ((hb2).mono (hBl).size) | exact (below_drewN (hBl) _).trans ((hb2).mono (hBl).size))
    clear hBx hBx2 hb2
    go_wp2_with (first | (go_at_call 25; refine (cV _).mono ?_; rintro e w' ⟨rfl, rfl⟩) | (go_at_call 26; refine (cS _).mono ?_; rintro e w3 ⟨rfl, hb3⟩; have q3 : Below w.heap.size w w3 := (by first | exact (q2).trans ((hb3).mono (q2).size) | exact (q2).drew.trans ((hb3).mono (q2).size) | exact (below_drewN (q2) _).trans ((hb3).mono (q2).size))))
    go_ret
    exact ⟨rfl, q3⟩
  · simp only [if_true] at cS
    rw [← hRV rfl] at cI
    clear hRV
    go_enter Try.func8, Try.ntmps8
    go_wp2_with (go_at_call 11; refine (cC _).mono ?_; rintro e w1 ⟨rfl, hb1⟩; obtain ⟨hc1, hf1⟩ := bcell hb1)
    have hBx : Boxed (refilled w1 w.heap.size G) w.heap.size G := Boxed.refill (F := F) (Boxed.below (by unfold Boxed; simp) hb1) G
    have hBl : Below w.heap.size w (refilled w1 w.heap.size G) := below_refilled (Below.trans (by repeat (first | (with_reducible refine Below.drew ?_) | (with_reducible refine below_drewN ?_ _) | (with_reducible refine Below.alloc ?_ (by first | (simp; done) | (simp; omega)) _) | (with_reducible refine Below.setCell ?_ (by first | (simp; done) | (simp; omega)) _) | with_reducible exact Below.refl _ _)) (hb1.mono (by first | (simp; done) | (simp; omega)))) (Nat.le_refl _) G
    change Calls _ _ _ (refilled w1 w.heap.size G) _
    generalize refilled w1 w.heap.size G = W at *
    clear hb1 hc1 hf1
    refine (cB W).mono ?_
    rintro e w2 ⟨rfl, hb2⟩
    have hBx2 : Boxed w2 w.heap.size G := hBx.below hb2
    obtain ⟨y0, y1, y2, y3, y4, y5, y6, y7, y8⟩ := id hBx2
    have q2 : Below w.heap.size w w2 := (by first | exact (hBl).trans ((hb2).mono (hBl).size) | exact (hBl).drew.trans ((hb2).mono (hBl).size) | exact (below_drewN (hBl) _).trans ((hb2).mono (hBl).size))
    clear hBx hb2
    go_wp2_with (first | (go_at_call 25; refine (cV _).mono ?_; rintro e w' ⟨rfl, rfl⟩) | (go_at_call 26; refine (cS _).mono ?_; rintro e w3 ⟨rfl, hb3⟩; have q3 : Below w.heap.size w w3 := (by first | exact (q2).trans ((hb3).mono (q2).size) | exact (q2).drew.trans ((hb3).mono (q2).size) | exact (below_drewN (q2) _).trans ((hb3).mono (q2).size)); have hBx3 : Boxed w3 w.heap.size G := hBx2.below hb3; obtain ⟨z0, z1, z2, z3, z4, z5, z6, z7, z8⟩ := id hBx3) | (go_at_call 27; refine (cI _).mono ?_; rintro e w4 ⟨rfl, hb4⟩; have q4 : Below w.heap.size w w4 := (by first | exact (q3).trans ((hb4).mono (q3).size) | exact (q3).drew.trans ((hb4).mono (q3).size) | exact (below_drewN (q3) _).trans ((hb4).mono (q3).size))))
    go_ret
    exact ⟨rfl, q4⟩

end Go.Proofs.Ytdadbfehackfjaa
