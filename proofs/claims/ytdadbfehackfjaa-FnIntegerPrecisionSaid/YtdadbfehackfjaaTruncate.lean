/- FnTruncate: a string is cut to as many code points as the precision says, if there is one: the walk of the law returns true at every flags and every string. No condition. -/
import Derived.Test.YtdadbfehackfjaaMake
set_option linter.unusedVariables false
set_option linter.unusedSimpArgs false
namespace Go.Proofs.Ytdadbfehackfjaa
open Go.RowKit Go.Deep

theorem bcell {W w1 : World} (hb : Below W.heap.size W w1) : (∀ b o, b < W.heap.size → w1.cell? ⟨b, o, none⟩ = W.cell? ⟨b, o, none⟩) ∧ (∀ b o, b < W.heap.size → w1.frozen? ⟨b, o, none⟩ = W.frozen? ⟨b, o, none⟩) :=
  ⟨fun b o h => hb.cell (p := ⟨b, o, none⟩) h, fun b o h => hb.frozen (p := ⟨b, o, none⟩) h⟩

set_option maxHeartbeats 2000000 in
set_option maxRecDepth 100000 in
theorem zzTruncate_any (F : Fl) (hF : F.Ok) (t : ByteArray) (w : World) (ht : t.size ≤ 274877906944) :
    Calls Try.prog 32 #[(.agg #[.int .i64 F.wid, .int .i64 F.prec, .bool F.hw, .bool F.hp, .bool F.mi, .bool F.pl, .bool F.sh, .bool F.sp, .bool F.ze, .bool false, .bool false]), .string t] w fun e w' => e = .returned (.string (if F.hp then t.extract 0 (fwd t F.prec.toNat 0) else t)) ∧ Below w.heap.size w w' := by
  obtain ⟨R, hR⟩ : ∃ R, (if F.hp then t.extract 0 (fwd t F.prec.toNat 0) else t) = R := ⟨_, rfl⟩
  have cT := fun (W : World) o f I h => @ts_any W o f F I h hF t (by omega)
  rw [hR] at cT ⊢
  clear hR
  obtain ⟨n, hn⟩ : ∃ n, n = w.heap.size + 1 + 1 + 1 := ⟨_, rfl⟩
  have HN := Lib.hid hn
  clear hn
  go_enter Try.func32, Try.ntmps32
  go_wp2_with (first | (go_at_call 45; refine (zzFmt_any F _ _ n (by rw [HN.out]; simp) (by simp)).mono ?_; rintro e w1 ⟨rfl, hb1, hf1⟩) | (go_at_call 46; refine (cT _ _ _ _ hf1).mono ?_; rintro e w2 ⟨rfl, hb2⟩))
  go_ret
  refine ⟨rfl, ?_⟩
  refine Below.trans ?_ (hb2.mono (by have := hb1.size; simp at this; omega))
  exact Below.trans (by repeat (first | (with_reducible refine Below.drew ?_) | (with_reducible refine below_drewN ?_ _) | (with_reducible refine Below.alloc ?_ (by first | (simp; done) | (simp; omega)) _) | (with_reducible refine Below.setCell ?_ (by first | (simp; done) | (simp; omega)) _) | with_reducible exact Below.refl _ _)) (hb1.mono (by first | (simp; done) | (simp; omega)))

set_option maxHeartbeats 2000000 in
set_option maxRecDepth 100000 in
theorem truncate_any (F : Fl) (hF : F.Ok) (t : ByteArray) (w : World) (ht : t.size ≤ 274877906944) :
    Calls Try.prog 13 #[(.agg #[.int .i64 F.wid, .int .i64 F.prec, .bool F.hw, .bool F.hp, .bool F.mi, .bool F.pl, .bool F.sh, .bool F.sp, .bool F.ze]), .string t] w fun e w' => e = .returned (.string (if F.hp then t.extract 0 (fwd t F.prec.toNat 0) else t)) ∧ Below w.heap.size w w' := by
  obtain ⟨R, hR⟩ : ∃ R, (if F.hp then t.extract 0 (fwd t F.prec.toNat 0) else t) = R := ⟨_, rfl⟩
  have cT := fun (W : World) => zzTruncate_any F hF t W ht
  rw [hR] at cT ⊢
  clear hR
  go_enter Try.func13, Try.ntmps13
  go_wp2_with (first | (go_at_call 33; refine (flags_any F _).mono ?_; rintro e w1 ⟨rfl, hb1⟩) | (go_at_call 32; refine (cT _).mono ?_; rintro e w2 ⟨rfl, hb2⟩))
  go_ret
  refine ⟨rfl, ?_⟩
  refine Below.trans ?_ (hb2.mono (by have := hb1.size; simp at this; omega))
  exact Below.trans (by repeat (first | (with_reducible refine Below.drew ?_) | (with_reducible refine below_drewN ?_ _) | (with_reducible refine Below.alloc ?_ (by first | (simp; done) | (simp; omega)) _) | (with_reducible refine Below.setCell ?_ (by first | (simp; done) | (simp; omega)) _) | with_reducible exact Below.refl _ _)) (hb1.mono (by first | (simp; done) | (simp; omega)))

set_option maxHeartbeats 2000000 in
set_option maxRecDepth 100000 in
theorem fnTruncate_any (F : Fl) (s : ByteArray) (w : World) (h0 : -9223372036854775808 ≤ F.wid) (h1 : F.wid ≤ 9223372036854775807) (h2 : -9223372036854775808 ≤ F.prec) (h3 : F.prec ≤ 9223372036854775807) (hs : s.size ≤ 9223372036854775807) :
    Calls Try.prog 3 #[(.agg #[.int .i64 F.wid, .int .i64 F.prec, .bool F.hw, .bool F.hp, .bool F.mi, .bool F.pl, .bool F.sh, .bool F.sp, .bool F.ze]), .string s] w fun e w' => e = .returned (.bool true) ∧ Below w.heap.size w w' := by
  by_cases hbig : 2147483647 < s.size
  · have hbig' : (2147483647 : Int) < (s.size : Int) := by omega
    go_enter Try.func3, Try.ntmps3
    go_wp2
    go_ret
    exact ⟨rfl, (by repeat (first | (with_reducible refine Below.drew ?_) | (with_reducible refine below_drewN ?_ _) | (with_reducible refine Below.alloc ?_ (by first | (simp; done) | (simp; omega)) _) | (with_reducible refine Below.setCell ?_ (by first | (simp; done) | (simp; omega)) _) | with_reducible exact Below.refl _ _))⟩
  · have hbig' : (s.size : Int) ≤ 2147483647 := by omega
    have hok := clean_ok F
    have cC := fun W => clean_any F W h0 h1 h2 h3
    obtain ⟨G, hG⟩ : ∃ G, F.clean = G := ⟨_, rfl⟩
    rw [hG] at hok cC
    have p0 := hok.plo
    have p1 := hok.phi
    clear hG h0 h1 h2 h3
    have cT := fun W => truncate_any G hok s W (by omega)
    rcases hp : G.hp with _ | _
    · rw [hp] at cC cT
      go_enter Try.func3, Try.ntmps3
      go_wp2_with (first | (go_at_call 11; refine (cC _).mono ?_; rintro e w1 ⟨rfl, hb1⟩; obtain ⟨hc1, hf1⟩ := bcell hb1) | (go_at_call 13; refine (cT _).mono ?_; rintro e w2 ⟨rfl, hb2⟩))
      go_ret
      refine ⟨rfl, Below.trans ?_ (hb2.mono (by have := hb1.size; simp at this ⊢; omega))⟩
      have k1 : Below w.heap.size w w1 := Below.trans (by repeat (first | (with_reducible refine Below.drew ?_) | (with_reducible refine below_drewN ?_ _) | (with_reducible refine Below.alloc ?_ (by first | (simp; done) | (simp; omega)) _) | (with_reducible refine Below.setCell ?_ (by first | (simp; done) | (simp; omega)) _) | with_reducible exact Below.refl _ _)) (hb1.mono (by first | (simp; done) | (simp; omega)))
      exact (by repeat (first | (with_reducible refine Below.drew ?_) | (with_reducible refine below_drewN ?_ _) | (with_reducible refine Below.alloc ?_ (by first | (simp; done) | (simp; omega)) _) | (with_reducible refine Below.setCell ?_ (by first | (simp; done) | (simp; omega)) _) | with_reducible exact k1))
    · have cF := fun W => first_any s G.prec.toNat W (by omega) (by omega)
      rw [Int.toNat_of_nonneg p0] at cF
      rw [hp] at cC cT
      simp only [if_true] at cT
      obtain ⟨R, hR⟩ : ∃ R, s.extract 0 (fwd s G.prec.toNat 0) = R := ⟨_, rfl⟩
      rw [hR] at cF cT
      clear hR
      go_enter Try.func3, Try.ntmps3
      go_wp2_with (first | (go_at_call 11; refine (cC _).mono ?_; rintro e w1 ⟨rfl, hb1⟩; obtain ⟨hc1, hf1⟩ := bcell hb1) | (go_at_call 13; refine (cT _).mono ?_; rintro e w2 ⟨rfl, hb2⟩) | (go_at_call 12; refine (cF _).mono ?_; rintro e w3 ⟨rfl, rfl⟩))
      go_ret
      refine ⟨rfl, Below.trans ?_ (hb2.mono (by have := hb1.size; simp at this ⊢; omega))⟩
      have k1 : Below w.heap.size w w1 := Below.trans (by repeat (first | (with_reducible refine Below.drew ?_) | (with_reducible refine below_drewN ?_ _) | (with_reducible refine Below.alloc ?_ (by first | (simp; done) | (simp; omega)) _) | (with_reducible refine Below.setCell ?_ (by first | (simp; done) | (simp; omega)) _) | with_reducible exact Below.refl _ _)) (hb1.mono (by first | (simp; done) | (simp; omega)))
      exact (by repeat (first | (with_reducible refine Below.drew ?_) | (with_reducible refine below_drewN ?_ _) | (with_reducible refine Below.alloc ?_ (by first | (simp; done) | (simp; omega)) _) | (with_reducible refine Below.setCell ?_ (by first | (simp; done) | (simp; omega)) _) | with_reducible exact k1))

end Go.Proofs.Ytdadbfehackfjaa
