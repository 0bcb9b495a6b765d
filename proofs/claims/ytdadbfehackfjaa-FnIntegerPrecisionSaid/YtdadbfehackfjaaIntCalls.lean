/- The walks around fmtInteger: laws.base, laws.verb, ZZInteger, impl.Integer; and spec.magnitude. Conditions: the base is 2, 8, 10 or 16, the verb O stands with base 8 alone, widths and precisions lie between 0 and 4095. -/
import Derived.Test.YtdadbfehackfjaaInteger
set_option linter.unusedVariables false
set_option linter.unusedSimpArgs false
namespace Go.Proofs.Ytdadbfehackfjaa
open Go.RowKit Go.Deep

/-- What an integer is written as. -/
def outOf (F : Fl) (sg : Bool) (u b : Nat) (O U : Bool) : ByteArray :=
  if F.hp = true ∧ F.prec = 0 ∧ magOf sg u = 0 then fill 32 F.wid.toNat else padOf { F with ze := false } (intText F sg u b O U)

theorem fmtInteger_any {w : World} {o f : Nat} {F : Fl} {I : List Value} (hI : I.length = 68) (hf : w.heap[f]? = some (.cells (fmCells o F I) 88 (0, 0))) (ho : w.heap[o]? = some (.cells #[.slice none 0 0] 71 (0, 0))) (hF : F.Ok) (u : Nat) (hu : (u : Int) ≤ 18446744073709551615) (b : Nat) (hb : b = 2 ∨ b = 8 ∨ b = 10 ∨ b = 16) (sg : Bool) (vb : Int) (O U : Bool) (hv : (vb == 79) = O) (hO : O = true → b = 8) :
    Calls Try.prog 54 #[.pointer (some ⟨f, 0, none⟩), .int .u64 u, .int .i64 b, .bool sg, .int .i32 vb, .string (tab U)] w fun e w' => e = .returned (.tuple #[]) ∧ Wrote w w' o f F (outOf F sg u b O U) := by
  unfold outOf
  split
  · rename_i h
    exact fmtInteger_none hI hf ho hF u hu b hb sg vb O U hv hO h
  · rename_i h
    exact fmtInteger_main hI hf ho hF u hu b hb sg vb O U hv hO h

set_option maxHeartbeats 2000000 in
set_option maxRecDepth 100000 in
theorem zzInteger_any (F : Fl) (hF : F.Ok) (u : Nat) (hu : (u : Int) ≤ 18446744073709551615) (b : Nat) (hb : b = 2 ∨ b = 8 ∨ b = 10 ∨ b = 16) (sg : Bool) (vb : Int) (O U : Bool) (hv : (vb == 79) = O) (hO : O = true → b = 8) (w : World) :
    Calls Try.prog 43 #[(.agg #[.int .i64 F.wid, .int .i64 F.prec, .bool F.hw, .bool F.hp, .bool F.mi, .bool F.pl, .bool F.sh, .bool F.sp, .bool F.ze, .bool false, .bool false]), .int .u64 u, .int .i64 b, .bool sg, .int .i32 vb, .bool U] w fun e w' => e = .returned (.string (outOf F sg u b O U)) ∧ Below w.heap.size w w' := by
  obtain ⟨n, hn⟩ : ∃ n, n = w.heap.size + 1 + 1 + 1 := ⟨_, rfl⟩
  have HN := Lib.hid hn
  clear hn
  have hlen : noughts.length = 68 := rfl
  have cM := fun (W : World) o f (hf : W.heap[f]? = some (Obj.cells (fmCells o F noughts) 88 (0, 0))) (ho : W.heap[o]? = some (Obj.cells #[.slice none 0 0] 71 (0, 0))) => fmtInteger_any hlen hf ho hF u hu b hb sg vb O U hv hO
  obtain ⟨R, hR⟩ : ∃ R, outOf F sg u b O U = R := ⟨_, rfl⟩
  rw [hR] at cM ⊢
  have cD := fun W => zzDigits_any U W
  generalize tab U = D at *
  clear hR hv hO hb hu hlen
  go_enter Try.func43, Try.ntmps43
  go_wp2_with (first | (go_at_call 52; refine (cD _).mono ?_; rintro e w' ⟨rfl, rfl⟩) | (go_at_call 45; refine (zzFmt_any F _ _ n (by rw [HN.out]; simp) (by simp)).mono ?_; rintro e w1 ⟨rfl, hb1, hf1⟩; have ho1 := (hb1.block (w.heap.size + 1) (by simp)).trans (heap_second w _ _)) | (go_at_call 54; refine (cM _ _ _ hf1 ho1).mono ?_; rintro e w2 ⟨rfl, hS2⟩; obtain ⟨v2, hv2, hcv2⟩ := hS2.conv))
  go_ret
  have k1 : Below w.heap.size w w1 := Below.trans (by repeat (first | (with_reducible refine Below.drew ?_) | (with_reducible refine below_drewN ?_ _) | (with_reducible refine Below.alloc ?_ (by first | (simp; done) | (simp; omega)) _) | (with_reducible refine Below.setCell ?_ (by first | (simp; done) | (simp; omega)) _) | with_reducible exact Below.refl _ _)) (hb1.mono (by first | (simp; done) | (simp; omega)))
  exact ⟨rfl, hS2.done k1 (by omega) (by rw [HN.out]; omega)⟩

set_option maxHeartbeats 2000000 in
set_option maxRecDepth 100000 in
/-- impl.Integer. -/
theorem integer_any (F : Fl) (hF : F.Ok) (u : Nat) (hu : (u : Int) ≤ 18446744073709551615) (b : Nat) (hb : b = 2 ∨ b = 8 ∨ b = 10 ∨ b = 16) (sg : Bool) (vb : Int) (hvb : 0 ≤ vb) (hvb2 : vb ≤ 255) (O U : Bool) (hv : (vb == 79) = O) (hO : O = true → b = 8) (w : World) :
    Calls Try.prog 27 #[(.agg #[.int .i64 F.wid, .int .i64 F.prec, .bool F.hw, .bool F.hp, .bool F.mi, .bool F.pl, .bool F.sh, .bool F.sp, .bool F.ze]), .int .u64 u, .int .i64 b, .bool sg, .int .u8 vb, .bool U] w fun e w' => e = .returned (.string (outOf F sg u b O U)) ∧ Below w.heap.size w w' := by
  have cT := fun (W : World) => zzInteger_any F hF u hu b hb sg vb O U hv hO W
  obtain ⟨R, hR⟩ : ∃ R, outOf F sg u b O U = R := ⟨_, rfl⟩
  rw [hR] at cT ⊢
  clear hR hv hO hb hu
  go_enter Try.func27, Try.ntmps27
  go_wp2_with (first | (go_at_call 33; refine (flags_any F _).mono ?_; rintro e w1 ⟨rfl, hb1⟩) | (go_at_call 43; refine (cT _).mono ?_; rintro e w2 ⟨rfl, hb2⟩))
  go_ret
  refine ⟨rfl, ?_⟩
  refine Below.trans ?_ (hb2.mono (by have := hb1.size; simp at this; omega))
  exact Below.trans (by repeat (first | (with_reducible refine Below.drew ?_) | (with_reducible refine below_drewN ?_ _) | (with_reducible refine Below.alloc ?_ (by first | (simp; done) | (simp; omega)) _) | (with_reducible refine Below.setCell ?_ (by first | (simp; done) | (simp; omega)) _) | with_reducible exact Below.refl _ _)) (hb1.mono (by first | (simp; done) | (simp; omega)))

set_option maxHeartbeats 1000000 in
set_option maxRecDepth 100000 in
theorem below4_any (x : Int) (w : World) (h0 : -9223372036854775808 ≤ x) (h1 : x ≤ 9223372036854775807) :
    Calls Try.prog 30 #[.int .i64 x, .int .i64 4] w fun e w' => e = .returned (.int .i64 (x % 4)) ∧ w = w' := by
  by_cases hx : 0 ≤ x
  · go_enter Try.func30, Try.ntmps30
    go_wp2
    go_ret
    exact ⟨rfl, rfl⟩
  · have e1 : x.tmod 4 = -((-x) % 4) := by
      obtain ⟨y, rfl⟩ : ∃ y, x = -y := ⟨-x, by omega⟩
      rw [Int.neg_tmod, Int.tmod_eq_emod_of_nonneg (by omega)]; simp
    obtain ⟨r, hr⟩ : ∃ r, (-x) % 4 = r := ⟨_, rfl⟩
    have hr0 : 0 ≤ r := by omega
    have hr1 : r < 4 := by omega
    rw [hr] at e1
    by_cases hz : r = 0
    · have e2 : x % 4 = 0 := by omega
      subst hz
      rw [e2]
      clear e2 hr
      go_enter Try.func30, Try.ntmps30
      go_wp2
      go_ret
      exact ⟨rfl, rfl⟩
    · have e2 : x % 4 = 4 - r := by omega
      have hneg : -r < 0 := by omega
      have e3 : -r + 4 = 4 - r := by omega
      have H2 : Hid (x % 4 = 4 - r) := e2
      have H3 : Hid (-r + 4 = 4 - r) := e3
      clear e2 e3 hr hz
      go_enter Try.func30, Try.ntmps30
      go_wp2
      go_ret
      exact ⟨ret_int (by rw [H2.out]; first | exact H3.out | omega), rfl⟩

/-- The base of a number. -/
def baseOf (k : Int) : Nat := if k % 4 = 0 then 2 else if k % 4 = 1 then 8 else if k % 4 = 2 then 10 else 16
theorem baseOf_or (k : Int) : baseOf k = 2 ∨ baseOf k = 8 ∨ baseOf k = 10 ∨ baseOf k = 16 := by
  unfold baseOf
  repeat' split
  all_goals simp

set_option maxHeartbeats 1000000 in
set_option maxRecDepth 100000 in
/-- laws.base. -/
theorem base_any (k : Int) (w : World) (h0 : -9223372036854775808 ≤ k) (h1 : k ≤ 9223372036854775807) :
    Calls Try.prog 24 #[.int .i64 k] w fun e w' => e = .returned (.int .i64 (baseOf k : Nat)) ∧ Below w.heap.size w w' := by
  have cB := fun W => below4_any k W h0 h1
  obtain ⟨r, hr⟩ : ∃ r, k % 4 = r := ⟨_, rfl⟩
  have hr0 : 0 ≤ r := by omega
  have hr1 : r < 4 := by omega
  have e : Hid (baseOf k = if r = 0 then 2 else if r = 1 then 8 else if r = 2 then 10 else 16) := by
    show _ = _
    unfold baseOf; rw [hr]
  rw [hr] at cB
  clear hr h0 h1
  have hcase : r = 0 ∨ r = 1 ∨ r = 2 ∨ r = 3 := by omega
  rcases hcase with rfl | rfl | rfl | rfl
  all_goals (
    go_enter Try.func24, Try.ntmps24
    go_wp2_with (go_at_call 30; refine (cB _).mono ?_; rintro e w1 ⟨rfl, rfl⟩)
    go_ret
    exact ⟨ret_int (by rw [e.out]; rfl), (by repeat (first | (with_reducible refine Below.drew ?_) | (with_reducible refine below_drewN ?_ _) | (with_reducible refine Below.alloc ?_ (by first | (simp; done) | (simp; omega)) _) | (with_reducible refine Below.setCell ?_ (by first | (simp; done) | (simp; omega)) _) | with_reducible exact Below.refl _ _))⟩)

/-- The verb's letter. -/
def vbOf (b : Nat) (up ot : Bool) : Int := if b = 2 then 98 else if b = 8 then (if ot then 79 else 111) else if b = 16 then (if up then 88 else 120) else 100
theorem vbOf_le (b : Nat) (up ot : Bool) : 0 ≤ vbOf b up ot ∧ vbOf b up ot ≤ 255 := by
  unfold vbOf
  repeat' split
  all_goals omega
theorem vbOf_O (b : Nat) (up ot : Bool) : (vbOf b up ot == 79) = (decide (b = 8) && ot) := by
  unfold vbOf
  by_cases h2 : b = 2
  · subst h2; simp
  · by_cases h8 : b = 8
    · subst h8; cases ot <;> simp
    · by_cases h16 : b = 16
      · subst h16; cases up <;> simp
      · simp [h2, h8, h16]

set_option maxHeartbeats 2000000 in
set_option maxRecDepth 100000 in
/-- laws.verb. -/
theorem verb_any (b : Nat) (hb : b = 2 ∨ b = 8 ∨ b = 10 ∨ b = 16) (up ot : Bool) (w : World) :
    Calls Try.prog 25 #[.int .i64 b, .bool up, .bool ot] w fun e w' => e = .returned (.int .u8 (vbOf b up ot)) ∧ w = w' := by
  rcases hb with rfl | rfl | rfl | rfl
  · go_enter Try.func25, Try.ntmps25
    go_wp2
    go_ret
    exact ⟨rfl, rfl⟩
  · cases ot
    all_goals (
      go_enter Try.func25, Try.ntmps25
      go_wp2
      go_ret
      exact ⟨rfl, rfl⟩)
  · go_enter Try.func25, Try.ntmps25
    go_wp2
    go_ret
    exact ⟨rfl, rfl⟩
  · cases up
    all_goals (
      go_enter Try.func25, Try.ntmps25
      go_wp2
      go_ret
      exact ⟨rfl, rfl⟩)

set_option maxHeartbeats 2000000 in
set_option maxRecDepth 100000 in
/-- spec.magnitude. -/
theorem magnitude_any (F : Fl) (u : Nat) (hu : (u : Int) ≤ 18446744073709551615) (sg : Bool) (w : World) :
    Calls Try.prog 42 #[(.agg #[.int .i64 F.wid, .int .i64 F.prec, .bool F.hw, .bool F.hp, .bool F.mi, .bool F.pl, .bool F.sh, .bool F.sp, .bool F.ze]), .int .u64 u, .bool sg] w fun e w' => e = .returned (.tuple #[.string (signOf F (negOf sg u) ⟨#[]⟩), .int .u64 (magOf sg u : Nat)]) ∧ Below w.heap.size w w' := by
  obtain ⟨wid, prec, hw, hp, mi, pl, sh, sp, ze⟩ := F
  simp only
  by_cases hn : negOf sg u = true
  · have hm : Hid (magOf sg u = 18446744073709551616 - u) := by show _ = _; unfold magOf; rw [if_pos hn]
    have hs : Hid (signOf ⟨wid, prec, hw, hp, mi, pl, sh, sp, ze⟩ true ⟨#[]⟩ = ⟨#[45]⟩) := rfl
    rw [hn]
    unfold negOf at hn
    simp only [Bool.and_eq_true, decide_eq_true_eq] at hn
    obtain ⟨rfl, hbig⟩ := hn
    have hx : IntKind.i64.wrap (u : Int) = (u : Int) - 18446744073709551616 := by rw [IntKind.wrap_i64]; omega
    have hneg : (u : Int) - 18446744073709551616 < 0 := by omega
    obtain ⟨m, hm2⟩ : ∃ m, magOf true u = m := ⟨_, rfl⟩
    rw [hm2]
    have hy : IntKind.u64.wrap (-(u : Int)) = (m : Int) := by
      have := hm.out
      rw [IntKind.wrap_u64]; omega
    rw [hs.out]
    clear hm2 hm hs
    go_enter Try.func42, Try.ntmps42
    go_wp2
    go_ret2
    exact ⟨rfl, (by repeat (first | (with_reducible refine Below.drew ?_) | (with_reducible refine below_drewN ?_ _) | (with_reducible refine Below.alloc ?_ (by first | (simp; done) | (simp; omega)) _) | (with_reducible refine Below.setCell ?_ (by first | (simp; done) | (simp; omega)) _) | with_reducible exact Below.refl _ _))⟩
  · have hn' : negOf sg u = false := by cases h : negOf sg u; rfl; exact absurd h hn
    have hm : magOf sg u = u := by unfold magOf; rw [if_neg hn]
    rw [hm, hn']
    clear hm hn'
    have hx : sg = false ∨ (sg = true ∧ u < 9223372036854775808) := by
      cases sg
      · exact .inl rfl
      · refine .inr ⟨rfl, ?_⟩
        unfold negOf at hn
        simp at hn
        exact hn
    clear hn
    rcases hx with rfl | ⟨rfl, hlt⟩
    · cases pl
      · cases sp
        all_goals (
          go_enter Try.func42, Try.ntmps42
          go_wp2
          go_ret2
          exact ⟨rfl, (by repeat (first | (with_reducible refine Below.drew ?_) | (with_reducible refine below_drewN ?_ _) | (with_reducible refine Below.alloc ?_ (by first | (simp; done) | (simp; omega)) _) | (with_reducible refine Below.setCell ?_ (by first | (simp; done) | (simp; omega)) _) | with_reducible exact Below.refl _ _))⟩)
      · go_enter Try.func42, Try.ntmps42
        go_wp2
        go_ret2
        exact ⟨rfl, (by repeat (first | (with_reducible refine Below.drew ?_) | (with_reducible refine below_drewN ?_ _) | (with_reducible refine Below.alloc ?_ (by first | (simp; done) | (simp; omega)) _) | (with_reducible refine Below.setCell ?_ (by first | (simp; done) | (simp; omega)) _) | with_reducible exact Below.refl _ _))⟩
    · have hx : IntKind.i64.wrap (u : Int) = (u : Int) := by rw [IntKind.wrap_i64]; omega
      have hneg : ¬ (u : Int) < 0 := by omega
      cases pl
      · cases sp
        all_goals (
          go_enter Try.func42, Try.ntmps42
          go_wp2
          go_ret2
          exact ⟨rfl, (by repeat (first | (with_reducible refine Below.drew ?_) | (with_reducible refine below_drewN ?_ _) | (with_reducible refine Below.alloc ?_ (by first | (simp; done) | (simp; omega)) _) | (with_reducible refine Below.setCell ?_ (by first | (simp; done) | (simp; omega)) _) | with_reducible exact Below.refl _ _))⟩)
      · go_enter Try.func42, Try.ntmps42
        go_wp2
        go_ret2
        exact ⟨rfl, (by repeat (first | (with_reducible refine Below.drew ?_) | (with_reducible refine below_drewN ?_ _) | (with_reducible refine Below.alloc ?_ (by first | (simp; done) | (simp; omega)) _) | (with_reducible refine Below.setCell ?_ (by first | (simp; done) | (simp; omega)) _) | with_reducible exact Below.refl _ _))⟩

end Go.Proofs.Ytdadbfehackfjaa
