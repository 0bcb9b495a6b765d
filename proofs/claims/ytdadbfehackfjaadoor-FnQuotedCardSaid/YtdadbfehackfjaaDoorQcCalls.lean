/- The walks around fmtQc: appendQuotedRuneWith, AppendQuoteRune, AppendQuoteRuneToASCII, fmtQc, ZZQc, impl.QuotedChar. Conditions: widths lie between 0 and 4095; the four tables of strconv.IsPrint stand as their initialisers lay them. -/
import Derived.Test.YtdadbfehackfjaaDoorEscRune
import Derived.Test.YtdadbfehackfjaaDoorUnicodeCalls
set_option linter.unusedVariables false
set_option linter.unusedSimpArgs false
namespace Go.Proofs.YtdadbfehackfjaaDoor
open Go.RowKit Go.Deep

/-- The code point that is meant: U+FFFD, where there is none. -/
def rr (c : Nat) : Nat := if c < 55296 ∨ (57343 < c ∧ c ≤ 1114111) then c else 65533
theorem rr_sc (c : Nat) : Sc (rr c) := by
  unfold rr Sc
  split
  · assumption
  · omega
theorem rr_le (c : Nat) : rr c ≤ 1114111 := (rr_sc c).le
/-- A rune literal. -/
def qcT (A : Bool) (c : Nat) : ByteArray := one 39 ++ (escT 39 A (rr c) ++ one 39)
theorem qcT_size (A : Bool) (c : Nat) : 3 ≤ (qcT A c).size ∧ (qcT A c).size ≤ 12 := by
  have := escT_size 39 A (rr c)
  rw [qcT, size_app, size_app, one_size]
  omega

/-- What was there before the formatter stands as it stood. -/
theorem Qb.old {Wt W0 w : World} {o f : Nat} {F : Fl} {v : Value} {xs : List Value} (h : Qb W0 w o f F v xs) (hb : Below Wt.heap.size Wt W0) (hf : Wt.heap.size ≤ f) : Below Wt.heap.size Wt w :=
  ⟨h.near.os.trans hb.os, h.near.tape.trans hb.tape, h.near.output.trans hb.output, Nat.le_trans hb.size h.near.size, fun k hk => (h.near.block k (Nat.lt_of_lt_of_le hk hb.size) (by omega) (by omega)).trans (hb.block k hk)⟩

section
variable {W0 w : World} {o f : Nat} {F : Fl} {v : Value} {xs : List Value}

set_option maxHeartbeats 4000000 in
set_option maxRecDepth 100000 in
theorem aqrw_any (hQ : Qb W0 w o f F v xs) (hb : xs.length + 12 ≤ 140737488355328) (r : Nat) (hr : r ≤ 1114111) (A : Bool) (HPT : ∀ w v xs, Qb W0 w o f F v xs → Lib.PrintTabsAt 0 1 2 3 Lib.goPrintTabs w) :
    Calls Tryd.prog 65 #[v, .int .i32 (r : Int), .int .u8 39, .bool A, .bool false] w fun e w' => ∃ v', e = .returned v' ∧ Qb W0 w' o f F v' (xs ++ Lib.strCells (qcT A r)) := by
  obtain ⟨i0, hi, hz0, hz1, hz2⟩ := info_parts Tryd.info5
  have cE : ∀ w v, Qb W0 w o f F v (xs ++ [.int .u8 39]) → Calls Tryd.prog 70 #[v, .int .i32 (rr r : Int), .int .u8 39, .bool A, .bool false] w fun e w' => ∃ v', e = .returned v' ∧ Qb W0 w' o f F v' (xs ++ [.int .u8 39] ++ Lib.strCells (escT 39 A (rr r))) := fun w v hq =>
    esc_any hq (by rw [List.length_append, List.length_cons, List.length_nil]; omega) 39 (rr r) (.inr rfl) A (rr_sc r) (HPT _ _ _ hq)
  have hT := escT_size 39 A (rr r)
  have e : Lib.strCells (qcT A r) = [.int .u8 39] ++ (Lib.strCells (escT 39 A (rr r)) ++ [.int .u8 39]) := by
    rw [qcT, strCells_app, strCells_app, strCells_one]; rfl
  rw [e]
  obtain ⟨T, hTe⟩ : ∃ T, escT 39 A (rr r) = T := ⟨_, rfl⟩
  simp only [hTe] at cE hT ⊢
  have HE := Lib.hid cE
  have hTl : T.size ≤ 10 := hT.2
  have cV := fun W => Tryd.utf8_ValidRune (r : Int) W
  clear cE HPT e hT hTe
  by_cases hs : r < 55296 ∨ (57343 < r ∧ r ≤ 1114111)
  · have hv : Lib.validRune (r : Int) = true := Sc.valid hs
    have e : rr r = r := if_pos hs
    rw [hv] at cV
    rw [e] at HE
    clear hs hv e
    go_enter Tryd.func65, Tryd.ntmps65
    go_wp2_with (first | (go_at_call 69; refine (cV _).mono ?_; rintro e w2 ⟨rfl, rfl⟩) | (go_at_call 70; refine (HE.out _ _ hQ).mono ?_; rintro e w3 ⟨v3, rfl, hQ⟩) | (at_builtin; refine wpList_qb1 (W0 := W0) (o := o) (f := f) (F := F) rfl _ _ 29 rfl i0 Tryd.underlying29 hi hz0 hz1 hz2 hQ rfl rfl (by first | omega | (simp only [List.length_append, List.length_cons, List.length_nil, Lib.strCells_length]; omega)) ?_; intro _ _ hQ))
    go_ret
    exact ⟨_, rfl, by simpa [List.append_assoc] using hQ⟩
  · have hv : Lib.validRune (r : Int) = false := by
      simp only [Lib.validRune, decide_eq_false_iff_not]
      omega
    have e : rr r = 65533 := if_neg hs
    rw [hv] at cV
    rw [e] at HE
    clear hs hv e
    go_enter Tryd.func65, Tryd.ntmps65
    go_wp2_with (first | (go_at_call 69; refine (cV _).mono ?_; rintro e w2 ⟨rfl, rfl⟩) | (go_at_call 70; refine (HE.out _ _ hQ).mono ?_; rintro e w3 ⟨v3, rfl, hQ⟩) | (at_builtin; refine wpList_qb1 (W0 := W0) (o := o) (f := f) (F := F) rfl _ _ 29 rfl i0 Tryd.underlying29 hi hz0 hz1 hz2 hQ rfl rfl (by first | omega | (simp only [List.length_append, List.length_cons, List.length_nil, Lib.strCells_length]; omega)) ?_; intro _ _ hQ))
    go_ret
    exact ⟨_, rfl, by simpa [List.append_assoc] using hQ⟩

set_option maxHeartbeats 2000000 in
set_option maxRecDepth 100000 in
theorem aqr_any (hQ : Qb W0 w o f F v xs) (hb : xs.length + 12 ≤ 140737488355328) (r : Nat) (hr : r ≤ 1114111) (HPT : ∀ w v xs, Qb W0 w o f F v xs → Lib.PrintTabsAt 0 1 2 3 Lib.goPrintTabs w) :
    Calls Tryd.prog 51 #[v, .int .i32 (r : Int)] w fun e w' => ∃ v', e = .returned v' ∧ Qb W0 w' o f F v' (xs ++ Lib.strCells (qcT false r)) := by
  have cA := aqrw_any hQ hb r hr false HPT
  clear hQ hb hr HPT
  go_enter Tryd.func51, Tryd.ntmps51
  go_wp2_with (go_at_call 65; refine cA.mono ?_; rintro e w3 ⟨v3, rfl, hQ⟩)
  go_ret
  exact ⟨_, rfl, hQ⟩

set_option maxHeartbeats 2000000 in
set_option maxRecDepth 100000 in
theorem aqra_any (hQ : Qb W0 w o f F v xs) (hb : xs.length + 12 ≤ 140737488355328) (r : Nat) (hr : r ≤ 1114111) (HPT : ∀ w v xs, Qb W0 w o f F v xs → Lib.PrintTabsAt 0 1 2 3 Lib.goPrintTabs w) :
    Calls Tryd.prog 50 #[v, .int .i32 (r : Int)] w fun e w' => ∃ v', e = .returned v' ∧ Qb W0 w' o f F v' (xs ++ Lib.strCells (qcT true r)) := by
  have cA := aqrw_any hQ hb r hr true HPT
  clear hQ hb hr HPT
  go_enter Tryd.func50, Tryd.ntmps50
  go_wp2_with (go_at_call 65; refine cA.mono ?_; rintro e w3 ⟨v3, rfl, hQ⟩)
  go_ret
  exact ⟨_, rfl, hQ⟩
end

/-- What is written of a code point. -/
theorem qcT_rr (A : Bool) (c : Nat) (h : ¬ c ≤ 1114111) : qcT A 65533 = qcT A c := by
  have e : rr c = 65533 := if_neg (by omega)
  have e2 : rr 65533 = 65533 := by unfold rr; split <;> rfl
  rw [qcT, qcT, e, e2]

set_option maxHeartbeats 4000000 in
set_option maxRecDepth 100000 in
/-- (*fmt).fmtQc. -/
theorem fmtQc_any {Wt w : World} {o f : Nat} {F : Fl} {I : List Value} (hI : I.length = 68) (hf : w.heap[f]? = some (.cells (fmCells o F I) 67 (0, 0))) (ho : w.heap[o]? = some (.cells #[.slice none 0 0] 55 (0, 0))) (hF : F.Ok) (c : Nat) (hc : (c : Int) ≤ 18446744073709551615) (hPT : Lib.PrintTabsAt 0 1 2 3 Lib.goPrintTabs Wt) (hb : Below Wt.heap.size Wt w) (hfw : Wt.heap.size ≤ f) :
    Calls Tryd.prog 39 #[.pointer (some ⟨f, 0, none⟩), .int .u64 (c : Int)] w fun e w' => e = .returned (.tuple #[]) ∧ Wrote w w' o f F (padOf F (qcT F.pl c)) := by
  have hQ : Qb w w o f F (.slice (some ⟨f, 12, none⟩) 0 68) [] := Qb.start hI hf
  have HPT : ∀ w' v xs, Qb w w' o f F v xs → Lib.PrintTabsAt 0 1 2 3 Lib.goPrintTabs w' := fun w' v xs hq => PrintTabs_below hPT (hq.old hb hfw)
  have c4 : w.cell? ⟨f, 4, none⟩ = some (.bool F.pl) := cell_of_row w f 4 _ _ (0, 0) hf
  have HP : ∀ w1 v, Qb w w1 o f F v ([] ++ Lib.strCells (qcT F.pl c)) → ∃ A k, v = .slice A (qcT F.pl c).size k ∧ Calls Tryd.prog 46 #[.pointer (some ⟨f, 0, none⟩), .slice A (qcT F.pl c).size k] w1 fun e w' => e = .returned (.tuple #[]) ∧ Wrote w w' o f F (padOf F (qcT F.pl c)) := by
    intro w1 v hq
    rw [List.nil_append] at hq
    obtain ⟨I1, A, k, rfl, hk, _, hS, hsrc⟩ := hq.src ho (of_ne hf ho)
    refine ⟨A, k, rfl, (pad_any hS hF (qcT F.pl c) A k hsrc hk (by decide) (by have := qcT_size F.pl c; omega)).mono ?_⟩
    rintro e w2 ⟨rfl, hS2⟩
    rw [nil_app] at hS2
    exact ⟨rfl, hq.near.weak.trans (hS2.bel.mono hq.near.size), w1, I1, hq.near.size, hS2⟩
  have hlt := heap_lt hf
  have cA0 := fun r (hr : r ≤ 1114111) => aqr_any hQ (by decide) r hr HPT
  have cA1 := fun r (hr : r ≤ 1114111) => aqra_any hQ (by decide) r hr HPT
  have key : ∃ r : Nat, r ≤ 1114111 ∧ qcT F.pl r = qcT F.pl c ∧ (((c : Int) ≤ 1114111 ∧ r = c) ∨ ((1114111 : Int) < (c : Int) ∧ r = 65533)) := by
    by_cases h : c ≤ 1114111
    · exact ⟨c, h, rfl, .inl ⟨by omega, rfl⟩⟩
    · exact ⟨65533, by omega, qcT_rr _ _ h, .inr ⟨by omega, rfl⟩⟩
  obtain ⟨r, hr, hrc, hcs⟩ := key
  have cA0 := cA0 r hr
  have cA1 := cA1 r hr
  clear hf ho hQ hI hPT HPT hb hfw hF
  obtain ⟨R, hR⟩ : ∃ R, padOf F (qcT F.pl c) = R := ⟨_, rfl⟩
  obtain ⟨m, hm⟩ : ∃ m, (qcT F.pl c).size = m := ⟨_, rfl⟩
  rw [hR, hm] at HP
  rw [hR]
  obtain ⟨X, hX⟩ : ∃ X, qcT F.pl c = X := ⟨_, rfl⟩
  rw [hX] at HP hrc
  have HHP := Lib.hid HP
  clear hR hm HP hX
  rcases hpl : F.pl with _ | _
  · rw [hpl] at c4 hrc
    rw [hrc] at cA0
    clear cA1 hpl hrc
    rcases hcs with ⟨h1, rfl⟩ | ⟨h1, rfl⟩
    · go_enter Tryd.func39, Tryd.ntmps39
      go_wp2_with (first | (go_at_call 51; refine cA0.mono ?_; rintro e w1 ⟨v1, rfl, hq⟩; obtain ⟨A1, c1, rfl, hP⟩ := HHP.out w1 v1 hq) | (go_at_call 46; refine hP.mono ?_; rintro e w2 ⟨rfl, hW⟩))
      go_end0
      exact ⟨rfl, hW⟩
    · go_enter Tryd.func39, Tryd.ntmps39
      go_wp2_with (first | (go_at_call 51; refine cA0.mono ?_; rintro e w1 ⟨v1, rfl, hq⟩; obtain ⟨A1, c1, rfl, hP⟩ := HHP.out w1 v1 hq) | (go_at_call 46; refine hP.mono ?_; rintro e w2 ⟨rfl, hW⟩))
      go_end0
      exact ⟨rfl, hW⟩
  · rw [hpl] at c4 hrc
    rw [hrc] at cA1
    clear cA0 hpl hrc
    rcases hcs with ⟨h1, rfl⟩ | ⟨h1, rfl⟩
    · go_enter Tryd.func39, Tryd.ntmps39
      go_wp2_with (first | (go_at_call 50; refine cA1.mono ?_; rintro e w1 ⟨v1, rfl, hq⟩; obtain ⟨A1, c1, rfl, hP⟩ := HHP.out w1 v1 hq) | (go_at_call 46; refine hP.mono ?_; rintro e w2 ⟨rfl, hW⟩))
      go_end0
      exact ⟨rfl, hW⟩
    · go_enter Tryd.func39, Tryd.ntmps39
      go_wp2_with (first | (go_at_call 50; refine cA1.mono ?_; rintro e w1 ⟨v1, rfl, hq⟩; obtain ⟨A1, c1, rfl, hP⟩ := HHP.out w1 v1 hq) | (go_at_call 46; refine hP.mono ?_; rintro e w2 ⟨rfl, hW⟩))
      go_end0
      exact ⟨rfl, hW⟩

set_option maxHeartbeats 2000000 in
set_option maxRecDepth 100000 in
theorem zzQc_any (F : Fl) (hF : F.Ok) (c : Nat) (hc : (c : Int) ≤ 18446744073709551615) (w : World) (hPT : Lib.PrintTabsAt 0 1 2 3 Lib.goPrintTabs w) :
    Calls Tryd.prog 30 #[(.agg #[.int .i64 F.wid, .int .i64 F.prec, .bool F.hw, .bool F.hp, .bool F.mi, .bool F.pl, .bool F.sh, .bool F.sp, .bool F.ze, .bool false, .bool false]), .int .u64 (c : Int)] w fun e w' => e = .returned (.string (padOf F (qcT F.pl c))) ∧ Below w.heap.size w w' := by
  obtain ⟨n, hn⟩ : ∃ n, n = w.heap.size + 1 + 1 + 1 := ⟨_, rfl⟩
  have hnw : w.heap.size ≤ n := by omega
  have HN := Lib.hid hn
  have HPT := Lib.hid hPT
  clear hn hPT
  have hlen : noughts.length = 68 := rfl
  have cM := fun (W : World) o (hf : W.heap[n]? = some (Obj.cells (fmCells o F noughts) 67 (0, 0))) (ho : W.heap[o]? = some (Obj.cells #[.slice none 0 0] 55 (0, 0))) (hb : Below w.heap.size w W) => fmtQc_any hlen hf ho hF c hc HPT.out hb hnw
  obtain ⟨R, hR⟩ : ∃ R, padOf F (qcT F.pl c) = R := ⟨_, rfl⟩
  rw [hR] at cM ⊢
  clear hR hlen hc hnw
  go_enter Tryd.func30, Tryd.ntmps30
  go_wp2_with (first | (go_at_call 35; refine (zzFmt_any F _ _ n (by rw [HN.out]; simp) (by simp)).mono ?_; rintro e w1 ⟨rfl, hb1, hf1⟩; have ho1 := (hb1.block (w.heap.size + 1) (by simp)).trans (heap_second w _ _); have k1 : Below w.heap.size w w1 := Below.trans (by repeat (first | (with_reducible refine Below.drew ?_) | (with_reducible refine below_drewN ?_ _) | (with_reducible refine Below.alloc ?_ (by first | (simp; done) | (simp; omega)) _) | (with_reducible refine Below.setCell ?_ (by first | (simp; done) | (simp; omega)) _) | with_reducible exact Below.refl _ _)) (hb1.mono (by first | (simp; done) | (simp; omega)))) | (go_at_call 39; refine (cM _ _ hf1 ho1 k1).mono ?_; rintro e w2 ⟨rfl, hS2⟩; obtain ⟨v2, hv2, hcv2⟩ := hS2.conv))
  go_ret
  exact ⟨rfl, hS2.done k1 (by omega) (by rw [HN.out]; omega)⟩

set_option maxHeartbeats 2000000 in
set_option maxRecDepth 100000 in
/-- impl.QuotedChar. -/
theorem quotedChar_any (F : Fl) (hF : F.Ok) (c : Nat) (hc : (c : Int) ≤ 18446744073709551615) (w : World) (hPT : Lib.PrintTabsAt 0 1 2 3 Lib.goPrintTabs w) :
    Calls Tryd.prog 17 #[(.agg #[.int .i64 F.wid, .int .i64 F.prec, .bool F.hw, .bool F.hp, .bool F.mi, .bool F.pl, .bool F.sh, .bool F.sp, .bool F.ze]), .int .u64 (c : Int)] w fun e w' => e = .returned (.string (padOf F (qcT F.pl c))) ∧ Below w.heap.size w w' := by
  have cT := fun (W : World) => zzQc_any F hF c hc W
  obtain ⟨R, hR⟩ : ∃ R, padOf F (qcT F.pl c) = R := ⟨_, rfl⟩
  rw [hR] at cT ⊢
  have HPT := Lib.hid hPT
  clear hR hPT
  go_enter Tryd.func17, Tryd.ntmps17
  go_wp2_with (first | (go_at_call 25; refine (flags_any F _).mono ?_; rintro e w1 ⟨rfl, hb1⟩; have k1 : Below w.heap.size w w1 := Below.trans (by repeat (first | (with_reducible refine Below.drew ?_) | (with_reducible refine below_drewN ?_ _) | (with_reducible refine Below.alloc ?_ (by first | (simp; done) | (simp; omega)) _) | (with_reducible refine Below.setCell ?_ (by first | (simp; done) | (simp; omega)) _) | with_reducible exact Below.refl _ _)) (hb1.mono (by first | (simp; done) | (simp; omega))); have hT1 := PrintTabs_below HPT.out k1) | (go_at_call 30; refine (cT _ hT1).mono ?_; rintro e w2 ⟨rfl, hb2⟩))
  go_ret
  exact ⟨rfl, k1.trans (hb2.mono k1.size)⟩

end Go.Proofs.YtdadbfehackfjaaDoor
