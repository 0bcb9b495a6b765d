/- The walks around fmtUnicode: ZZUnicode, impl.Unicode; and laws.tight. Conditions: no precision; widths lie between 0 and 4095; the four tables of strconv.IsPrint stand as their initialisers lay them. -/
import Derived.Test.YtdadbfehackfjaaDoorUnicode
set_option linter.unusedVariables false
set_option linter.unusedSimpArgs false
namespace Go.Proofs.YtdadbfehackfjaaDoor
open Go.RowKit Go.Deep

set_option maxHeartbeats 2000000 in
set_option maxRecDepth 100000 in
theorem zzUnicode_any (F : Fl) (hF : F.Ok) (hp : F.hp = false) (u : Nat) (hu : (u : Int) ≤ 18446744073709551615) (w : World) (hPT : Lib.PrintTabsAt 0 1 2 3 Lib.goPrintTabs w) :
    Calls Tryd.prog 27 #[(.agg #[.int .i64 F.wid, .int .i64 F.prec, .bool F.hw, .bool F.hp, .bool F.mi, .bool F.pl, .bool F.sh, .bool F.sp, .bool F.ze, .bool false, .bool false]), .int .u64 u] w fun e w' => e = .returned (.string (padOf { F with ze := false } (uniText F u))) ∧ Below w.heap.size w w' := by
  obtain ⟨n, hn⟩ : ∃ n, n = w.heap.size + 1 + 1 + 1 := ⟨_, rfl⟩
  have HN := Lib.hid hn
  have HPT := Lib.hid hPT
  clear hn hPT
  have hlen : noughts.length = 68 := rfl
  have cM := fun (W : World) o f (hf : W.heap[f]? = some (Obj.cells (fmCells o F noughts) 67 (0, 0))) (ho : W.heap[o]? = some (Obj.cells #[.slice none 0 0] 55 (0, 0))) (hT : Lib.PrintTabsAt 0 1 2 3 Lib.goPrintTabs W) => fmtUnicode_any hlen hf ho hF hp u hu hT
  obtain ⟨R, hR⟩ : ∃ R, padOf { F with ze := false } (uniText F u) = R := ⟨_, rfl⟩
  rw [hR] at cM ⊢
  clear hR hp hlen hu
  go_enter Tryd.func27, Tryd.ntmps27
  go_wp2_with (first | (go_at_call 35; refine (zzFmt_any F _ _ n (by rw [HN.out]; simp) (by simp)).mono ?_; rintro e w1 ⟨rfl, hb1, hf1⟩; have ho1 := (hb1.block (w.heap.size + 1) (by simp)).trans (heap_second w _ _); have k1 : Below w.heap.size w w1 := Below.trans (by repeat (first | (with_reducible refine Below.drew ?_) | (with_reducible refine below_drewN ?_ _) | (with_reducible refine Below.alloc ?_ (by first | (simp; done) | (simp; omega)) _) | (with_reducible refine Below.setCell ?_ (by first | (simp; done) | (simp; omega)) _) | with_reducible exact Below.refl _ _)) (hb1.mono (by first | (simp; done) | (simp; omega))); have hT1 := PrintTabs_below HPT.out k1) | (go_at_call 38; refine (cM _ _ _ hf1 ho1 hT1).mono ?_; rintro e w2 ⟨rfl, hS2⟩; obtain ⟨v2, hv2, hcv2⟩ := hS2.conv))
  go_ret
  exact ⟨rfl, hS2.done k1 (by omega) (by rw [HN.out]; omega)⟩

set_option maxHeartbeats 2000000 in
set_option maxRecDepth 100000 in
/-- impl.Unicode. -/
theorem unicode_any (F : Fl) (hF : F.Ok) (hp : F.hp = false) (u : Nat) (hu : (u : Int) ≤ 18446744073709551615) (w : World) (hPT : Lib.PrintTabsAt 0 1 2 3 Lib.goPrintTabs w) :
    Calls Tryd.prog 12 #[(.agg #[.int .i64 F.wid, .int .i64 F.prec, .bool F.hw, .bool F.hp, .bool F.mi, .bool F.pl, .bool F.sh, .bool F.sp, .bool F.ze]), .int .u64 u] w fun e w' => e = .returned (.string (padOf { F with ze := false } (uniText F u))) ∧ Below w.heap.size w w' := by
  have cT := fun (W : World) => zzUnicode_any F hF hp u hu W
  obtain ⟨R, hR⟩ : ∃ R, padOf { F with ze := false } (uniText F u) = R := ⟨_, rfl⟩
  rw [hR] at cT ⊢
  have HPT := Lib.hid hPT
  clear hR hp hPT
  go_enter Tryd.func12, Tryd.ntmps12
  go_wp2_with (first | (go_at_call 25; refine (flags_any F _).mono ?_; rintro e w1 ⟨rfl, hb1⟩; have k1 : Below w.heap.size w w1 := Below.trans (by repeat (first | (with_reducible refine Below.drew ?_) | (with_reducible refine below_drewN ?_ _) | (with_reducible refine Below.alloc ?_ (by first | (simp; done) | (simp; omega)) _) | (with_reducible refine Below.setCell ?_ (by first | (simp; done) | (simp; omega)) _) | with_reducible exact Below.refl _ _)) (hb1.mono (by first | (simp; done) | (simp; omega))); have hT1 := PrintTabs_below HPT.out k1) | (go_at_call 27; refine (cT _ hT1).mono ?_; rintro e w2 ⟨rfl, hb2⟩))
  go_ret
  exact ⟨rfl, k1.trans (hb2.mono k1.size)⟩

/-- The flags without a width. -/
def tightF (F : Fl) : Fl := { F with wid := 0, hw := false }
theorem tightF_ok {F : Fl} (h : F.Ok) : (tightF F).Ok := ⟨Int.le_refl 0, show (0 : Int) ≤ 4095 by decide, h.plo, h.phi⟩

set_option maxHeartbeats 2000000 in
set_option maxRecDepth 100000 in
/-- laws.tight. -/
theorem tight_any (F : Fl) (w : World) :
    Calls Tryd.prog 13 #[(.agg #[.int .i64 F.wid, .int .i64 F.prec, .bool F.hw, .bool F.hp, .bool F.mi, .bool F.pl, .bool F.sh, .bool F.sp, .bool F.ze])] w fun e w' => e = .returned (.agg #[.int .i64 0, .int .i64 F.prec, .bool false, .bool F.hp, .bool F.mi, .bool F.pl, .bool F.sh, .bool F.sp, .bool F.ze]) ∧ Below w.heap.size w w' := by
  obtain ⟨wid, prec, hw, hp, mi, pl, sh, sp, ze⟩ := F
  go_enter Tryd.func13, Tryd.ntmps13
  go_wp2
  refine bodyPost_ret (v := .agg #[.int .i64 0, .int .i64 prec, .bool false, .bool hp, .bool mi, .bool pl, .bool sh, .bool sp, .bool ze]) (by simp [results, Tryd.results13, go_sem]) rfl ⟨rfl, ?_⟩
  exact (by repeat (first | (with_reducible refine Below.drew ?_) | (with_reducible refine below_drewN ?_ _) | (with_reducible refine Below.alloc ?_ (by first | (simp; done) | (simp; omega)) _) | (with_reducible refine Below.setCell ?_ (by first | (simp; done) | (simp; omega)) _) | with_reducible exact Below.refl _ _))

end Go.Proofs.YtdadbfehackfjaaDoor
