/- The walks of laws.clean and impl.flags: flags as Printf makes them, and as the package wants them. -/
import Derived.Test.YtdadbfehackfjaaDoorSpec
import Derived.Deep.RegionHeld3
import Derived.RegionTactic
set_option linter.unusedVariables false
set_option linter.unusedSimpArgs false
namespace Go.Proofs.YtdadbfehackfjaaDoor
open Go.RowKit Go.Deep

def Fl.clean (F : Fl) : Fl := { F with wid := F.wid % 4096, prec := F.prec % 4096, ze := F.ze && !F.mi }
theorem clean_ok (F : Fl) : F.clean.Ok := by
  constructor <;> (simp only [Fl.clean]; omega)

set_option maxHeartbeats 2000000 in
set_option maxRecDepth 100000 in
theorem clean_any (F : Fl) (w : World) (h0 : -9223372036854775808 ≤ F.wid) (h1 : F.wid ≤ 9223372036854775807) (h2 : -9223372036854775808 ≤ F.prec) (h3 : F.prec ≤ 9223372036854775807) :
    Calls Tryd.prog 7 #[(.agg #[.int .i64 F.wid, .int .i64 F.prec, .bool F.hw, .bool F.hp, .bool F.mi, .bool F.pl, .bool F.sh, .bool F.sp, .bool F.ze])] w fun e w' => e = .returned (.agg #[.int .i64 F.clean.wid, .int .i64 F.clean.prec, .bool F.clean.hw, .bool F.clean.hp, .bool F.clean.mi, .bool F.clean.pl, .bool F.clean.sh, .bool F.clean.sp, .bool F.clean.ze]) ∧ Below w.heap.size w w' := by
  obtain ⟨wid, prec, hw, hp, mi, pl, sh, sp, ze⟩ := F
  simp only [Fl.clean] at h0 h1 h2 h3 ⊢
  have c0 := fun W => below_any wid W h0 h1
  have c1 := fun W => below_any prec W h2 h3
  obtain ⟨a, ha⟩ : ∃ a, wid % 4096 = a := ⟨_, rfl⟩
  obtain ⟨b, hb⟩ : ∃ b, prec % 4096 = b := ⟨_, rfl⟩
  rw [ha] at c0 ⊢
  rw [hb] at c1 ⊢
  clear ha hb h0 h1 h2 h3
  go_enter Tryd.func7, Tryd.ntmps7
  go_wp2
  go_region_with (first | ((with_reducible refine (c0 _).mono ?_); rintro e w1 ⟨rfl, rfl⟩) | ((with_reducible refine (c1 _).mono ?_); rintro e w1 ⟨rfl, rfl⟩))
  all_goals cases ze
  all_goals go_wp2
  all_goals (
    first
    | refine bodyPost_ret (v := .agg #[.int .i64 a, .int .i64 b, .bool hw, .bool hp, .bool mi, .bool pl, .bool sh, .bool sp, .bool (false && !mi)]) (by simp [results, Tryd.results7, go_sem]) rfl ⟨rfl, ?_⟩
    | refine bodyPost_ret (v := .agg #[.int .i64 a, .int .i64 b, .bool hw, .bool hp, .bool mi, .bool pl, .bool sh, .bool sp, .bool (true && !mi)]) (by simp [results, Tryd.results7, go_sem]) rfl ⟨rfl, ?_⟩
    exact (by repeat (first | (with_reducible refine Below.drew ?_) | (with_reducible refine below_drewN ?_ _) | (with_reducible refine Below.alloc ?_ (by first | (simp; done) | (simp; omega)) _) | (with_reducible refine Below.setCell ?_ (by first | (simp; done) | (simp; omega)) _) | with_reducible exact Below.refl _ _)))

set_option maxHeartbeats 2000000 in
set_option maxRecDepth 100000 in
theorem flags_any (F : Fl) (w : World) :
    Calls Tryd.prog 25 #[(.agg #[.int .i64 F.wid, .int .i64 F.prec, .bool F.hw, .bool F.hp, .bool F.mi, .bool F.pl, .bool F.sh, .bool F.sp, .bool F.ze])] w fun e w' => e = .returned (.agg #[.int .i64 F.wid, .int .i64 F.prec, .bool F.hw, .bool F.hp, .bool F.mi, .bool F.pl, .bool F.sh, .bool F.sp, .bool F.ze, .bool false, .bool false]) ∧ Below w.heap.size w w' := by
  go_enter Tryd.func25, Tryd.ntmps25
  go_wp2
  refine bodyPost_ret (v := (.agg #[.int .i64 F.wid, .int .i64 F.prec, .bool F.hw, .bool F.hp, .bool F.mi, .bool F.pl, .bool F.sh, .bool F.sp, .bool F.ze, .bool false, .bool false])) (by simp [results, Tryd.results25, go_sem]) rfl ⟨rfl, ?_⟩
  exact (by repeat (first | (with_reducible refine Below.drew ?_) | (with_reducible refine below_drewN ?_ _) | (with_reducible refine Below.alloc ?_ (by first | (simp; done) | (simp; omega)) _) | (with_reducible refine Below.setCell ?_ (by first | (simp; done) | (simp; omega)) _) | with_reducible exact Below.refl _ _))

end Go.Proofs.YtdadbfehackfjaaDoor
