/- An argument that is a value of Flags, opened: nine fields, each with its own reading. -/
import Derived.Test.YtdadbfehackfjaaDoorText
import Derived.Lib.SmallJoins
import Derived.ProofKit
import Derived.OpenShut
import Derived.ShutString
import Derived.ChangeOld
set_option linter.unusedVariables false
set_option linter.unusedSimpArgs false
namespace Go.Proofs.YtdadbfehackfjaaDoor
open Go.Joins Go.ChangeShapes Go.WideShapes Go.RowKit Go.Deep
open Go.ChangeMaps (open_string shut_string)

section
variable {H : Type} {enc : TypeId × Value → H} {w : World} {base : Nat} {spare : Nat → Bool} {held : Bool}
theorem open_nine {P : Program} {r : Reach} {b0 : Nat} {t : TypeId} {f0 f1 f2 f3 f4 f5 f6 f7 f8 : Field} {v : Value} {d : DataW H} {p : List MemPlace} (hs : P.underlying t = some (.struct #[f0, f1, f2, f3, f4, f5, f6, f7, f8])) (hone : oneCellFields P #[f0, f1, f2, f3, f4, f5, f6, f7, f8] = true) (hC : P.cellsOf t = 9)
    (hv : Value.okWide P w r b0 t v) (h : DataW.Trod enc P w base spare held t v d p) :
    ∃ (c0 c1 c2 c3 c4 c5 c6 c7 c8 : Value) (y0 y1 y2 y3 y4 y5 y6 y7 y8 : DataW H × List MemPlace) (n : Nat), v = .agg #[c0, c1, c2, c3, c4, c5, c6, c7, c8] ∧
      DataW.trod enc P w base spare held n f0.type [c0] = some y0 ∧ DataW.trod enc P w base spare held n f1.type [c1] = some y1 ∧ DataW.trod enc P w base spare held n f2.type [c2] = some y2 ∧ DataW.trod enc P w base spare held n f3.type [c3] = some y3 ∧ DataW.trod enc P w base spare held n f4.type [c4] = some y4 ∧ DataW.trod enc P w base spare held n f5.type [c5] = some y5 ∧ DataW.trod enc P w base spare held n f6.type [c6] = some y6 ∧ DataW.trod enc P w base spare held n f7.type [c7] = some y7 ∧ DataW.trod enc P w base spare held n f8.type [c8] = some y8 := by
  obtain ⟨cs, rfl, hsz⟩ := okWide_struct hs hv
  obtain ⟨l⟩ := cs
  match l, hsz.trans hC with
  | [c0, c1, c2, c3, c4, c5, c6, c7, c8], _ =>
    obtain ⟨fuel, hf⟩ := h
    obtain ⟨xs, n, _, hx, _, hlen, hg⟩ := DataW.trod_struct hs hf
    obtain ⟨o0, k0⟩ := hone_of hone 0 f0 rfl
    obtain ⟨o1, k1⟩ := hone_of hone 1 f1 rfl
    obtain ⟨o2, k2⟩ := hone_of hone 2 f2 rfl
    obtain ⟨o3, k3⟩ := hone_of hone 3 f3 rfl
    obtain ⟨o4, k4⟩ := hone_of hone 4 f4 rfl
    obtain ⟨o5, k5⟩ := hone_of hone 5 f5 rfl
    obtain ⟨o6, k6⟩ := hone_of hone 6 f6 rfl
    obtain ⟨o7, k7⟩ := hone_of hone 7 f7 rfl
    obtain ⟨o8, k8⟩ := hone_of hone 8 f8 rfl
    match xs, hlen with
    | [y0, y1, y2, y3, y4, y5, y6, y7, y8], _ =>
      exact ⟨c0, c1, c2, c3, c4, c5, c6, c7, c8, y0, y1, y2, y3, y4, y5, y6, y7, y8, n, rfl, by simpa [Value.cells, o0, k0] using hg 0 f0 rfl, by simpa [Value.cells, o1, k1] using hg 1 f1 rfl, by simpa [Value.cells, o2, k2] using hg 2 f2 rfl, by simpa [Value.cells, o3, k3] using hg 3 f3 rfl, by simpa [Value.cells, o4, k4] using hg 4 f4 rfl, by simpa [Value.cells, o5, k5] using hg 5 f5 rfl, by simpa [Value.cells, o6, k6] using hg 6 f6 rfl, by simpa [Value.cells, o7, k7] using hg 7 f7 rfl, by simpa [Value.cells, o8, k8] using hg 8 f8 rfl⟩

/-- A value of Flags. -/
theorem open_flags {r : Reach} {b0 : Nat} {v : Value} {d : DataW H} {p : List MemPlace} (hv : Value.okWide Tryd.prog w r b0 23 v) (h : DataW.Trod enc Tryd.prog w base spare held 23 v d p) :
    ∃ F : Fl, v = (.agg #[.int .i64 F.wid, .int .i64 F.prec, .bool F.hw, .bool F.hp, .bool F.mi, .bool F.pl, .bool F.sh, .bool F.sp, .bool F.ze]) ∧ -9223372036854775808 ≤ F.wid ∧ F.wid ≤ 9223372036854775807 ∧ -9223372036854775808 ≤ F.prec ∧ F.prec ≤ 9223372036854775807 := by
  obtain ⟨c0, c1, c2, c3, c4, c5, c6, c7, c8, y0, y1, y2, y3, y4, y5, y6, y7, y8, n, rfl, h0, h1, h2, h3, h4, h5, h6, h7, h8⟩ := open_nine Tryd.underlying23 (by kernel_rfl) (by kernel_rfl) hv h
  obtain ⟨a0, e0, _, b0⟩ := DataW.trod_int Tryd.underlying3 h0
  obtain ⟨a1, e1, _, b1⟩ := DataW.trod_int Tryd.underlying3 h1
  obtain ⟨a2, e2, _⟩ := DataW.trod_bool Tryd.underlying4 h2
  obtain ⟨a3, e3, _⟩ := DataW.trod_bool Tryd.underlying4 h3
  obtain ⟨a4, e4, _⟩ := DataW.trod_bool Tryd.underlying4 h4
  obtain ⟨a5, e5, _⟩ := DataW.trod_bool Tryd.underlying4 h5
  obtain ⟨a6, e6, _⟩ := DataW.trod_bool Tryd.underlying4 h6
  obtain ⟨a7, e7, _⟩ := DataW.trod_bool Tryd.underlying4 h7
  obtain ⟨a8, e8, _⟩ := DataW.trod_bool Tryd.underlying4 h8
  simp only [List.cons.injEq, and_true] at e0 e1 e2 e3 e4 e5 e6 e7 e8
  subst e0 e1 e2 e3 e4 e5 e6 e7 e8
  have q0 := bounds_i64 b0
  have q1 := bounds_i64 b1
  exact ⟨⟨a0, a1, a2, a3, a4, a5, a6, a7, a8⟩, rfl, q0.1, q0.2, q1.1, q1.2⟩
end

end Go.Proofs.YtdadbfehackfjaaDoor
