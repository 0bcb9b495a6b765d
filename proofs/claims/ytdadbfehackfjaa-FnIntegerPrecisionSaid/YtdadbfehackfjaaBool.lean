/- FnBool: a truth value is written as true or false, filled up to the width: the walk of the law returns true at every flags. No condition. And what a buffer holds, read as a string. -/
import Derived.Test.YtdadbfehackfjaaTruncate
set_option linter.unusedVariables false
set_option linter.unusedSimpArgs false
namespace Go.Proofs.Ytdadbfehackfjaa
open Go.RowKit Go.Deep

theorem strOfNums_self (t : ByteArray) : strOfNums (t.data.toList.map fun x => (x.toNat : Int)) = t := by
  cases t with
  | mk d =>
    have h : ∀ l : List UInt8, l.map ((fun n : Int => UInt8.ofNat n.toNat) ∘ fun x : UInt8 => (x.toNat : Int)) = l := by
      intro l
      induction l with
      | nil => rfl
      | cons x r ih => simp [ih]
    simp [strOfNums, h]
theorem empty_of_size (s : ByteArray) (h : s.size = 0) : s = ⟨#[]⟩ := by
  cases s with
  | mk d =>
    have : d = #[] := Array.eq_empty_of_size_eq_zero h
    rw [this]

/-- The text that a row of bytes reads as. -/
theorem own_conv {w : World} {B : Nat} {v : Value} {s : ByteArray} (T : TypeId) (hT : Try.prog.underlying T = some (.slice 5)) (h : w.ownsRow B 5 1 v s.size (Lib.strCells s)) : (convert T 9 v).run Try.prog w = .ok (.string s) w := by
  rcases h.2 with ⟨rfl, h0⟩ | ⟨g, cap, cur, rfl, _, hh, _⟩
  · rw [empty_of_size s h0]
    exact run_convert_bytes_nil (P := Try.prog) w T 5 hT Try.underlying5 0 0 9 Try.underlying9
  · have := run_convert_bytes_arg (P := Try.prog) w T 5 hT Try.underlying5 g 0 s.size cap (s.data.toList.map fun x => (x.toNat : Int)) (by rw [List.length_map, Array.length_toList]; rfl)
      (fun i hi => by
        rw [Nat.zero_add, h.cellAt i (by omega), strCells_get s i hi]
        congr 2
        have hj : i < s.data.toList.length := by rw [Array.length_toList]; exact hi
        simp only [List.getD, List.getElem?_map, List.getElem?_eq_getElem hj, Option.map_some, Option.getD_some]
        cases s with
        | mk d => show ((d[i]!).toNat : Int) = _; rw [getElem!_pos d i hi]; simp) 9 Try.underlying9
    rwa [strOfNums_self] at this
theorem St.conv {W0 w : World} {o f : Nat} {F : Fl} {I : List Value} {s : ByteArray} (h : St W0 w o f F I s) :
    ∃ v, w.cell? ⟨o, 0, none⟩ = some v ∧ (convert 71 9 v).run Try.prog w = .ok (.string s) w := by
  obtain ⟨v, hv, ho⟩ := h.ob
  exact ⟨v, cell_of_row w o 0 _ _ (0, 0) hv, own_conv _ Try.underlying71 ho⟩
/-- What a call that makes a formatter leaves: what was there stands. -/
theorem St.done {w w1 w2 : World} {o f : Nat} {F : Fl} {I : List Value} {s : ByteArray} (h : St w1 w2 o f F I s) (hb : Below w.heap.size w w1) (ho : w.heap.size ≤ o) (hf : w.heap.size ≤ f) : Below w.heap.size w w2 :=
  h.bel.below hb (Nat.le_refl _) ho hf

def trueText : ByteArray := ⟨#[116, 114, 117, 101]⟩
def falseText : ByteArray := ⟨#[102, 97, 108, 115, 101]⟩
def boolText (b : Bool) : ByteArray := if b then trueText else falseText

set_option maxHeartbeats 1000000 in
set_option maxRecDepth 100000 in
theorem fmtBoolean_any {W0 w : World} {o f : Nat} {F : Fl} {I : List Value} (h : St W0 w o f F I ⟨#[]⟩) (hF : F.Ok) (b : Bool) :
    Calls Try.prog 47 #[.pointer (some ⟨f, 0, none⟩), .bool b] w fun e w' => e = .returned (.tuple #[]) ∧ St W0 w' o f F I (padOf F (boolText b)) := by
  cases b
  · have hc : Calls Try.prog 48 #[.pointer (some ⟨f, 0, none⟩), .string ⟨#[102, 97, 108, 115, 101]⟩] w fun e w' => e = .returned (.tuple #[]) ∧ St W0 w' o f F I (padOf F (boolText false)) := by
      have := ps_any h hF falseText (by decide) (by decide)
      rwa [nil_app] at this
    clear h
    go_enter Try.func47, Try.ntmps47
    go_wp2_with (go_at_call 48; refine hc.mono ?_; rintro e w2 ⟨rfl, hS⟩)
    go_end0
    exact ⟨rfl, hS⟩
  · have hc : Calls Try.prog 48 #[.pointer (some ⟨f, 0, none⟩), .string ⟨#[116, 114, 117, 101]⟩] w fun e w' => e = .returned (.tuple #[]) ∧ St W0 w' o f F I (padOf F (boolText true)) := by
      have := ps_any h hF trueText (by decide) (by decide)
      rwa [nil_app] at this
    clear h
    go_enter Try.func47, Try.ntmps47
    go_wp2_with (go_at_call 48; refine hc.mono ?_; rintro e w2 ⟨rfl, hS⟩)
    go_end0
    exact ⟨rfl, hS⟩

set_option maxHeartbeats 2000000 in
set_option maxRecDepth 100000 in
theorem zzBool_any (F : Fl) (hF : F.Ok) (b : Bool) (w : World) :
    Calls Try.prog 34 #[(.agg #[.int .i64 F.wid, .int .i64 F.prec, .bool F.hw, .bool F.hp, .bool F.mi, .bool F.pl, .bool F.sh, .bool F.sp, .bool F.ze, .bool false, .bool false]), .bool b] w fun e w' => e = .returned (.string (padOf F (boolText b))) ∧ Below w.heap.size w w' := by
  obtain ⟨n, hn⟩ : ∃ n, n = w.heap.size + 1 + 1 + 1 := ⟨_, rfl⟩
  have HN := Lib.hid hn
  clear hn
  have cM := fun (W0 W : World) o f I (h : St W0 W o f F I ⟨#[]⟩) => fmtBoolean_any h hF b
  obtain ⟨R, hR⟩ : ∃ R, padOf F (boolText b) = R := ⟨_, rfl⟩
  rw [hR] at cM ⊢
  clear hR
  go_enter Try.func34, Try.ntmps34
  go_wp2_with (first | (go_at_call 45; refine (zzFmt_any F _ _ n (by rw [HN.out]; simp) (by simp)).mono ?_; rintro e w1 ⟨rfl, hb1, hf1⟩; have hS1 := St.start hf1 ((hb1.block (w.heap.size + 1) (by simp)).trans (heap_second w _ _))) | (go_at_call 47; refine (cM _ _ _ _ _ hS1).mono ?_; rintro e w2 ⟨rfl, hS2⟩; obtain ⟨v2, hv2, hcv2⟩ := hS2.conv))
  go_ret
  have k1 : Below w.heap.size w w1 := Below.trans (by repeat (first | (with_reducible refine Below.drew ?_) | (with_reducible refine below_drewN ?_ _) | (with_reducible refine Below.alloc ?_ (by first | (simp; done) | (simp; omega)) _) | (with_reducible refine Below.setCell ?_ (by first | (simp; done) | (simp; omega)) _) | with_reducible exact Below.refl _ _)) (hb1.mono (by first | (simp; done) | (simp; omega)))
  exact ⟨rfl, hS2.done k1 (by omega) (by rw [HN.out]; omega)⟩

set_option maxHeartbeats 2000000 in
set_option maxRecDepth 100000 in
theorem bool_any (F : Fl) (hF : F.Ok) (b : Bool) (w : World) :
    Calls Try.prog 14 #[(.agg #[.int .i64 F.wid, .int .i64 F.prec, .bool F.hw, .bool F.hp, .bool F.mi, .bool F.pl, .bool F.sh, .bool F.sp, .bool F.ze]), .bool b] w fun e w' => e = .returned (.string (padOf F (boolText b))) ∧ Below w.heap.size w w' := by
  have cT := fun (W : World) => zzBool_any F hF b W
  obtain ⟨R, hR⟩ : ∃ R, padOf F (boolText b) = R := ⟨_, rfl⟩
  rw [hR] at cT ⊢
  clear hR
  go_enter Try.func14, Try.ntmps14
  go_wp2_with (first | (go_at_call 33; refine (flags_any F _).mono ?_; rintro e w1 ⟨rfl, hb1⟩) | (go_at_call 34; refine (cT _).mono ?_; rintro e w2 ⟨rfl, hb2⟩))
  go_ret
  refine ⟨rfl, ?_⟩
  refine Below.trans ?_ (hb2.mono (by have := hb1.size; simp at this; omega))
  exact Below.trans (by repeat (first | (with_reducible refine Below.drew ?_) | (with_reducible refine below_drewN ?_ _) | (with_reducible refine Below.alloc ?_ (by first | (simp; done) | (simp; omega)) _) | (with_reducible refine Below.setCell ?_ (by first | (simp; done) | (simp; omega)) _) | with_reducible exact Below.refl _ _)) (hb1.mono (by first | (simp; done) | (simp; omega)))

/-- The cells of a box that holds flags. -/
def Boxed (w : World) (b : Nat) (F : Fl) : Prop := w.cell? ⟨b, 0, none⟩ = some (.int .i64 F.wid) ∧ w.cell? ⟨b, 1, none⟩ = some (.int .i64 F.prec) ∧ w.cell? ⟨b, 2, none⟩ = some (.bool F.hw) ∧ w.cell? ⟨b, 3, none⟩ = some (.bool F.hp) ∧ w.cell? ⟨b, 4, none⟩ = some (.bool F.mi) ∧ w.cell? ⟨b, 5, none⟩ = some (.bool F.pl) ∧ w.cell? ⟨b, 6, none⟩ = some (.bool F.sh) ∧ w.cell? ⟨b, 7, none⟩ = some (.bool F.sp) ∧ w.cell? ⟨b, 8, none⟩ = some (.bool F.ze)
theorem Boxed.below {w w' : World} {b : Nat} {F : Fl} (h : Boxed w b F) (hb : Below w.heap.size w w') : Boxed w' b F := by
  obtain ⟨h0, h1, h2, h3, h4, h5, h6, h7, h8⟩ := h
  have k : ∀ {i : Nat} {v : Value}, w.cell? ⟨b, i, none⟩ = some v → w'.cell? ⟨b, i, none⟩ = some v := fun hc => (hb.cell (World.block_lt_of_cell? w _ hc)).trans hc
  exact ⟨k h0, k h1, k h2, k h3, k h4, k h5, k h6, k h7, k h8⟩
theorem Boxed.drew {w : World} {b : Nat} {F : Fl} (h : Boxed w b F) : Boxed w.drew b F := h
theorem Boxed.drewN {w : World} {b : Nat} {F : Fl} (h : Boxed w b F) (n : Nat) : Boxed (w.drewN n) b F := h

/-- Flags stored into a box. -/
def refilled (w : World) (b : Nat) (F : Fl) : World :=
  ((((((((w.setCell ⟨b, 0, none⟩ (.int .i64 F.wid)).setCell ⟨b, 1, none⟩ (.int .i64 F.prec)).setCell ⟨b, 2, none⟩ (.bool F.hw)).setCell ⟨b, 3, none⟩ (.bool F.hp)).setCell ⟨b, 4, none⟩ (.bool F.mi)).setCell ⟨b, 5, none⟩ (.bool F.pl)).setCell ⟨b, 6, none⟩ (.bool F.sh)).setCell ⟨b, 7, none⟩ (.bool F.sp)).setCell ⟨b, 8, none⟩ (.bool F.ze)
theorem cell_set_new {w : World} {b i : Nat} {v u : Value} (h : w.cell? ⟨b, i, none⟩ = some v) : (w.setCell ⟨b, i, none⟩ u).cell? ⟨b, i, none⟩ = some u := by
  have hlt := World.block_lt_of_cell? w _ h
  unfold World.cell? at h ⊢
  unfold World.setCell
  simp only at h ⊢
  simp only [Array.getElem?_modify]
  cases hb : w.heap[b]? with
  | none => simp [hb] at h
  | some x =>
    cases x <;> simp_all
    rw [Array.getElem?_setIfInBounds]
    have := (Array.getElem?_eq_some_iff.1 h).1
    simp [this]
theorem Boxed.refill {w : World} {b : Nat} {F : Fl} (h : Boxed w b F) (G : Fl) : Boxed (refilled w b G) b G := by
  obtain ⟨h0, h1, h2, h3, h4, h5, h6, h7, h8⟩ := h
  have o : ∀ {W : World} {i j : Nat} {u : Value}, i ≠ j → (W.setCell ⟨b, j, none⟩ u).cell? ⟨b, i, none⟩ = W.cell? ⟨b, i, none⟩ := fun {W i j u} hne => World.cell?_setCell_other W _ _ u (by intro e; injection e with _ e; exact hne (by omega))
  unfold refilled Boxed
  refine ⟨?_, ?_, ?_, ?_, ?_, ?_, ?_, ?_, ?_⟩
  all_goals (
    repeat rw [o (by decide)]
    refine cell_set_new (v := ?_) ?_
    rotate_left
    · repeat rw [o (by decide)]
      assumption)
theorem below_refilled {a w : World} {B b : Nat} (h : Below B a w) (hb : B ≤ b) (G : Fl) : Below B a (refilled w b G) := by
  unfold refilled
  exact (((((((((h.setCell hb _).setCell hb _).setCell hb _).setCell hb _).setCell hb _).setCell hb _).setCell hb _).setCell hb _).setCell hb _)

set_option maxHeartbeats 2000000 in
set_option maxRecDepth 100000 in
theorem fnBool_any (F : Fl) (b : Bool) (w : World) (h0 : -9223372036854775808 ≤ F.wid) (h1 : F.wid ≤ 9223372036854775807) (h2 : -9223372036854775808 ≤ F.prec) (h3 : F.prec ≤ 9223372036854775807) :
    Calls Try.prog 4 #[(.agg #[.int .i64 F.wid, .int .i64 F.prec, .bool F.hw, .bool F.hp, .bool F.mi, .bool F.pl, .bool F.sh, .bool F.sp, .bool F.ze]), .bool b] w fun e w' => e = .returned (.bool true) ∧ Below w.heap.size w w' := by
  have hok := clean_ok F
  have cC := fun W => clean_any F W h0 h1 h2 h3
  obtain ⟨G, hG⟩ : ∃ G, F.clean = G := ⟨_, rfl⟩
  rw [hG] at hok cC
  clear hG h0 h1 h2 h3
  cases b
  · have cB := fun W => bool_any G hok false W
    have cP : ∀ W, Calls Try.prog 15 #[(.agg #[.int .i64 G.wid, .int .i64 G.prec, .bool G.hw, .bool G.hp, .bool G.mi, .bool G.pl, .bool G.sh, .bool G.sp, .bool G.ze]), .string ⟨#[102, 97, 108, 115, 101]⟩] W fun e w' => e = .returned (.string (padOf G (boolText false))) ∧ Below W.heap.size W w' := fun W => specPad_any G falseText W hok (by decide)
    obtain ⟨R, hR⟩ : ∃ R, padOf G (boolText false) = R := ⟨_, rfl⟩
    rw [hR] at cB cP
    clear hR
    go_enter Try.func4, Try.ntmps4
    go_wp2_with (go_at_call 11; refine (cC _).mono ?_; rintro e w1 ⟨rfl, hb1⟩; obtain ⟨hc1, hf1⟩ := bcell hb1)
    have hBx : Boxed (refilled w1 w.heap.size G) w.heap.size G := Boxed.refill (F := F) (Boxed.below (by unfold Boxed; simp) hb1) G
    have hBl : Below w.heap.size w (refilled w1 w.heap.size G) := below_refilled (Below.trans (by repeat (first | (with_reducible refine Below.drew ?_) | (with_reducible refine below_drewN ?_ _) | (with_reducible refine Below.alloc ?_ (by first | (simp; done) | (simp; omega)) _) | (with_reducible refine Below.setCell ?_ (by first | (simp; done) | (simp; omega)) _) | with_reducible exact Below.refl _ _)) (hb1.mono (by first | (simp; done) | (simp; omega)))) (Nat.le_refl _) G
    change Code.wp _ _ _ _ (refilled w1 w.heap.size G)
    generalize refilled w1 w.heap.size G = W at *
    clear hb1 hc1 hf1
    obtain ⟨x0, x1, x2, x3, x4, x5, x6, x7, x8⟩ := id hBx
    have HBx := Lib.hid hBx
    clear hBx
    go_region_with (first | (go_at_call 14; refine (cB _).mono ?_; rintro e w2 ⟨rfl, hb2⟩; have hBx2 : Boxed w2 w.heap.size G := Boxed.below (by exact HBx.out) hb2; obtain ⟨y0, y1, y2, y3, y4, y5, y6, y7, y8⟩ := id hBx2) | (go_at_call 15; refine (cP _).mono ?_; rintro e w3 ⟨rfl, hb3⟩))
    all_goals (
      go_wp2
      go_ret
      have q2 : Below w.heap.size w w2 := (by first | exact (hBl).trans ((hb2).mono (hBl).size) | exact (hBl).drew.trans ((hb2).mono (hBl).size) | exact (below_drewN (hBl) _).trans ((hb2).mono (hBl).size))
      have q3 : Below w.heap.size w w3 := (by first | exact (q2).trans ((hb3).mono (q2).size) | exact (q2).drew.trans ((hb3).mono (q2).size) | exact (below_drewN (q2) _).trans ((hb3).mono (q2).size))
      exact ⟨rfl, (by first | exact q3 | exact (q3).drew | exact below_drewN (q3) _)⟩)
  · have cB := fun W => bool_any G hok true W
    have cP : ∀ W, Calls Try.prog 15 #[(.agg #[.int .i64 G.wid, .int .i64 G.prec, .bool G.hw, .bool G.hp, .bool G.mi, .bool G.pl, .bool G.sh, .bool G.sp, .bool G.ze]), .string ⟨#[116, 114, 117, 101]⟩] W fun e w' => e = .returned (.string (padOf G (boolText true))) ∧ Below W.heap.size W w' := fun W => specPad_any G trueText W hok (by decide)
    obtain ⟨R, hR⟩ : ∃ R, padOf G (boolText true) = R := ⟨_, rfl⟩
    rw [hR] at cB cP
    clear hR
    go_enter Try.func4, Try.ntmps4
    go_wp2_with (go_at_call 11; refine (cC _).mono ?_; rintro e w1 ⟨rfl, hb1⟩; obtain ⟨hc1, hf1⟩ := bcell hb1)
    have hBx : Boxed (refilled w1 w.heap.size G) w.heap.size G := Boxed.refill (F := F) (Boxed.below (by unfold Boxed; simp) hb1) G
    have hBl : Below w.heap.size w (refilled w1 w.heap.size G) := below_refilled (Below.trans (by repeat (first | (with_reducible refine Below.drew ?_) | (with_reducible refine below_drewN ?_ _) | (with_reducible refine Below.alloc ?_ (by first | (simp; done) | (simp; omega)) _) | (with_reducible refine Below.setCell ?_ (by first | (simp; done) | (simp; omega)) _) | with_reducible exact Below.refl _ _)) (hb1.mono (by first | (simp; done) | (simp; omega)))) (Nat.le_refl _) G
    change Code.wp _ _ _ _ (refilled w1 w.heap.size G)
    generalize refilled w1 w.heap.size G = W at *
    clear hb1 hc1 hf1
    obtain ⟨x0, x1, x2, x3, x4, x5, x6, x7, x8⟩ := id hBx
    have HBx := Lib.hid hBx
    clear hBx
    go_region_with (first | (go_at_call 14; refine (cB _).mono ?_; rintro e w2 ⟨rfl, hb2⟩; have hBx2 : Boxed w2 w.heap.size G := Boxed.below (by exact HBx.out) hb2; obtain ⟨y0, y1, y2, y3, y4, y5, y6, y7, y8⟩ := id hBx2) | (go_at_call 15; refine (cP _).mono ?_; rintro e w3 ⟨rfl, hb3⟩))
    all_goals (
      go_wp2
      go_ret
      have q2 : Below w.heap.size w w2 := (by first | exact (hBl).trans ((hb2).mono (hBl).size) | exact (hBl).drew.trans ((hb2).mono (hBl).size) | exact (below_drewN (hBl) _).trans ((hb2).mono (hBl).size))
      have q3 : Below w.heap.size w w3 := (by first | exact (q2).trans ((hb3).mono (q2).size) | exact (q2).drew.trans ((hb3).mono (q2).size) | exact (below_drewN (q2) _).trans ((hb3).mono (q2).size))
      exact ⟨rfl, (by first | exact q3 | exact (q3).drew | exact below_drewN (q3) _)⟩)

end Go.Proofs.Ytdadbfehackfjaa
