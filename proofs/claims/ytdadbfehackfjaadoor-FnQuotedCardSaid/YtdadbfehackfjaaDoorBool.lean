/- FnBool: a truth value is written as true or false, filled up to the width: the walk of the law returns true at every flags. No condition. And what a buffer holds, read as a string. -/
import Derived.Test.YtdadbfehackfjaaDoorTruncate
set_option linter.unusedVariables false
set_option linter.unusedSimpArgs false
namespace Go.Proofs.YtdadbfehackfjaaDoor
open Go.RowKit Go.Deep

theorem strOfNums_self (t : ByteArray) : strOfNums (t.data.toList.map fun x => (x.toNat : Int)) = t := by
  cases t with
  | mk d =>
    have h : ∀ l : List UInt8, l.map ((fun n : Int => UInt8.ofNat n.toNat) ∘ fun x : UInt8 => (x.toNat : Int)) = l := by
      intro l
      induction l with
      | nil => rfl
      | cons x r ih => simp [ih]
    simp [strOfNums, h]
theorem empty_of_size (s : ByteArray) (h : s.size = 0) : s = ⟨#[]⟩ := by
  cases s with
  | mk d =>
    have : d = #[] := Array.eq_empty_of_size_eq_zero h
    rw [this]

/-- The text that a row of bytes reads as. -/
theorem own_conv {w : World} {B : Nat} {v : Value} {s : ByteArray} (T : TypeId) (hT : Tryd.prog.underlying T = some (.slice 5)) (h : w.ownsRow B 5 1 v s.size (Lib.strCells s)) : (convert T 9 v).run Tryd.prog w = .ok (.string s) w := by
  rcases h.2 with ⟨rfl, h0⟩ | ⟨g, cap, cur, rfl, _, hh, _⟩
  · rw [empty_of_size s h0]
    exact run_convert_bytes_nil (P := Tryd.prog) w T 5 hT Tryd.underlying5 0 0 9 Tryd.underlying9
  · have := run_convert_bytes_arg (P := Tryd.prog) w T 5 hT Tryd.underlying5 g 0 s.size cap (s.data.toList.map fun x => (x.toNat : Int)) (by rw [List.length_map, Array.length_toList]; rfl)
      (fun i hi => by
        rw [Nat.zero_add, h.cellAt i (by omega), strCells_get s i hi]
        congr 2
        have hj : i < s.data.toList.length := by rw [Array.length_toList]; exact hi
        simp only [List.getD, List.getElem?_map, List.getElem?_eq_getElem hj, Option.map_some, Option.getD_some]
        cases s with
        | mk d => show ((d[i]!).toNat : Int) = _; rw [getElem!_pos d i hi]; simp) 9 Tryd.underlying9
    rwa [strOfNums_self] at this
theorem St.conv {W0 w : World} {o f : Nat} {F : Fl} {I : List Value} {s : ByteArray} (h : St W0 w o f F I s) :
    ∃ v, w.cell? ⟨o, 0, none⟩ = some v ∧ (convert 55 9 v).run Tryd.prog w = .ok (.string s) w := by
  obtain ⟨v, hv, ho⟩ := h.ob
  exact ⟨v, cell_of_row w o 0 _ _ (0, 0) hv, own_conv _ Tryd.underlying55 ho⟩
/-- What a call that makes a formatter leaves: what was there stands. -/
theorem St.done {w w1 w2 : World} {o f : Nat} {F : Fl} {I : List Value} {s : ByteArray} (h : St w1 w2 o f F I s) (hb : Below w.heap.size w w1) (ho : w.heap.size ≤ o) (hf : w.heap.size ≤ f) : Below w.heap.size w w2 :=
  h.bel.below hb (Nat.le_refl _) ho hf

def trueText : ByteArray := ⟨#[116, 114, 117, 101]⟩
def falseText : ByteArray := ⟨#[102, 97, 108, 115, 101]⟩
def boolText (b : Bool) : ByteArray := if b then trueText else falseText

/-- The cells of a box that holds flags. -/
def Boxed (w : World) (b : Nat) (F : Fl) : Prop := w.cell? ⟨b, 0, none⟩ = some (.int .i64 F.wid) ∧ w.cell? ⟨b, 1, none⟩ = some (.int .i64 F.prec) ∧ w.cell? ⟨b, 2, none⟩ = some (.bool F.hw) ∧ w.cell? ⟨b, 3, none⟩ = some (.bool F.hp) ∧ w.cell? ⟨b, 4, none⟩ = some (.bool F.mi) ∧ w.cell? ⟨b, 5, none⟩ = some (.bool F.pl) ∧ w.cell? ⟨b, 6, none⟩ = some (.bool F.sh) ∧ w.cell? ⟨b, 7, none⟩ = some (.bool F.sp) ∧ w.cell? ⟨b, 8, none⟩ = some (.bool F.ze)
theorem Boxed.below {w w' : World} {b : Nat} {F : Fl} (h : Boxed w b F) (hb : Below w.heap.size w w') : Boxed w' b F := by
  obtain ⟨h0, h1, h2, h3, h4, h5, h6, h7, h8⟩ := h
  have k : ∀ {i : Nat} {v : Value}, w.cell? ⟨b, i, none⟩ = some v → w'.cell? ⟨b, i, none⟩ = some v := fun hc => (hb.cell (World.block_lt_of_cell? w _ hc)).trans hc
  exact ⟨k h0, k h1, k h2, k h3, k h4, k h5, k h6, k h7, k h8⟩
theorem Boxed.drew {w : World} {b : Nat} {F : Fl} (h : Boxed w b F) : Boxed w.drew b F := h
theorem Boxed.drewN {w : World} {b : Nat} {F : Fl} (h : Boxed w b F) (n : Nat) : Boxed (w.drewN n) b F := h

/-- Flags stored into a box. -/
def refilled (w : World) (b : Nat) (F : Fl) : World :=
  ((((((((w.setCell ⟨b, 0, none⟩ (.int .i64 F.wid)).setCell ⟨b, 1, none⟩ (.int .i64 F.prec)).setCell ⟨b, 2, none⟩ (.bool F.hw)).setCell ⟨b, 3, none⟩ (.bool F.hp)).setCell ⟨b, 4, none⟩ (.bool F.mi)).setCell ⟨b, 5, none⟩ (.bool F.pl)).setCell ⟨b, 6, none⟩ (.bool F.sh)).setCell ⟨b, 7, none⟩ (.bool F.sp)).setCell ⟨b, 8, none⟩ (.bool F.ze)
theorem cell_set_new {w : World} {b i : Nat} {v u : Value} (h : w.cell? ⟨b, i, none⟩ = some v) : (w.setCell ⟨b, i, none⟩ u).cell? ⟨b, i, none⟩ = some u := by
  have hlt := World.block_lt_of_cell? w _ h
  unfold World.cell? at h ⊢
  unfold World.setCell
  simp only at h ⊢
  simp only [Array.getElem?_modify]
  cases hb : w.heap[b]? with
  | none => simp [hb] at h
  | some x =>
    cases x <;> simp_all
    rw [Array.getElem?_setIfInBounds]
    have := (Array.getElem?_eq_some_iff.1 h).1
    simp [this]
theorem Boxed.refill {w : World} {b : Nat} {F : Fl} (h : Boxed w b F) (G : Fl) : Boxed (refilled w b G) b G := by
  obtain ⟨h0, h1, h2, h3, h4, h5, h6, h7, h8⟩ := h
  have o : ∀ {W : World} {i j : Nat} {u : Value}, i ≠ j → (W.setCell ⟨b, j, none⟩ u).cell? ⟨b, i, none⟩ = W.cell? ⟨b, i, none⟩ := fun {W i j u} hne => World.cell?_setCell_other W _ _ u (by intro e; injection e with _ e; exact hne (by omega))
  unfold refilled Boxed
  refine ⟨?_, ?_, ?_, ?_, ?_, ?_, ?_, ?_, ?_⟩
  all_goals (
    repeat rw [o (by decide)]
    refine cell_set_new (v := ?_) ?_
    rotate_left
    · repeat rw [o (by decide)]
      assumption)
theorem below_refilled {a w : World} {B b : Nat} (h : Below B a w) (hb : B ≤ b) (G : Fl) : Below B a (refilled w b G) := by
  unfold refilled
  exact (((((((((h.setCell hb _).setCell hb _).setCell hb _).setCell hb _).setCell hb _).setCell hb _).setCell hb _).setCell hb _).setCell hb _)

end Go.Proofs.YtdadbfehackfjaaDoor
