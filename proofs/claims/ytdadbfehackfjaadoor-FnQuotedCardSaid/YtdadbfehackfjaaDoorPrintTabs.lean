/- The four tables of strconv.IsPrint at this translation: from the listed data to what the walks ask; and what they say of some runes. -/
import Derived.Test.YtdadbfehackfjaaDoorRows
import Derived.Test.YtdadbfehackfjaaDoorPrintCalls
import Derived.Lib.LaidPrint
import Derived.PinnedBridge
import Derived.Below
import Derived.WalkKit
import Derived.LaidOnce
import Derived.SevenTiedAt
set_option linter.unusedVariables false
namespace Go.Proofs.YtdadbfehackfjaaDoor
open Go.Shelf Go.Lib Go.RowKit

theorem printExtra : PrintExtra Tryd.prog Tryd.lays339_ren := { n20 := by kernel_rfl, n21 := by kernel_rfl, n22 := by kernel_rfl, n23 := by kernel_rfl, y20 := by kernel_rfl, y21 := by kernel_rfl, y22 := by kernel_rfl, y23 := by kernel_rfl, c49 := by kernel_rfl, c51 := by kernel_rfl }
theorem printTabs_of {w : World} {laid : List (String × DataW Unit)} (hL : laidMet Tryd.prog laid w) (m20 : ("strconv.isPrint16", Rows.laid_strconv_isPrint16) ∈ laid) (m21 : ("strconv.isNotPrint16", Rows.laid_strconv_isNotPrint16) ∈ laid) (m22 : ("strconv.isPrint32", Rows.laid_strconv_isPrint32) ∈ laid) (m23 : ("strconv.isNotPrint32", Rows.laid_strconv_isNotPrint32) ∈ laid) : Lib.PrintTabsAt 0 1 2 3 Lib.goPrintTabs w :=
  printTabs_of_reads Tryd.lays339 printExtra (Pinned.isPrint16_eq ▸ Lib.laidMet.reads hL m20) (Pinned.isNotPrint16_eq ▸ Lib.laidMet.reads hL m21) (Pinned.isPrint32_eq ▸ Lib.laidMet.reads hL m22) (Pinned.isNotPrint32_eq ▸ Lib.laidMet.reads hL m23)

theorem TabSlice_below {g : Nat} {k : IntKind} {t : List Nat} {w w' : World} (h : TabSlice g k t w) (h0 : 0 < t.length) (hb : Below w.heap.size w w') : TabSlice g k t w' := by
  obtain ⟨R, o, c, h1, h2⟩ := h
  exact ⟨R, o, c, (hb.cell (World.block_lt_of_cell? w _ h1)).trans h1, fun j hj => (hb.cell (World.block_lt_of_cell? w _ (h2 j hj))).trans (h2 j hj)⟩
theorem PrintTabs_below {g20 g21 g22 g23 : Nat} {T : PrintTabs} {w w' : World} (h : PrintTabsAt g20 g21 g22 g23 T w) (hb : Below w.heap.size w w') : PrintTabsAt g20 g21 g22 g23 T w' := by
  obtain ⟨h1, h2, h3, h4, ⟨k1, k2, k3, k4⟩, h5, h6⟩ := h
  exact ⟨TabSlice_below h1 k1 hb, TabSlice_below h2 k2 hb, TabSlice_below h3 k3 hb, TabSlice_below h4 k4 hb, ⟨k1, k2, k3, k4⟩, h5, h6⟩

/-- Can this rune be printed? -/
def prn (r : Int) : Bool := isPrintR goPrintTabs r
theorem prn_low (r : Int) (h : r < 32) : prn r = false := by
  unfold prn isPrintR
  rw [if_pos (by omega)]
  unfold isPrintLatin
  simp
  omega
theorem prn_ascii (r : Int) (h0 : 32 ≤ r) (h1 : r < 127) : prn r = true := by
  unfold prn isPrintR
  rw [if_pos (by omega)]
  unfold isPrintLatin
  simp
  omega
theorem prn_del : prn 127 = false := by
  unfold prn isPrintR
  rw [if_pos (by decide)]
  decide
theorem prn_sur (r : Int) (h0 : 55296 ≤ r) (h1 : r ≤ 57343) : prn r = false := by
  have key : (List.range 2048).all (fun i => isPrintR goPrintTabs ((55296 + i : Nat) : Int) == false) = true := by kernel_rfl
  have := List.all_eq_true.1 key (r.toNat - 55296) (by rw [List.mem_range]; omega)
  have e : ((55296 + (r.toNat - 55296) : Nat) : Int) = r := by omega
  rw [e] at this
  exact (beq_iff_eq).1 this

end Go.Proofs.YtdadbfehackfjaaDoor
