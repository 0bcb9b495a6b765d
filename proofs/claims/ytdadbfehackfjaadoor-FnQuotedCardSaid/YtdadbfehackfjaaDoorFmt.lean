/- The walks of the formatter's writers: the count of runes in Go's library, buffer.write and writeString, padString and pad, and the making of a formatter. Conditions: texts take no more than 2^39 bytes; widths lie between 0 and 4095. -/
import Derived.Test.YtdadbfehackfjaaDoorPadding
import Derived.Lib.AppendStr
import Derived.Laws.RangeString
import Derived.Laws.RangeAny
set_option linter.unusedVariables false
set_option linter.unusedSimpArgs false
namespace Go.Proofs.YtdadbfehackfjaaDoor
open Go.RowKit Go.Deep

theorem own_slice {w : World} {v : Value} {B n : Nat} {xs : List Value} (h : w.ownsRow B 5 1 v n xs) : ∃ A n' c, v = .slice A n' c := by
  rcases h.2 with ⟨rfl, _⟩ | ⟨g, cap, cur, rfl, _⟩
  · exact ⟨_, _, _, rfl⟩
  · exact ⟨_, _, _, rfl⟩
theorem below_iter (w : World) (s : ByteArray) (pos : Nat) : Below w.heap.size w (w.iter s pos) := (Below.refl _ _).alloc (Nat.le_refl _) _

set_option maxHeartbeats 1000000 in
set_option maxRecDepth 1000000 in
/-- unicode/utf8.RuneCountInString. -/
theorem rcs_any (s : ByteArray) (w : World) (hs : s.size ≤ 140737488355328) :
    Calls Tryd.prog 57 #[.string s] w fun e w' => e = .returned (.int .i64 (Lib.runeCount s)) ∧ Below w.heap.size w w' := by
  go_enter Tryd.func57, Tryd.ntmps57
  go_wp2
  go_loopw [2] (fun n w' => ∃ (pos b acc : Nat), w' = w.iter s pos ∧ n = .int .i64 acc ∧ acc + Lib.runeCountFrom s b pos = Lib.runeCount s ∧ s.size ≤ pos + b ∧ acc ≤ pos) (fun _ w' => s.size - w'.iterPos w.heap.size)
  case atStart => exact ⟨0, s.size, 0, rfl, rfl, by simp [Lib.runeCount], by omega, Nat.le_refl _⟩
  case round =>
    obtain ⟨pos, b, acc, rfl, rfl, hc, hb, ha⟩ := hrel
    by_cases hp : pos < s.size
    · have hnx : ∀ ty, (Instr.next (.pointer (some ⟨w.heap.size, 0, none⟩)) true ty).run Tryd.prog (w.iter s pos) = _ := fun ty => run_next_any w s pos ty hp
      have hwd := Lib.decode_width_pos s pos hp
      go_wp2
      go_roundw
      case rel =>
        cases b with
        | zero => omega
        | succ b =>
          refine ⟨pos + (Utf8.decode s pos).2, b, acc + 1, rfl, by go_num, ?_, by omega, by omega⟩
          rw [← hc]
          simp [Lib.runeCountFrom, hp]
          omega
      case measure =>
        simp
        omega
    · have hnx : ∀ ty, (Instr.next (.pointer (some ⟨w.heap.size, 0, none⟩)) true ty).run Tryd.prog (w.iter s pos) = _ := fun ty => run_next_end w s pos ty hp
      go_wp2
      go_ret
      rw [Lib.runeCountFrom_end s b pos hp, Nat.add_zero] at hc
      subst hc
      exact ⟨rfl, below_iter _ _ _⟩

set_option maxHeartbeats 1000000 in
set_option maxRecDepth 100000 in
/-- (*buffer).writeString. -/
theorem ws_any {W0 w : World} {o f : Nat} {F : Fl} {I : List Value} {s : ByteArray} (h : St W0 w o f F I s) (t : ByteArray) (hs : s.size + t.size ≤ 1099511627776) :
    Calls Tryd.prog 56 #[.pointer (some ⟨o, 0, none⟩), .string t] w fun e w' => e = .returned (.tuple #[]) ∧ St W0 w' o f F I (s ++ t) := by
  obtain ⟨i0, hi, hz0, hz1, hz2⟩ := info_parts Tryd.info5
  obtain ⟨v, hv, ho⟩ := h.ob
  have co : w.cell? ⟨o, 0, none⟩ = some v := cell_of_row w o 0 _ _ (0, 0) hv
  have H := Lib.hid h
  have HV := Lib.hid hv
  have HO := Lib.hid ho
  have hb := h.base
  have hno := own_ne ho hv (by decide)
  have HN := Lib.hid hno
  have HL := Lib.hid h.olt
  clear h hv ho hno
  go_enter Tryd.func56, Tryd.ntmps56
  go_wp2_with (at_builtin; refine Lib.wpList_append_own_string _ rfl _ _ 55 9 rfl W0.heap.size 5 i0 Tryd.underlying55 Tryd.underlying9 hi hz0 hz1 hz2 v s.size (Lib.strCells s) rfl HO.out t rfl (by unfold maxLen; omega) (by omega) hb ?_; intro v' w1 ho1 hg1 _; obtain ⟨A', n', c', rfl⟩ := own_slice ho1; have HO1 := Lib.hid ho1; have HG1 := Lib.hid hg1; have c1 : w1.cell? ⟨o, 0, none⟩ = some v := (World.cell?_of_block (a := ⟨o, 0, none⟩) (hg1.block o HL.out HN.out)).trans co; have z1 : w1.frozen? ⟨o, 0, none⟩ = false := (World.frozen?_of_block (a := ⟨o, 0, none⟩) (hg1.block o HL.out HN.out)).trans (H.out.ofree 0); clear ho1 hg1)
  go_end0
  exact ⟨rfl, H.out.wrote HV.out HO.out HG1.out HO1.out⟩

set_option maxHeartbeats 1000000 in
set_option maxRecDepth 100000 in
/-- (*buffer).write. -/
theorem wb_any {W0 w : World} {o f : Nat} {F : Fl} {I : List Value} {s : ByteArray} (h : St W0 w o f F I s) (t : ByteArray) (A : Option Addr) (c : Nat) (hr : Rd w A t) (hs : s.size + t.size ≤ 1099511627776) :
    Calls Tryd.prog 60 #[.pointer (some ⟨o, 0, none⟩), .slice A t.size c] w fun e w' => e = .returned (.tuple #[]) ∧ St W0 w' o f F I (s ++ t) := by
  obtain ⟨i0, hi, hz0, hz1, hz2⟩ := info_parts Tryd.info5
  obtain ⟨v, hv, ho⟩ := h.ob
  have co : w.cell? ⟨o, 0, none⟩ = some v := cell_of_row w o 0 _ _ (0, 0) hv
  have H := Lib.hid h
  have HV := Lib.hid hv
  have HO := Lib.hid ho
  have HR := Lib.hid hr
  have hb := h.base
  have hno := own_ne ho hv (by decide)
  have HN := Lib.hid hno
  have HL := Lib.hid h.olt
  clear h hv ho hno hr
  go_enter Tryd.func60, Tryd.ntmps60
  go_wp2_with (at_builtin; refine wpList_append_bytes _ rfl _ _ 55 29 rfl W0.heap.size 5 5 i0 Tryd.underlying55 Tryd.underlying29 hi hz0 hz1 hz2 v s.size (Lib.strCells s) rfl HO.out A t.size c t rfl rfl HR.out (by omega) hb ?_; intro v' w1 ho1 hg1; obtain ⟨A', n', c', rfl⟩ := own_slice ho1; have HO1 := Lib.hid ho1; have HG1 := Lib.hid hg1; have c1 : w1.cell? ⟨o, 0, none⟩ = some v := (World.cell?_of_block (a := ⟨o, 0, none⟩) (hg1.block o HL.out HN.out)).trans co; have z1 : w1.frozen? ⟨o, 0, none⟩ = false := (World.frozen?_of_block (a := ⟨o, 0, none⟩) (hg1.block o HL.out HN.out)).trans (H.out.ofree 0); clear ho1 hg1)
  go_end0
  exact ⟨rfl, H.out.wrote HV.out HO.out HG1.out HO1.out⟩

theorem padOf_none (F : Fl) (t : ByteArray) (h : F.hw = false) : padOf F t = t := by unfold padOf; rw [if_pos h]
theorem padOf_zero (F : Fl) (t : ByteArray) (h : F.wid = 0) : padOf F t = t := by
  unfold padOf
  rw [h, show (0 - (Lib.runeCount t : Int)).toNat = 0 by omega, fill_zero, fill_zero]
  repeat' split
  all_goals first | rfl | exact app_nil t | exact nil_app t
theorem padOf_left (F : Fl) (t : ByteArray) (h : F.hw = true) (hm : F.mi = false) : padOf F t = fill (padByte F.ze F.mi) (F.wid - Lib.runeCount t).toNat ++ t := by
  unfold padOf padByte
  rw [h, hm]
  cases F.ze <;> rfl
theorem padOf_right (F : Fl) (t : ByteArray) (h : F.hw = true) (hm : F.mi = true) : padOf F t = t ++ fill (padByte F.ze F.mi) (F.wid - Lib.runeCount t).toNat := by
  unfold padOf padByte
  rw [h, hm]
  cases F.ze <;> rfl
theorem app_assoc (a b c : ByteArray) : a ++ b ++ c = a ++ (b ++ c) := by
  apply ByteArray.ext
  simp [ByteArray.data_append, Array.append_assoc]

set_option maxHeartbeats 2000000 in
set_option maxRecDepth 100000 in
/-- (*fmt).padString. -/
theorem ps_any {W0 w : World} {o f : Nat} {F : Fl} {I : List Value} {s : ByteArray} (h : St W0 w o f F I s) (hF : F.Ok) (t : ByteArray) (hs : s.size ≤ 4096) (ht : t.size ≤ 274877906944) :
    Calls Tryd.prog 44 #[.pointer (some ⟨f, 0, none⟩), .string t] w fun e w' => e = .returned (.tuple #[]) ∧ St W0 w' o f F I (s ++ padOf F t) := by
  have c0 : w.cell? ⟨f, 0, none⟩ = some (.pointer (some ⟨o, 0, none⟩)) := h.fcell 0
  have c1 : w.cell? ⟨f, 1, none⟩ = some (.bool F.hw) := h.fcell 1
  have c3 : w.cell? ⟨f, 3, none⟩ = some (.bool F.mi) := h.fcell 3
  have c10 : w.cell? ⟨f, 10, none⟩ = some (.int .i64 F.wid) := h.fcell 10
  have w0 := hF.wlo
  have w1 := hF.whi
  have hrl := Lib.runeCount_le t
  have H := Lib.hid h
  have hw0 := ws_any h t (by omega)
  have HW0 := Lib.hid hw0
  clear h hw0
  rcases hz : F.hw with _ | _
  · rw [padOf_none F t hz]
    rw [hz] at c1
    clear hz
    go_enter Tryd.func44, Tryd.ntmps44
    go_wp2_with (go_at_call 56; refine HW0.out.mono ?_; rintro e w2 ⟨rfl, hS⟩)
    exact bodyPost_ret (results_none rfl _ _ _) rfl ⟨rfl, hS⟩
  · by_cases hwz : F.wid = 0
    · rw [padOf_zero F t hwz]
      rw [hz] at c1
      rw [hwz] at c10
      clear hz hwz
      go_enter Tryd.func44, Tryd.ntmps44
      go_wp2_with (go_at_call 56; refine HW0.out.mono ?_; rintro e w2 ⟨rfl, hS⟩)
      exact bodyPost_ret (results_none rfl _ _ _) rfl ⟨rfl, hS⟩
    · have hwb : (F.wid == 0) = false := by simp; omega
      rcases hm : F.mi with _ | _
      · rw [padOf_left F t hz hm, ← app_assoc]
        rw [hz] at c1
        rw [hm] at c3
        have Hm := Lib.hid hm
        clear hz hm hwz
        have cRC := fun W => rcs_any t W (by omega)
        obtain ⟨r, hr⟩ : ∃ r, Lib.runeCount t = r := ⟨_, rfl⟩
        rw [hr] at cRC hrl ⊢
        clear hr
        go_enter Tryd.func44, Tryd.ntmps44
        go_wp2
        go_region_with ((go_at_call 57; refine (cRC _).mono ?_; rintro e w2 ⟨rfl, hb2⟩; have hS2 : St W0 w2 o f F I s := St.below (by first | exact H.out | exact H.out.drew | exact H.out.drewN _) hb2; have d10 : w2.cell? ⟨f, 10, none⟩ = some (.int .i64 F.wid) := hS2.fcell 10; have d3 : w2.cell? ⟨f, 3, none⟩ = some (.bool false) := by rw [hS2.fcell 3, ← Hm.out]; rfl))
        all_goals (
          go_wp2_with (first | (go_at_call 58; refine (padding_any (W0 := W0) (o := o) (F := F) (I := I) (s := s) (by first | exact hS2 | exact hS2.drew | exact hS2.drewN _) _ (by omega) (by omega)).mono ?_; rintro e w3 ⟨rfl, hS3⟩; have e0 : w3.cell? ⟨f, 0, none⟩ = some (.pointer (some ⟨o, 0, none⟩)) := hS3.fcell 0) | (go_at_call 56; refine (ws_any hS3 t (by rw [size_app, fill_size]; omega)).mono ?_; rintro e w4 ⟨rfl, hS4⟩))
          go_end0
          exact ⟨rfl, hS4⟩)
      · rw [padOf_right F t hz hm, ← app_assoc]
        rw [hz] at c1
        rw [hm] at c3
        have Hm := Lib.hid hm
        clear hz hm hwz
        have cRC := fun W => rcs_any t W (by omega)
        obtain ⟨r, hr⟩ : ∃ r, Lib.runeCount t = r := ⟨_, rfl⟩
        rw [hr] at cRC hrl ⊢
        clear hr
        go_enter Tryd.func44, Tryd.ntmps44
        go_wp2
        go_region_with ((go_at_call 57; refine (cRC _).mono ?_; rintro e w2 ⟨rfl, hb2⟩; have hS2 : St W0 w2 o f F I s := St.below (by first | exact H.out | exact H.out.drew | exact H.out.drewN _) hb2; have d10 : w2.cell? ⟨f, 10, none⟩ = some (.int .i64 F.wid) := hS2.fcell 10; have d0 : w2.cell? ⟨f, 0, none⟩ = some (.pointer (some ⟨o, 0, none⟩)) := hS2.fcell 0; have d3 : w2.cell? ⟨f, 3, none⟩ = some (.bool true) := by rw [hS2.fcell 3, ← Hm.out]; rfl))
        all_goals (
          go_wp2_with (first | (go_at_call 58; refine (padding_any hS3 _ (by omega) (by rw [size_app]; omega)).mono ?_; rintro e w4 ⟨rfl, hS4⟩) | (go_at_call 56; refine (ws_any (W0 := W0) (o := o) (f := f) (F := F) (I := I) (s := s) (by first | exact hS2 | exact hS2.drew | exact hS2.drewN _) t (by omega)).mono ?_; rintro e w3 ⟨rfl, hS3⟩; have e0 : w3.cell? ⟨f, 0, none⟩ = some (.pointer (some ⟨o, 0, none⟩)) := hS3.fcell 0))
          go_end0
          exact ⟨rfl, hS4⟩)

end Go.Proofs.YtdadbfehackfjaaDoor
