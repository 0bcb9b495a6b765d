/- unicode/utf8.AppendRune, onto bytes that are built up in a formatter's intbuf or in a row of their own: every int32. Condition: there is room for four bytes more below 2^47. -/
import Derived.Test.YtdadbfehackfjaaDoorQb
set_option linter.unusedVariables false
set_option linter.unusedSimpArgs false
namespace Go.Proofs.YtdadbfehackfjaaDoor
open Go.RowKit Go.Deep

set_option maxHeartbeats 4000000 in
set_option maxRecDepth 100000 in
theorem nonascii_two {W0 w : World} {o f : Nat} {F : Fl} {v : Value} {xs : List Value} (h : Qb W0 w o f F v xs) (r : Int) (h0 : 128 ≤ r) (h1 : r ≤ 2047) (hb : xs.length + 4 ≤ 140737488355328) :
    Calls Tryd.prog 74 #[v, .int .i32 r] w fun e w' => ∃ v', e = .returned v' ∧ Qb W0 w' o f F v' (xs ++ [.int .u8 (192 + r / 64), .int .u8 (128 + r % 64)]) := by
  obtain ⟨i0, hi, hz0, hz1, hz2⟩ := info_parts Tryd.info5
  go_enter Tryd.func74, Tryd.ntmps74
  go_wp2_with (at_builtin; refine wpList_qb (W0 := W0) (o := o) (f := f) (F := F) (v := v) (xs := xs) rfl _ _ 29 rfl i0 Tryd.underlying29 hi hz0 hz1 hz2 rfl (h.alloc _) ⟨w.heap.size, 0, none⟩ 2 2 [.int .u8 (192 + r / 64), .int .u8 (128 + r % 64)] rfl rfl ?c1 ?c2 ?c3 ?_)
  all_goals first
    | (intro v' w2 hQ2; go_wp2; go_ret; exact ⟨_, rfl, hQ2⟩)
    | omega
    | exact ⟨rfl, rfl, rfl⟩
    | (intro u hu; simp at hu; rcases hu with rfl | rfl <;> rfl)
    | (intro j u hj
       match j, hj with
       | 0, hj => simp at hj; subst hj; simp [Addr.add]
       | 1, hj => simp at hj; subst hj; simp [Addr.add]
       | (j + 2), hj => simp at hj)

set_option maxHeartbeats 4000000 in
set_option maxRecDepth 100000 in
theorem nonascii_lo {W0 w : World} {o f : Nat} {F : Fl} {v : Value} {xs : List Value} (h : Qb W0 w o f F v xs) (r : Int) (h0 : 2048 ≤ r) (h1 : r < 55296) (hb : xs.length + 4 ≤ 140737488355328) :
    Calls Tryd.prog 74 #[v, .int .i32 r] w fun e w' => ∃ v', e = .returned v' ∧ Qb W0 w' o f F v' (xs ++ [.int .u8 (224 + r / 4096), .int .u8 (128 + r / 64 % 64), .int .u8 (128 + r % 64)]) := by
  obtain ⟨i0, hi, hz0, hz1, hz2⟩ := info_parts Tryd.info5
  go_enter Tryd.func74, Tryd.ntmps74
  go_wp2_with (at_builtin; refine wpList_qb (W0 := W0) (o := o) (f := f) (F := F) (v := v) (xs := xs) rfl _ _ 29 rfl i0 Tryd.underlying29 hi hz0 hz1 hz2 rfl (h.alloc _) ⟨w.heap.size, 0, none⟩ 3 3 [.int .u8 (224 + r / 4096), .int .u8 (128 + r / 64 % 64), .int .u8 (128 + r % 64)] rfl rfl ?c1 ?c2 ?c3 ?_)
  all_goals first
    | (intro v' w2 hQ2; go_wp2; go_ret; exact ⟨_, rfl, hQ2⟩)
    | omega
    | exact ⟨rfl, rfl, rfl⟩
    | (intro u hu; simp at hu; rcases hu with rfl | rfl | rfl <;> rfl)
    | (intro j u hj
       match j, hj with
       | 0, hj => simp at hj; subst hj; simp [Addr.add]
       | 1, hj => simp at hj; subst hj; simp [Addr.add]
       | 2, hj => simp at hj; subst hj; simp [Addr.add]
       | (j + 3), hj => simp at hj)

set_option maxHeartbeats 4000000 in
set_option maxRecDepth 100000 in
theorem nonascii_hi {W0 w : World} {o f : Nat} {F : Fl} {v : Value} {xs : List Value} (h : Qb W0 w o f F v xs) (r : Int) (h0 : 57343 < r) (h1 : r ≤ 65535) (hb : xs.length + 4 ≤ 140737488355328) :
    Calls Tryd.prog 74 #[v, .int .i32 r] w fun e w' => ∃ v', e = .returned v' ∧ Qb W0 w' o f F v' (xs ++ [.int .u8 (224 + r / 4096), .int .u8 (128 + r / 64 % 64), .int .u8 (128 + r % 64)]) := by
  obtain ⟨i0, hi, hz0, hz1, hz2⟩ := info_parts Tryd.info5
  go_enter Tryd.func74, Tryd.ntmps74
  go_wp2_with (at_builtin; refine wpList_qb (W0 := W0) (o := o) (f := f) (F := F) (v := v) (xs := xs) rfl _ _ 29 rfl i0 Tryd.underlying29 hi hz0 hz1 hz2 rfl (h.alloc _) ⟨w.heap.size, 0, none⟩ 3 3 [.int .u8 (224 + r / 4096), .int .u8 (128 + r / 64 % 64), .int .u8 (128 + r % 64)] rfl rfl ?c1 ?c2 ?c3 ?_)
  all_goals first
    | (intro v' w2 hQ2; go_wp2; go_ret; exact ⟨_, rfl, hQ2⟩)
    | omega
    | exact ⟨rfl, rfl, rfl⟩
    | (intro u hu; simp at hu; rcases hu with rfl | rfl | rfl <;> rfl)
    | (intro j u hj
       match j, hj with
       | 0, hj => simp at hj; subst hj; simp [Addr.add]
       | 1, hj => simp at hj; subst hj; simp [Addr.add]
       | 2, hj => simp at hj; subst hj; simp [Addr.add]
       | (j + 3), hj => simp at hj)

set_option maxHeartbeats 4000000 in
set_option maxRecDepth 100000 in
theorem nonascii_four {W0 w : World} {o f : Nat} {F : Fl} {v : Value} {xs : List Value} (h : Qb W0 w o f F v xs) (r : Int) (h0 : 65536 ≤ r) (h1 : r ≤ 1114111) (hb : xs.length + 4 ≤ 140737488355328) :
    Calls Tryd.prog 74 #[v, .int .i32 r] w fun e w' => ∃ v', e = .returned v' ∧ Qb W0 w' o f F v' (xs ++ [.int .u8 (240 + r / 262144), .int .u8 (128 + r / 4096 % 64), .int .u8 (128 + r / 64 % 64), .int .u8 (128 + r % 64)]) := by
  obtain ⟨i0, hi, hz0, hz1, hz2⟩ := info_parts Tryd.info5
  go_enter Tryd.func74, Tryd.ntmps74
  go_wp2_with (at_builtin; refine wpList_qb (W0 := W0) (o := o) (f := f) (F := F) (v := v) (xs := xs) rfl _ _ 29 rfl i0 Tryd.underlying29 hi hz0 hz1 hz2 rfl (h.alloc _) ⟨w.heap.size, 0, none⟩ 4 4 [.int .u8 (240 + r / 262144), .int .u8 (128 + r / 4096 % 64), .int .u8 (128 + r / 64 % 64), .int .u8 (128 + r % 64)] rfl rfl ?c1 ?c2 ?c3 ?_)
  all_goals first
    | (intro v' w2 hQ2; go_wp2; go_ret; exact ⟨_, rfl, hQ2⟩)
    | omega
    | exact ⟨rfl, rfl, rfl⟩
    | (intro u hu; simp at hu; rcases hu with rfl | rfl | rfl | rfl <;> rfl)
    | (intro j u hj
       match j, hj with
       | 0, hj => simp at hj; subst hj; simp [Addr.add]
       | 1, hj => simp at hj; subst hj; simp [Addr.add]
       | 2, hj => simp at hj; subst hj; simp [Addr.add]
       | 3, hj => simp at hj; subst hj; simp [Addr.add]
       | (j + 4), hj => simp at hj)

set_option maxHeartbeats 4000000 in
set_option maxRecDepth 100000 in
theorem nonascii_neg {W0 w : World} {o f : Nat} {F : Fl} {v : Value} {xs : List Value} (h : Qb W0 w o f F v xs) (r : Int) (h0 : -2147483648 ≤ r) (h1 : r < 0) (hb : xs.length + 4 ≤ 140737488355328) :
    Calls Tryd.prog 74 #[v, .int .i32 r] w fun e w' => ∃ v', e = .returned v' ∧ Qb W0 w' o f F v' (xs ++ [.int .u8 (239), .int .u8 (191), .int .u8 (189)]) := by
  obtain ⟨i0, hi, hz0, hz1, hz2⟩ := info_parts Tryd.info5
  go_enter Tryd.func74, Tryd.ntmps74
  go_wp2_with (at_builtin; refine wpList_qb (W0 := W0) (o := o) (f := f) (F := F) (v := v) (xs := xs) rfl _ _ 29 rfl i0 Tryd.underlying29 hi hz0 hz1 hz2 rfl (h.alloc _) ⟨w.heap.size, 0, none⟩ 3 3 [.int .u8 (239), .int .u8 (191), .int .u8 (189)] rfl rfl ?c1 ?c2 ?c3 ?_)
  all_goals first
    | (intro v' w2 hQ2; go_wp2; go_ret; exact ⟨_, rfl, hQ2⟩)
    | omega
    | exact ⟨rfl, rfl, rfl⟩
    | (intro u hu; simp at hu; rcases hu with rfl | rfl | rfl <;> rfl)
    | (intro j u hj
       match j, hj with
       | 0, hj => simp at hj; subst hj; simp [Addr.add]
       | 1, hj => simp at hj; subst hj; simp [Addr.add]
       | 2, hj => simp at hj; subst hj; simp [Addr.add]
       | (j + 3), hj => simp at hj)

set_option maxHeartbeats 4000000 in
set_option maxRecDepth 100000 in
theorem nonascii_sur {W0 w : World} {o f : Nat} {F : Fl} {v : Value} {xs : List Value} (h : Qb W0 w o f F v xs) (r : Int) (h0 : 55296 ≤ r) (h1 : r ≤ 57343) (hb : xs.length + 4 ≤ 140737488355328) :
    Calls Tryd.prog 74 #[v, .int .i32 r] w fun e w' => ∃ v', e = .returned v' ∧ Qb W0 w' o f F v' (xs ++ [.int .u8 (239), .int .u8 (191), .int .u8 (189)]) := by
  obtain ⟨i0, hi, hz0, hz1, hz2⟩ := info_parts Tryd.info5
  go_enter Tryd.func74, Tryd.ntmps74
  go_wp2_with (at_builtin; refine wpList_qb (W0 := W0) (o := o) (f := f) (F := F) (v := v) (xs := xs) rfl _ _ 29 rfl i0 Tryd.underlying29 hi hz0 hz1 hz2 rfl (h.alloc _) ⟨w.heap.size, 0, none⟩ 3 3 [.int .u8 (239), .int .u8 (191), .int .u8 (189)] rfl rfl ?c1 ?c2 ?c3 ?_)
  all_goals first
    | (intro v' w2 hQ2; go_wp2; go_ret; exact ⟨_, rfl, hQ2⟩)
    | omega
    | exact ⟨rfl, rfl, rfl⟩
    | (intro u hu; simp at hu; rcases hu with rfl | rfl | rfl <;> rfl)
    | (intro j u hj
       match j, hj with
       | 0, hj => simp at hj; subst hj; simp [Addr.add]
       | 1, hj => simp at hj; subst hj; simp [Addr.add]
       | 2, hj => simp at hj; subst hj; simp [Addr.add]
       | (j + 3), hj => simp at hj)

set_option maxHeartbeats 4000000 in
set_option maxRecDepth 100000 in
theorem nonascii_big {W0 w : World} {o f : Nat} {F : Fl} {v : Value} {xs : List Value} (h : Qb W0 w o f F v xs) (r : Int) (h0 : 1114111 < r) (h1 : r ≤ 2147483647) (hb : xs.length + 4 ≤ 140737488355328) :
    Calls Tryd.prog 74 #[v, .int .i32 r] w fun e w' => ∃ v', e = .returned v' ∧ Qb W0 w' o f F v' (xs ++ [.int .u8 (239), .int .u8 (191), .int .u8 (189)]) := by
  obtain ⟨i0, hi, hz0, hz1, hz2⟩ := info_parts Tryd.info5
  go_enter Tryd.func74, Tryd.ntmps74
  go_wp2_with (at_builtin; refine wpList_qb (W0 := W0) (o := o) (f := f) (F := F) (v := v) (xs := xs) rfl _ _ 29 rfl i0 Tryd.underlying29 hi hz0 hz1 hz2 rfl (h.alloc _) ⟨w.heap.size, 0, none⟩ 3 3 [.int .u8 (239), .int .u8 (191), .int .u8 (189)] rfl rfl ?c1 ?c2 ?c3 ?_)
  all_goals first
    | (intro v' w2 hQ2; go_wp2; go_ret; exact ⟨_, rfl, hQ2⟩)
    | omega
    | exact ⟨rfl, rfl, rfl⟩
    | (intro u hu; simp at hu; rcases hu with rfl | rfl | rfl <;> rfl)
    | (intro j u hj
       match j, hj with
       | 0, hj => simp at hj; subst hj; simp [Addr.add]
       | 1, hj => simp at hj; subst hj; simp [Addr.add]
       | 2, hj => simp at hj; subst hj; simp [Addr.add]
       | (j + 3), hj => simp at hj)

theorem nonascii_any {W0 w : World} {o f : Nat} {F : Fl} {v : Value} {xs : List Value} (h : Qb W0 w o f F v xs) (r : Int) (hr0 : -2147483648 ≤ r) (hr1 : r ≤ 2147483647) (hna : r < 0 ∨ 128 ≤ r) (hb : xs.length + 4 ≤ 140737488355328) :
    Calls Tryd.prog 74 #[v, .int .i32 r] w fun e w' => ∃ v', e = .returned v' ∧ Qb W0 w' o f F v' (xs ++ Lib.runeCells r) := by
  by_cases c0 : r < 0
  · rw [show Lib.runeCells r = [.int .u8 239, .int .u8 191, .int .u8 189] by simp [Lib.runeCells, Lib.encodeRuneZ_bad (Or.inl c0)]]
    exact nonascii_neg h r hr0 c0 hb
  by_cases c1 : r ≤ 2047
  · rw [show Lib.runeCells r = [.int .u8 (192 + r / 64), .int .u8 (128 + r % 64)] by simp [Lib.runeCells, Lib.encodeRuneZ_two (by omega) c1]]
    exact nonascii_two h r (by omega) c1 hb
  by_cases c2 : r < 55296
  · rw [show Lib.runeCells r = [.int .u8 (224 + r / 4096), .int .u8 (128 + r / 64 % 64), .int .u8 (128 + r % 64)] by simp [Lib.runeCells, Lib.encodeRuneZ_three (Or.inl ⟨by omega, c2⟩)]]
    exact nonascii_lo h r (by omega) c2 hb
  by_cases c3 : r ≤ 57343
  · rw [show Lib.runeCells r = [.int .u8 239, .int .u8 191, .int .u8 189] by simp [Lib.runeCells, Lib.encodeRuneZ_bad (Or.inr (Or.inl ⟨by omega, c3⟩))]]
    exact nonascii_sur h r (by omega) c3 hb
  by_cases c4 : r ≤ 65535
  · rw [show Lib.runeCells r = [.int .u8 (224 + r / 4096), .int .u8 (128 + r / 64 % 64), .int .u8 (128 + r % 64)] by simp [Lib.runeCells, Lib.encodeRuneZ_three (Or.inr ⟨by omega, c4⟩)]]
    exact nonascii_hi h r (by omega) c4 hb
  by_cases c5 : r ≤ 1114111
  · rw [show Lib.runeCells r = [.int .u8 (240 + r / 262144), .int .u8 (128 + r / 4096 % 64), .int .u8 (128 + r / 64 % 64), .int .u8 (128 + r % 64)] by simp [Lib.runeCells, Lib.encodeRuneZ_four (by omega) c5]]
    exact nonascii_four h r (by omega) c5 hb
  · rw [show Lib.runeCells r = [.int .u8 239, .int .u8 191, .int .u8 189] by simp [Lib.runeCells, Lib.encodeRuneZ_bad (r := r) (Or.inr (Or.inr (by omega)))]]
    exact nonascii_big h r (by omega) hr1 hb

set_option maxHeartbeats 4000000 in
set_option maxRecDepth 100000 in
theorem appendRune_ascii {W0 w : World} {o f : Nat} {F : Fl} {v : Value} {xs : List Value} (h : Qb W0 w o f F v xs) (r : Int) (h0 : 0 ≤ r) (h1 : r ≤ 127) (hb : xs.length + 4 ≤ 140737488355328) :
    Calls Tryd.prog 73 #[v, .int .i32 r] w fun e w' => ∃ v', e = .returned v' ∧ Qb W0 w' o f F v' (xs ++ [.int .u8 r]) := by
  obtain ⟨i0, hi, hz0, hz1, hz2⟩ := info_parts Tryd.info5
  go_enter Tryd.func73, Tryd.ntmps73
  go_wp2_with (at_builtin; refine wpList_qb (W0 := W0) (o := o) (f := f) (F := F) (v := v) (xs := xs) rfl _ _ 29 rfl i0 Tryd.underlying29 hi hz0 hz1 hz2 rfl (h.alloc _) ⟨w.heap.size, 0, none⟩ 1 1 [.int .u8 r] rfl rfl ?c1 ?c2 ?c3 ?_)
  all_goals first
    | (intro v' w2 hQ2; go_wp2; go_ret; exact ⟨_, rfl, hQ2⟩)
    | omega
    | exact ⟨rfl, rfl, rfl⟩
    | (intro u hu; simp at hu; (try subst hu); rfl)
    | (intro j u hj
       match j, hj with
       | 0, hj => simp at hj; subst hj; simp [Addr.add]
       | (j + 1), hj => simp at hj)

set_option maxHeartbeats 4000000 in
set_option maxRecDepth 100000 in
theorem appendRune_other {W0 w : World} {o f : Nat} {F : Fl} {v : Value} {xs : List Value} (h : Qb W0 w o f F v xs) (r : Int) (hr0 : -2147483648 ≤ r) (hr1 : r ≤ 2147483647) (hna : r < 0 ∨ 128 ≤ r) (hb : xs.length + 4 ≤ 140737488355328) :
    Calls Tryd.prog 73 #[v, .int .i32 r] w fun e w' => ∃ v', e = .returned v' ∧ Qb W0 w' o f F v' (xs ++ Lib.runeCells r) := by
  have cN := nonascii_any h r hr0 hr1 hna hb
  rcases hna with hna | hna
  all_goals
    go_enter Tryd.func73, Tryd.ntmps73
    go_wp2_with (go_at_call 74; refine cN.mono ?_; rintro e w1 ⟨v', rfl, hQ1⟩)
    go_ret
    exact ⟨_, rfl, hQ1⟩

/-- unicode/utf8.AppendRune. -/
theorem appendRune_any {W0 w : World} {o f : Nat} {F : Fl} {v : Value} {xs : List Value} (h : Qb W0 w o f F v xs) (r : Int) (hr0 : -2147483648 ≤ r) (hr1 : r ≤ 2147483647) (hb : xs.length + 4 ≤ 140737488355328) :
    Calls Tryd.prog 73 #[v, .int .i32 r] w fun e w' => ∃ v', e = .returned v' ∧ Qb W0 w' o f F v' (xs ++ Lib.runeCells r) := by
  by_cases c : 0 ≤ r ∧ r ≤ 127
  · rw [show Lib.runeCells r = [.int .u8 r] by simp [Lib.runeCells, Lib.encodeRuneZ_one c.1 c.2]]
    exact appendRune_ascii h r c.1 c.2 hb
  · exact appendRune_other h r hr0 hr1 (by omega) hb

end Go.Proofs.YtdadbfehackfjaaDoor
