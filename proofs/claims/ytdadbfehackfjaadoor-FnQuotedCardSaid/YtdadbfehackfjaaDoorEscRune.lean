/- The walk of strconv.appendEscapedRune (printed by gen_esc.py), onto bytes that are built up in a formatter's intbuf or in a row of their own. Conditions: the rune may be encoded; the quote is one of the two; graphicOnly is false; the four tables of strconv.IsPrint stand as their initialisers lay them; there is room for ten bytes more below 2^47. -/
import Derived.Test.YtdadbfehackfjaaDoorEsc
import Derived.Deep.DeepCutAuto
import Derived.Deep.CutBlock
set_option linter.unusedVariables false
set_option linter.unusedSimpArgs false
namespace Go.Proofs.YtdadbfehackfjaaDoor
open Go.RowKit Go.Deep

theorem wpList_qb1 {ops : Array Oper} {rest : List Oper} {op : Oper} {a : Act} {Q : Exit → Act → World → Prop} {W0 w : World} {o f : Nat} {F : Fl} {v : Value} {xs : List Value} {z : Int} (hgd : op.guard = none) (sl x : Operand) (t : TypeId)
    (ho : op.op = .call { callee := .builtin .append, args := #[sl, x], argTypes := #[t, t] }) (i : TypeInfo) (ht : Tryd.prog.underlying t = some (.slice 5)) (hi : Tryd.prog.info? 5 = some i) (hz : i.zero = some (.int .u8 0)) (hsize : i.size = 1) (hby : i.bytes = 1)
    (h : Qb W0 w o f F v xs) (hs : a.eval sl = v) (hx : a.eval x = .slice (some ⟨w.heap.size, 0, none⟩) 1 1) (hb : xs.length + 1 ≤ 140737488355328)
    (k : ∀ v' w', Qb W0 w' o f F v' (xs ++ [.int .u8 z]) → wpList Tryd.prog ops Q rest (a.put op.dst v') w') : wpList Tryd.prog ops Q (op :: rest) a (w.alloc (.cells #[.int .u8 z] 5)) :=
  wpList_qb hgd sl x t ho i ht hi hz hsize hby hs (h.alloc _) ⟨w.heap.size, 0, none⟩ 1 1 [.int .u8 z] hx rfl
    (fun j u hj => by
      match j, hj with
      | 0, hj => simp at hj; subst hj; simp [Addr.add]
      | j + 1, hj => simp at hj)
    (fun u hu => by simp at hu; subst hu; rfl) hb k

theorem wpList_qbs {ops : Array Oper} {rest : List Oper} {op : Oper} {a : Act} {Q : Exit → Act → World → Prop} {W0 w : World} {o f : Nat} {F : Fl} {v : Value} {xs : List Value} (hgd : op.guard = none) (sl x : Operand) (t u : TypeId)
    (ho : op.op = .call { callee := .builtin .append, args := #[sl, x], argTypes := #[t, u] }) (i : TypeInfo) (ht : Tryd.prog.underlying t = some (.slice 5)) (hu : Tryd.prog.underlying u = some .string) (hi : Tryd.prog.info? 5 = some i) (hz : i.zero = some (.int .u8 0)) (hsize : i.size = 1) (hby : i.bytes = 1)
    (h : Qb W0 w o f F v xs) (hs : a.eval sl = v) (s : ByteArray) (hx : a.eval x = .string s) (hb : xs.length + s.size ≤ 140737488355328)
    (k : ∀ v' w', Qb W0 w' o f F v' (xs ++ Lib.strCells s) → wpList Tryd.prog ops Q rest (a.put op.dst v') w') : wpList Tryd.prog ops Q (op :: rest) a w :=
  wpList_qb_str hgd sl x t u ho i ht hu hi hz hsize hby hs h s hx hb k
theorem sz2 (a b : UInt8) : (⟨#[a, b]⟩ : ByteArray).size = 2 := rfl
theorem strCells_one (c : UInt8) : Lib.strCells (one c) = [.int .u8 (c.toNat : Int)] := rfl
theorem lowhex (x : Nat) (h : x < 16) : (Lib.lowerhex[x]'h) = hexd false x := by
  have : ∀ (d : Fin 16), Lib.lowerhex[d.val]'d.isLt = hexd false d.val := by decide
  exact this ⟨x, h⟩
theorem wrap8 (r : Nat) (h : r < 256) : IntKind.u8.wrap (r : Int) = (r : Int) := by
  have e : (r : Int) % 256 = r := Int.emod_eq_of_lt (by omega) (by omega)
  simp [IntKind.wrap, IntKind.bits, IntKind.signed, e]
theorem wrap32q (q : Nat) (h : q < 256) : IntKind.i32.wrap (q : Int) = (q : Int) := by rw [IntKind.wrap_i32]; omega
theorem ofNat_toInt (r : Nat) (h : r < 256) : ((UInt8.ofNat r).toNat : Int) = r := by rw [UInt8.toNat_ofNat']; omega

set_option maxRecDepth 100000 in
theorem and15u8 : ∀ x : Fin 256, bits .and .u8 ((x.val : Nat) : Int) 15 = ((x.val % 16 : Nat) : Int) := by decide

section
variable {W0 w : World} {o f : Nat} {F : Fl} {v : Value} {xs : List Value}

set_option maxHeartbeats 8000000 in
set_option maxRecDepth 100000 in
theorem esc_quoted (hQ : Qb W0 w o f F v xs) (hb : xs.length + 10 ≤ 140737488355328) (q r : Nat) (hq : q = 34 ∨ q = 39) (A : Bool) (hr : Sc r) (hPT : Lib.PrintTabsAt 0 1 2 3 Lib.goPrintTabs w) (h : r = q ∨ r = 92) :
    Calls Tryd.prog 70 #[v, .int .i32 (r : Int), .int .u8 (q : Int), .bool A, .bool false] w fun e w' => ∃ v', e = .returned v' ∧ Qb W0 w' o f F v' (xs ++ Lib.strCells (escT q A r)) := by
  obtain ⟨i0, hi, hz0, hz1, hz2⟩ := info_parts Tryd.info5
  have hr1 := hr.le
  have hwq := wrap32q q (by omega)
  have hE : Lib.strCells (escT q A r) = [.int .u8 92, .int .u8 (r : Int)] := by
    unfold escT
    rw [if_pos h, strCells_app, strCells_one, strCells_one, ofNat_toInt r (by omega)]
    rfl
  have HE := Lib.hid hE
  have hw8 := wrap8 r (by omega)
  clear hE hPT hr
  rcases h with rfl | rfl
  · clear hr1 hq
    go_enter Tryd.func70, Tryd.ntmps70
    go_wp2_with (at_builtin; first | (refine wpList_qb1 (W0 := W0) (o := o) (f := f) (F := F) rfl _ _ 29 rfl i0 Tryd.underlying29 hi hz0 hz1 hz2 hQ rfl rfl (by first | omega | (simp only [List.length_append, List.length_cons, List.length_nil, Lib.strCells_length, sz2]; omega)) ?_; intro _ _ hQ) | (refine wpList_qbs (W0 := W0) (o := o) (f := f) (F := F) rfl _ _ 29 9 rfl i0 Tryd.underlying29 Tryd.underlying9 hi hz0 hz1 hz2 hQ rfl _ rfl (by first | omega | (simp only [List.length_append, List.length_cons, List.length_nil, Lib.strCells_length, sz2]; omega)) ?_; intro _ _ hQ))
    refine bodyPost_ret (by first | (simp [results, Tryd.results70, go_sem]; done) | (simp [results, Tryd.results70, go_sem]; rfl)) rfl ⟨_, rfl, ?_⟩
    rw [HE.out]
    simpa [List.append_assoc] using hQ
  · by_cases hqe : (92 : Int) = (q : Int)
    · exfalso; omega
    clear hr1 hq
    go_enter Tryd.func70, Tryd.ntmps70
    go_wp2_with (at_builtin; first | (refine wpList_qb1 (W0 := W0) (o := o) (f := f) (F := F) rfl _ _ 29 rfl i0 Tryd.underlying29 hi hz0 hz1 hz2 hQ rfl rfl (by first | omega | (simp only [List.length_append, List.length_cons, List.length_nil, Lib.strCells_length, sz2]; omega)) ?_; intro _ _ hQ) | (refine wpList_qbs (W0 := W0) (o := o) (f := f) (F := F) rfl _ _ 29 9 rfl i0 Tryd.underlying29 Tryd.underlying9 hi hz0 hz1 hz2 hQ rfl _ rfl (by first | omega | (simp only [List.length_append, List.length_cons, List.length_nil, Lib.strCells_length, sz2]; omega)) ?_; intro _ _ hQ))
    refine bodyPost_ret (by first | (simp [results, Tryd.results70, go_sem]; done) | (simp [results, Tryd.results70, go_sem]; rfl)) rfl ⟨_, rfl, ?_⟩
    rw [HE.out]
    simpa [List.append_assoc] using hQ

set_option maxHeartbeats 8000000 in
set_option maxRecDepth 100000 in
theorem esc_printed (hQ : Qb W0 w o f F v xs) (hb : xs.length + 10 ≤ 140737488355328) (q r : Nat) (hq : q = 34 ∨ q = 39) (A : Bool) (hr : Sc r) (hPT : Lib.PrintTabsAt 0 1 2 3 Lib.goPrintTabs w) (h1 : r ≠ q) (h2 : r ≠ 92) (h : ((!A || decide (r < 128)) && prn r) = true) :
    Calls Tryd.prog 70 #[v, .int .i32 (r : Int), .int .u8 (q : Int), .bool A, .bool false] w fun e w' => ∃ v', e = .returned v' ∧ Qb W0 w' o f F v' (xs ++ Lib.strCells (escT q A r)) := by
  obtain ⟨i0, hi, hz0, hz1, hz2⟩ := info_parts Tryd.info5
  have hr1 := hr.le
  have hwq := wrap32q q (by omega)
  have hE : escT q A r = enc r := by
    unfold escT
    rw [if_neg (by omega), if_pos h]
  have hp : prn r = true := by
    rw [Bool.and_eq_true] at h
    exact h.2
  have cI : Calls Tryd.prog 47 #[.int .i32 (r : Int)] w fun e w' => e = .returned (.bool true) ∧ ∃ n, w' = w.drewN n := by
    rw [← hp]; exact Tryd.strconv_IsPrint Lib.goPrintTabs (r : Int) w (by omega) (by omega) hPT
  have cA : ∀ n, Calls Tryd.prog 73 #[v, .int .i32 (r : Int)] (w.drewN n) fun e w' => ∃ v', e = .returned v' ∧ Qb W0 w' o f F v' (xs ++ Lib.runeCells r) := fun n => appendRune_any (hQ.drewN n) r (by omega) (by omega) (by omega)
  have hn1 : ¬ (r : Int) = (q : Int) := by omega
  have hn2 : ¬ (r : Int) = 92 := by omega
  rw [hE]
  clear hPT hr hp hE
  cases A
  · rw [enc_cells]
    clear h hq h1 h2 hb hr1 hQ
    go_enter Tryd.func70, Tryd.ntmps70
    go_wp2_with (first | (go_at_call 47; refine cI.mono ?_; rintro e w1 ⟨rfl, n1, rfl⟩) | (go_at_call 73; refine (cA _).mono ?_; rintro e w2 ⟨v2, rfl, hQ2⟩))
    exact bodyPost_ret (by first | (simp [results, Tryd.results70, go_sem]; done) | (simp [results, Tryd.results70, go_sem]; rfl)) rfl ⟨_, rfl, hQ2⟩
  · have hlt : r < 128 := by
      simp only [Bool.not_true, Bool.false_or, Bool.and_eq_true, decide_eq_true_eq] at h
      exact h.1
    have hlt' : (r : Int) < 128 := by omega
    have hE : Lib.strCells (enc r) = [.int .u8 (r : Int)] := by
      rw [enc_one r hlt, strCells_one, ofNat_toInt r (by omega)]
    have hw8 := wrap8 r (by omega)
    rw [hE]
    clear h hq h1 h2 hE
    go_enter Tryd.func70, Tryd.ntmps70
    go_wp2_with (first | (go_at_call 47; refine cI.mono ?_; rintro e w1 ⟨rfl, n1, rfl⟩; have hQ := hQ.drewN n1) | (at_builtin; first | (refine wpList_qb1 (W0 := W0) (o := o) (f := f) (F := F) rfl _ _ 29 rfl i0 Tryd.underlying29 hi hz0 hz1 hz2 hQ rfl rfl (by first | omega | (simp only [List.length_append, List.length_cons, List.length_nil, Lib.strCells_length, sz2]; omega)) ?_; intro _ _ hQ) | (refine wpList_qbs (W0 := W0) (o := o) (f := f) (F := F) rfl _ _ 29 9 rfl i0 Tryd.underlying29 Tryd.underlying9 hi hz0 hz1 hz2 hQ rfl _ rfl (by first | omega | (simp only [List.length_append, List.length_cons, List.length_nil, Lib.strCells_length, sz2]; omega)) ?_; intro _ _ hQ)))
    exact bodyPost_ret (by first | (simp [results, Tryd.results70, go_sem]; done) | (simp [results, Tryd.results70, go_sem]; rfl)) rfl ⟨_, rfl, hQ⟩

set_option maxHeartbeats 8000000 in
set_option maxRecDepth 100000 in
theorem esc_named (hQ : Qb W0 w o f F v xs) (hb : xs.length + 10 ≤ 140737488355328) (q r : Nat) (hq : q = 34 ∨ q = 39) (A : Bool) (hr : Sc r) (hPT : Lib.PrintTabsAt 0 1 2 3 Lib.goPrintTabs w) (h1 : r ≠ q) (h2 : r ≠ 92) (h : ((!A || decide (r < 128)) && prn r) = false) (hn : 7 ≤ r ∧ r ≤ 13) :
    Calls Tryd.prog 70 #[v, .int .i32 (r : Int), .int .u8 (q : Int), .bool A, .bool false] w fun e w' => ∃ v', e = .returned v' ∧ Qb W0 w' o f F v' (xs ++ Lib.strCells (escT q A r)) := by
  obtain ⟨i0, hi, hz0, hz1, hz2⟩ := info_parts Tryd.info5
  have hr1 := hr.le
  have hwq := wrap32q q (by omega)
  have hE : Lib.strCells (escT q A r) = Lib.strCells (one 92 ++ one (nam r)) := by
    unfold escT
    rw [if_neg (by omega), if_neg (by rw [h]; decide), if_pos hn]
  rw [hE]
  clear hE
  have HQ := Lib.hid hQ
  have cI : Calls Tryd.prog 47 #[.int .i32 (r : Int)] w fun e w' => e = .returned (.bool (prn r)) ∧ ∃ n, w' = w.drewN n := Tryd.strconv_IsPrint Lib.goPrintTabs (r : Int) w (by omega) (by omega) hPT
  have hn1 : ¬ (r : Int) = (q : Int) := by omega
  have hn2 : ¬ (r : Int) = 92 := by omega
  clear hQ hPT h1 h2 hq
  go_enter Tryd.func70, Tryd.ntmps70
  go_upto_if 30 with (fail)
  go_cut [0] from 17 to 54 (fun s0 wx => s0 = v ∧ Hid (Qb W0 wx o f F v xs))
  case first =>
    cases A
    · have hp : prn r = false := by simpa using h
      rw [hp] at cI
      clear h hp
      go_wp2_with (go_at_call 47; refine cI.mono ?_; rintro e w1 ⟨rfl, n1, rfl⟩)
      go_meet
      exact ⟨rfl, HQ.out.drewN _⟩
    · by_cases hlt : r < 128
      · have hp : prn r = false := by simpa [hlt] using h
        have hlt' : (r : Int) < 128 := by omega
        rw [hp] at cI
        clear h hp
        go_wp2_with (go_at_call 47; refine cI.mono ?_; rintro e w1 ⟨rfl, n1, rfl⟩)
        go_meet
        exact ⟨rfl, HQ.out.drewN _⟩
      · have hlt' : ¬ (r : Int) < 128 := by omega
        clear h
        go_wp2
        go_meet
        exact ⟨rfl, HQ⟩
  case rest =>
    obtain ⟨rfl, hcq⟩ := hcut
    have hQ := hcq.out
    clear cI HQ hcq
    clear h hn1 hn2
    have hc : r = 7 ∨ r = 8 ∨ r = 9 ∨ r = 10 ∨ r = 11 ∨ r = 12 ∨ r = 13 := by omega
    clear hn hr hr1
    rcases hc with rfl | rfl | rfl | rfl | rfl | rfl | rfl
    all_goals (
      go_wp2_with (at_builtin; first | (refine wpList_qb1 (W0 := W0) (o := o) (f := f) (F := F) rfl _ _ 29 rfl i0 Tryd.underlying29 hi hz0 hz1 hz2 hQ rfl rfl (by first | omega | (simp only [List.length_append, List.length_cons, List.length_nil, Lib.strCells_length, sz2]; omega)) ?_; intro _ _ hQ) | (refine wpList_qbs (W0 := W0) (o := o) (f := f) (F := F) rfl _ _ 29 9 rfl i0 Tryd.underlying29 Tryd.underlying9 hi hz0 hz1 hz2 hQ rfl _ rfl (by first | omega | (simp only [List.length_append, List.length_cons, List.length_nil, Lib.strCells_length, sz2]; omega)) ?_; intro _ _ hQ))
      go_ret
      exact ⟨_, rfl, hQ⟩)

set_option maxHeartbeats 8000000 in
set_option maxRecDepth 100000 in
theorem esc_hex2 (hQ : Qb W0 w o f F v xs) (hb : xs.length + 10 ≤ 140737488355328) (q r : Nat) (hq : q = 34 ∨ q = 39) (A : Bool) (hr : Sc r) (hPT : Lib.PrintTabsAt 0 1 2 3 Lib.goPrintTabs w) (h1 : r ≠ q) (h2 : r ≠ 92) (h : ((!A || decide (r < 128)) && prn r) = false) (hn : ¬ (7 ≤ r ∧ r ≤ 13)) (hx : r < 32 ∨ r = 127) :
    Calls Tryd.prog 70 #[v, .int .i32 (r : Int), .int .u8 (q : Int), .bool A, .bool false] w fun e w' => ∃ v', e = .returned v' ∧ Qb W0 w' o f F v' (xs ++ Lib.strCells (escT q A r)) := by
  obtain ⟨i0, hi, hz0, hz1, hz2⟩ := info_parts Tryd.info5
  have hr1 := hr.le
  have hwq := wrap32q q (by omega)
  have hE : Lib.strCells (escT q A r) = [.int .u8 92, .int .u8 120, .int .u8 ((hexd false (r / 16)).toNat : Int), .int .u8 ((hexd false (r % 16)).toNat : Int)] := by
    unfold escT
    rw [if_neg (by omega), if_neg (by rw [h]; decide), if_neg hn, if_pos hx]
    rw [hexn, hexn, hexn, app_nil]
    simp only [strCells_app, strCells_one]
    rw [show r / 16 ^ 1 % 16 = r / 16 by omega, show r / 16 ^ 0 % 16 = r % 16 by omega]
    rfl
  rw [hE]
  clear hE
  have HQ := Lib.hid hQ
  have cI : Calls Tryd.prog 47 #[.int .i32 (r : Int)] w fun e w' => e = .returned (.bool (prn r)) ∧ ∃ n, w' = w.drewN n := Tryd.strconv_IsPrint Lib.goPrintTabs (r : Int) w (by omega) (by omega) hPT
  have hn1 : ¬ (r : Int) = (q : Int) := by omega
  have hn2 : ¬ (r : Int) = 92 := by omega
  clear hQ hPT h1 h2 hq
  go_enter Tryd.func70, Tryd.ntmps70
  go_upto_if 30 with (fail)
  go_cut [0] from 17 to 54 (fun s0 wx => s0 = v ∧ Hid (Qb W0 wx o f F v xs))
  case first =>
    cases A
    · have hp : prn r = false := by simpa using h
      rw [hp] at cI
      clear h hp
      go_wp2_with (go_at_call 47; refine cI.mono ?_; rintro e w1 ⟨rfl, n1, rfl⟩)
      go_meet
      exact ⟨rfl, HQ.out.drewN _⟩
    · by_cases hlt : r < 128
      · have hp : prn r = false := by simpa [hlt] using h
        have hlt' : (r : Int) < 128 := by omega
        rw [hp] at cI
        clear h hp
        go_wp2_with (go_at_call 47; refine cI.mono ?_; rintro e w1 ⟨rfl, n1, rfl⟩)
        go_meet
        exact ⟨rfl, HQ.out.drewN _⟩
      · have hlt' : ¬ (r : Int) < 128 := by omega
        clear h
        go_wp2
        go_meet
        exact ⟨rfl, HQ⟩
  case rest =>
    obtain ⟨rfl, hcq⟩ := hcut
    have hQ := hcq.out
    clear cI HQ hcq
    clear h hn1 hn2
    have hw8 := wrap8 r (by omega)
    have b7 : ¬ (r : Int) = 7 := by omega
    have b8 : ¬ (r : Int) = 8 := by omega
    have b9 : ¬ (r : Int) = 9 := by omega
    have b10 : ¬ (r : Int) = 10 := by omega
    have b11 : ¬ (r : Int) = 11 := by omega
    have b12 : ¬ (r : Int) = 12 := by omega
    have b13 : ¬ (r : Int) = 13 := by omega
    have hd1 : r / 16 < 16 := by omega
    have hd2 : r % 16 < 16 := by omega
    have hd1' : (r : Int) / 16 < 16 := by omega
    have hd2' : (r : Int) % 16 < 16 := by omega
    have hand : bits .and .u8 (r : Int) 15 = (r : Int) % 16 := by
      have := and15u8 ⟨r, by omega⟩
      simpa using this
    have H1 := Lib.hid (lowhex (r / 16) hd1)
    have H2 := Lib.hid (lowhex (r % 16) hd2)
    rcases hx with hx | hx
    · have hx' : (r : Int) < 32 := by omega
      clear hn hr hr1 hx
      go_wp2_with (at_builtin; first | (refine wpList_qb1 (W0 := W0) (o := o) (f := f) (F := F) rfl _ _ 29 rfl i0 Tryd.underlying29 hi hz0 hz1 hz2 hQ rfl rfl (by first | omega | (simp only [List.length_append, List.length_cons, List.length_nil, Lib.strCells_length, sz2]; omega)) ?_; intro _ _ hQ) | (refine wpList_qbs (W0 := W0) (o := o) (f := f) (F := F) rfl _ _ 29 9 rfl i0 Tryd.underlying29 Tryd.underlying9 hi hz0 hz1 hz2 hQ rfl _ rfl (by first | omega | (simp only [List.length_append, List.length_cons, List.length_nil, Lib.strCells_length, sz2]; omega)) ?_; intro _ _ hQ))
      go_ret
      refine ⟨_, rfl, ?_⟩
      rw [← H1.out, ← H2.out]
      simpa [List.append_assoc, Lib.strCells] using hQ
    · have hx' : ¬ (r : Int) < 32 := by omega
      have h127 : ((r : Int) == 127) = true := by rw [hx]; rfl
      clear hn hr hr1 hx
      go_wp2_with (at_builtin; first | (refine wpList_qb1 (W0 := W0) (o := o) (f := f) (F := F) rfl _ _ 29 rfl i0 Tryd.underlying29 hi hz0 hz1 hz2 hQ rfl rfl (by first | omega | (simp only [List.length_append, List.length_cons, List.length_nil, Lib.strCells_length, sz2]; omega)) ?_; intro _ _ hQ) | (refine wpList_qbs (W0 := W0) (o := o) (f := f) (F := F) rfl _ _ 29 9 rfl i0 Tryd.underlying29 Tryd.underlying9 hi hz0 hz1 hz2 hQ rfl _ rfl (by first | omega | (simp only [List.length_append, List.length_cons, List.length_nil, Lib.strCells_length, sz2]; omega)) ?_; intro _ _ hQ))
      go_ret
      refine ⟨_, rfl, ?_⟩
      rw [← H1.out, ← H2.out]
      simpa [List.append_assoc, Lib.strCells] using hQ

set_option maxHeartbeats 8000000 in
set_option maxRecDepth 100000 in
theorem esc_u4 (hQ : Qb W0 w o f F v xs) (hb : xs.length + 10 ≤ 140737488355328) (q r : Nat) (hq : q = 34 ∨ q = 39) (A : Bool) (hr : Sc r) (hPT : Lib.PrintTabsAt 0 1 2 3 Lib.goPrintTabs w) (h1 : r ≠ q) (h2 : r ≠ 92) (h : ((!A || decide (r < 128)) && prn r) = false) (hlo : 128 ≤ r) (hx : r < 65536) :
    Calls Tryd.prog 70 #[v, .int .i32 (r : Int), .int .u8 (q : Int), .bool A, .bool false] w fun e w' => ∃ v', e = .returned v' ∧ Qb W0 w' o f F v' (xs ++ Lib.strCells (escT q A r)) := by
  obtain ⟨i0, hi, hz0, hz1, hz2⟩ := info_parts Tryd.info5
  have hr1 := hr.le
  have hwq := wrap32q q (by omega)
  have hE : Lib.strCells (escT q A r) = [.int .u8 92, .int .u8 117, .int .u8 ((hexd false (r / 4096 % 16)).toNat : Int), .int .u8 ((hexd false (r / 256 % 16)).toNat : Int), .int .u8 ((hexd false (r / 16 % 16)).toNat : Int), .int .u8 ((hexd false (r / 1 % 16)).toNat : Int)] := by
    unfold escT
    rw [if_neg (by omega), if_neg (by rw [h]; decide), if_neg (by omega), if_neg (by omega), if_pos hx]
    simp only [hexn, app_nil, strCells_app, strCells_one]
    rfl
  have HE := Lib.hid hE
  clear hE
  have HQ := Lib.hid hQ
  have cI : Calls Tryd.prog 47 #[.int .i32 (r : Int)] w fun e w' => e = .returned (.bool (prn r)) ∧ ∃ n, w' = w.drewN n := Tryd.strconv_IsPrint Lib.goPrintTabs (r : Int) w (by omega) (by omega) hPT
  have hn1 : ¬ (r : Int) = (q : Int) := by omega
  have hn2 : ¬ (r : Int) = 92 := by omega
  clear hQ hPT h1 h2 hq
  go_enter Tryd.func70, Tryd.ntmps70
  go_upto_if 30 with (fail)
  go_cut [0] from 17 to 54 (fun s0 wx => s0 = v ∧ Hid (Qb W0 wx o f F v xs))
  case first =>
    cases A
    · have hp : prn r = false := by simpa using h
      rw [hp] at cI
      clear h hp
      go_wp2_with (go_at_call 47; refine cI.mono ?_; rintro e w1 ⟨rfl, n1, rfl⟩)
      go_meet
      exact ⟨rfl, HQ.out.drewN _⟩
    · by_cases hlt : r < 128
      · have hp : prn r = false := by simpa [hlt] using h
        have hlt' : (r : Int) < 128 := by omega
        rw [hp] at cI
        clear h hp
        go_wp2_with (go_at_call 47; refine cI.mono ?_; rintro e w1 ⟨rfl, n1, rfl⟩)
        go_meet
        exact ⟨rfl, HQ.out.drewN _⟩
      · have hlt' : ¬ (r : Int) < 128 := by omega
        clear h
        go_wp2
        go_meet
        exact ⟨rfl, HQ⟩
  case rest =>
    obtain ⟨rfl, hcq⟩ := hcut
    have hQ := hcq.out
    clear cI HQ hcq
    clear h hn1 hn2
    have hloz : (128 : Int) ≤ (r : Int) := by omega
    have b16 : (r : Int) < 65536 := by omega
    have cV := fun W => Tryd.utf8_ValidRune (r : Int) W
    rw [hr.valid] at cV
    obtain ⟨d0, hd0⟩ : ∃ d, d = r / 4096 % 16 := ⟨_, rfl⟩
    have hD0 : bits .and .i32 ((r : Int) / 4096) 15 = (d0 : Int) := by
      have e := Lib.and15_shift (r : Int) r rfl (by omega) 4096
      rw [hd0]; simpa using e
    have hL0 : d0 < 16 := by omega
    have hL0' : (d0 : Int) < 16 := by omega
    have HD0 : Hid (d0 = r / 4096 % 16) := hd0
    have HH0 := Lib.hid (lowhex d0 hL0)
    clear hd0
    obtain ⟨d1, hd1⟩ : ∃ d, d = r / 256 % 16 := ⟨_, rfl⟩
    have hD1 : bits .and .i32 ((r : Int) / 256) 15 = (d1 : Int) := by
      have e := Lib.and15_shift (r : Int) r rfl (by omega) 256
      rw [hd1]; simpa using e
    have hL1 : d1 < 16 := by omega
    have hL1' : (d1 : Int) < 16 := by omega
    have HD1 : Hid (d1 = r / 256 % 16) := hd1
    have HH1 := Lib.hid (lowhex d1 hL1)
    clear hd1
    obtain ⟨d2, hd2⟩ : ∃ d, d = r / 16 % 16 := ⟨_, rfl⟩
    have hD2 : bits .and .i32 ((r : Int) / 16) 15 = (d2 : Int) := by
      have e := Lib.and15_shift (r : Int) r rfl (by omega) 16
      rw [hd2]; simpa using e
    have hL2 : d2 < 16 := by omega
    have hL2' : (d2 : Int) < 16 := by omega
    have HD2 : Hid (d2 = r / 16 % 16) := hd2
    have HH2 := Lib.hid (lowhex d2 hL2)
    clear hd2
    obtain ⟨d3, hd3⟩ : ∃ d, d = r / 1 % 16 := ⟨_, rfl⟩
    have hD3 : bits .and .i32 ((r : Int)) 15 = (d3 : Int) := by
      have e := Lib.and15_shift (r : Int) r rfl (by omega) 1
      rw [hd3]; simpa using e
    have hL3 : d3 < 16 := by omega
    have hL3' : (d3 : Int) < 16 := by omega
    have HD3 : Hid (d3 = r / 1 % 16) := hd3
    have HH3 := Lib.hid (lowhex d3 hL3)
    clear hd3
    clear hr hr1 hx
    generalize hzr : (r : Int) = z at *
    clear hzr hlo
    go_wp2_with (first | (go_at_call 69; refine (cV _).mono ?_; rintro e w2 ⟨rfl, rfl⟩) | (at_builtin; first | (refine wpList_qb1 (W0 := W0) (o := o) (f := f) (F := F) rfl _ _ 29 rfl i0 Tryd.underlying29 hi hz0 hz1 hz2 hQ rfl rfl (by first | omega | (simp only [List.length_append, List.length_cons, List.length_nil, Lib.strCells_length, sz2]; omega)) ?_; intro _ _ hQ) | (refine wpList_qbs (W0 := W0) (o := o) (f := f) (F := F) rfl _ _ 29 9 rfl i0 Tryd.underlying29 Tryd.underlying9 hi hz0 hz1 hz2 hQ rfl _ rfl (by first | omega | (simp only [List.length_append, List.length_cons, List.length_nil, Lib.strCells_length, sz2]; omega)) ?_; intro _ _ hQ)))
    refine wp_loop_rounds 5 ?_
    rw [rounds_succ]
    go_wp2_with (at_builtin; first | (refine wpList_qb1 (W0 := W0) (o := o) (f := f) (F := F) rfl _ _ 29 rfl i0 Tryd.underlying29 hi hz0 hz1 hz2 hQ rfl rfl (by first | omega | (simp only [List.length_append, List.length_cons, List.length_nil, Lib.strCells_length, sz2]; omega)) ?_; intro _ _ hQ) | (refine wpList_qbs (W0 := W0) (o := o) (f := f) (F := F) rfl _ _ 29 9 rfl i0 Tryd.underlying29 Tryd.underlying9 hi hz0 hz1 hz2 hQ rfl _ rfl (by first | omega | (simp only [List.length_append, List.length_cons, List.length_nil, Lib.strCells_length, sz2]; omega)) ?_; intro _ _ hQ))
    rw [rounds_succ]
    go_wp2_with (at_builtin; first | (refine wpList_qb1 (W0 := W0) (o := o) (f := f) (F := F) rfl _ _ 29 rfl i0 Tryd.underlying29 hi hz0 hz1 hz2 hQ rfl rfl (by first | omega | (simp only [List.length_append, List.length_cons, List.length_nil, Lib.strCells_length, sz2]; omega)) ?_; intro _ _ hQ) | (refine wpList_qbs (W0 := W0) (o := o) (f := f) (F := F) rfl _ _ 29 9 rfl i0 Tryd.underlying29 Tryd.underlying9 hi hz0 hz1 hz2 hQ rfl _ rfl (by first | omega | (simp only [List.length_append, List.length_cons, List.length_nil, Lib.strCells_length, sz2]; omega)) ?_; intro _ _ hQ))
    rw [rounds_succ]
    go_wp2_with (at_builtin; first | (refine wpList_qb1 (W0 := W0) (o := o) (f := f) (F := F) rfl _ _ 29 rfl i0 Tryd.underlying29 hi hz0 hz1 hz2 hQ rfl rfl (by first | omega | (simp only [List.length_append, List.length_cons, List.length_nil, Lib.strCells_length, sz2]; omega)) ?_; intro _ _ hQ) | (refine wpList_qbs (W0 := W0) (o := o) (f := f) (F := F) rfl _ _ 29 9 rfl i0 Tryd.underlying29 Tryd.underlying9 hi hz0 hz1 hz2 hQ rfl _ rfl (by first | omega | (simp only [List.length_append, List.length_cons, List.length_nil, Lib.strCells_length, sz2]; omega)) ?_; intro _ _ hQ))
    rw [rounds_succ]
    go_wp2_with (at_builtin; first | (refine wpList_qb1 (W0 := W0) (o := o) (f := f) (F := F) rfl _ _ 29 rfl i0 Tryd.underlying29 hi hz0 hz1 hz2 hQ rfl rfl (by first | omega | (simp only [List.length_append, List.length_cons, List.length_nil, Lib.strCells_length, sz2]; omega)) ?_; intro _ _ hQ) | (refine wpList_qbs (W0 := W0) (o := o) (f := f) (F := F) rfl _ _ 29 9 rfl i0 Tryd.underlying29 Tryd.underlying9 hi hz0 hz1 hz2 hQ rfl _ rfl (by first | omega | (simp only [List.length_append, List.length_cons, List.length_nil, Lib.strCells_length, sz2]; omega)) ?_; intro _ _ hQ))
    rw [rounds_succ]
    go_wp2
    go_ret
    refine ⟨_, rfl, ?_⟩
    rw [HE.out]
    simp only [← HD0.out, ← HD1.out, ← HD2.out, ← HD3.out, ← HH0.out, ← HH1.out, ← HH2.out, ← HH3.out]
    simpa [List.append_assoc, Lib.strCells] using hQ

set_option maxHeartbeats 8000000 in
set_option maxRecDepth 100000 in
theorem esc_u8 (hQ : Qb W0 w o f F v xs) (hb : xs.length + 10 ≤ 140737488355328) (q r : Nat) (hq : q = 34 ∨ q = 39) (A : Bool) (hr : Sc r) (hPT : Lib.PrintTabsAt 0 1 2 3 Lib.goPrintTabs w) (h1 : r ≠ q) (h2 : r ≠ 92) (h : ((!A || decide (r < 128)) && prn r) = false) (hlo : 65536 ≤ r) :
    Calls Tryd.prog 70 #[v, .int .i32 (r : Int), .int .u8 (q : Int), .bool A, .bool false] w fun e w' => ∃ v', e = .returned v' ∧ Qb W0 w' o f F v' (xs ++ Lib.strCells (escT q A r)) := by
  obtain ⟨i0, hi, hz0, hz1, hz2⟩ := info_parts Tryd.info5
  have hr1 := hr.le
  have hwq := wrap32q q (by omega)
  have hE : Lib.strCells (escT q A r) = [.int .u8 92, .int .u8 85, .int .u8 ((hexd false (r / 268435456 % 16)).toNat : Int), .int .u8 ((hexd false (r / 16777216 % 16)).toNat : Int), .int .u8 ((hexd false (r / 1048576 % 16)).toNat : Int), .int .u8 ((hexd false (r / 65536 % 16)).toNat : Int), .int .u8 ((hexd false (r / 4096 % 16)).toNat : Int), .int .u8 ((hexd false (r / 256 % 16)).toNat : Int), .int .u8 ((hexd false (r / 16 % 16)).toNat : Int), .int .u8 ((hexd false (r / 1 % 16)).toNat : Int)] := by
    unfold escT
    rw [if_neg (by omega), if_neg (by rw [h]; decide), if_neg (by omega), if_neg (by omega), if_neg (by omega)]
    simp only [hexn, app_nil, strCells_app, strCells_one]
    rfl
  have HE := Lib.hid hE
  clear hE
  have HQ := Lib.hid hQ
  have cI : Calls Tryd.prog 47 #[.int .i32 (r : Int)] w fun e w' => e = .returned (.bool (prn r)) ∧ ∃ n, w' = w.drewN n := Tryd.strconv_IsPrint Lib.goPrintTabs (r : Int) w (by omega) (by omega) hPT
  have hn1 : ¬ (r : Int) = (q : Int) := by omega
  have hn2 : ¬ (r : Int) = 92 := by omega
  clear hQ hPT h1 h2 hq
  go_enter Tryd.func70, Tryd.ntmps70
  go_upto_if 30 with (fail)
  go_cut [0] from 17 to 54 (fun s0 wx => s0 = v ∧ Hid (Qb W0 wx o f F v xs))
  case first =>
    cases A
    · have hp : prn r = false := by simpa using h
      rw [hp] at cI
      clear h hp
      go_wp2_with (go_at_call 47; refine cI.mono ?_; rintro e w1 ⟨rfl, n1, rfl⟩)
      go_meet
      exact ⟨rfl, HQ.out.drewN _⟩
    · by_cases hlt : r < 128
      · have hp : prn r = false := by simpa [hlt] using h
        have hlt' : (r : Int) < 128 := by omega
        rw [hp] at cI
        clear h hp
        go_wp2_with (go_at_call 47; refine cI.mono ?_; rintro e w1 ⟨rfl, n1, rfl⟩)
        go_meet
        exact ⟨rfl, HQ.out.drewN _⟩
      · have hlt' : ¬ (r : Int) < 128 := by omega
        clear h
        go_wp2
        go_meet
        exact ⟨rfl, HQ⟩
  case rest =>
    obtain ⟨rfl, hcq⟩ := hcut
    have hQ := hcq.out
    clear cI HQ hcq
    clear h hn1 hn2
    have hloz : (128 : Int) ≤ (r : Int) := by omega
    have b16 : ¬ (r : Int) < 65536 := by omega
    have cV := fun W => Tryd.utf8_ValidRune (r : Int) W
    rw [hr.valid] at cV
    obtain ⟨d0, hd0⟩ : ∃ d, d = r / 268435456 % 16 := ⟨_, rfl⟩
    have hD0 : bits .and .i32 ((r : Int) / 268435456) 15 = (d0 : Int) := by
      have e := Lib.and15_shift (r : Int) r rfl (by omega) 268435456
      rw [hd0]; simpa using e
    have hL0 : d0 < 16 := by omega
    have hL0' : (d0 : Int) < 16 := by omega
    have HD0 : Hid (d0 = r / 268435456 % 16) := hd0
    have HH0 := Lib.hid (lowhex d0 hL0)
    clear hd0
    obtain ⟨d1, hd1⟩ : ∃ d, d = r / 16777216 % 16 := ⟨_, rfl⟩
    have hD1 : bits .and .i32 ((r : Int) / 16777216) 15 = (d1 : Int) := by
      have e := Lib.and15_shift (r : Int) r rfl (by omega) 16777216
      rw [hd1]; simpa using e
    have hL1 : d1 < 16 := by omega
    have hL1' : (d1 : Int) < 16 := by omega
    have HD1 : Hid (d1 = r / 16777216 % 16) := hd1
    have HH1 := Lib.hid (lowhex d1 hL1)
    clear hd1
    obtain ⟨d2, hd2⟩ : ∃ d, d = r / 1048576 % 16 := ⟨_, rfl⟩
    have hD2 : bits .and .i32 ((r : Int) / 1048576) 15 = (d2 : Int) := by
      have e := Lib.and15_shift (r : Int) r rfl (by omega) 1048576
      rw [hd2]; simpa using e
    have hL2 : d2 < 16 := by omega
    have hL2' : (d2 : Int) < 16 := by omega
    have HD2 : Hid (d2 = r / 1048576 % 16) := hd2
    have HH2 := Lib.hid (lowhex d2 hL2)
    clear hd2
    obtain ⟨d3, hd3⟩ : ∃ d, d = r / 65536 % 16 := ⟨_, rfl⟩
    have hD3 : bits .and .i32 ((r : Int) / 65536) 15 = (d3 : Int) := by
      have e := Lib.and15_shift (r : Int) r rfl (by omega) 65536
      rw [hd3]; simpa using e
    have hL3 : d3 < 16 := by omega
    have hL3' : (d3 : Int) < 16 := by omega
    have HD3 : Hid (d3 = r / 65536 % 16) := hd3
    have HH3 := Lib.hid (lowhex d3 hL3)
    clear hd3
    obtain ⟨d4, hd4⟩ : ∃ d, d = r / 4096 % 16 := ⟨_, rfl⟩
    have hD4 : bits .and .i32 ((r : Int) / 4096) 15 = (d4 : Int) := by
      have e := Lib.and15_shift (r : Int) r rfl (by omega) 4096
      rw [hd4]; simpa using e
    have hL4 : d4 < 16 := by omega
    have hL4' : (d4 : Int) < 16 := by omega
    have HD4 : Hid (d4 = r / 4096 % 16) := hd4
    have HH4 := Lib.hid (lowhex d4 hL4)
    clear hd4
    obtain ⟨d5, hd5⟩ : ∃ d, d = r / 256 % 16 := ⟨_, rfl⟩
    have hD5 : bits .and .i32 ((r : Int) / 256) 15 = (d5 : Int) := by
      have e := Lib.and15_shift (r : Int) r rfl (by omega) 256
      rw [hd5]; simpa using e
    have hL5 : d5 < 16 := by omega
    have hL5' : (d5 : Int) < 16 := by omega
    have HD5 : Hid (d5 = r / 256 % 16) := hd5
    have HH5 := Lib.hid (lowhex d5 hL5)
    clear hd5
    obtain ⟨d6, hd6⟩ : ∃ d, d = r / 16 % 16 := ⟨_, rfl⟩
    have hD6 : bits .and .i32 ((r : Int) / 16) 15 = (d6 : Int) := by
      have e := Lib.and15_shift (r : Int) r rfl (by omega) 16
      rw [hd6]; simpa using e
    have hL6 : d6 < 16 := by omega
    have hL6' : (d6 : Int) < 16 := by omega
    have HD6 : Hid (d6 = r / 16 % 16) := hd6
    have HH6 := Lib.hid (lowhex d6 hL6)
    clear hd6
    obtain ⟨d7, hd7⟩ : ∃ d, d = r / 1 % 16 := ⟨_, rfl⟩
    have hD7 : bits .and .i32 ((r : Int)) 15 = (d7 : Int) := by
      have e := Lib.and15_shift (r : Int) r rfl (by omega) 1
      rw [hd7]; simpa using e
    have hL7 : d7 < 16 := by omega
    have hL7' : (d7 : Int) < 16 := by omega
    have HD7 : Hid (d7 = r / 1 % 16) := hd7
    have HH7 := Lib.hid (lowhex d7 hL7)
    clear hd7
    clear hr hr1 
    generalize hzr : (r : Int) = z at *
    clear hzr hlo
    go_wp2_with (first | (go_at_call 69; refine (cV _).mono ?_; rintro e w2 ⟨rfl, rfl⟩) | (at_builtin; first | (refine wpList_qb1 (W0 := W0) (o := o) (f := f) (F := F) rfl _ _ 29 rfl i0 Tryd.underlying29 hi hz0 hz1 hz2 hQ rfl rfl (by first | omega | (simp only [List.length_append, List.length_cons, List.length_nil, Lib.strCells_length, sz2]; omega)) ?_; intro _ _ hQ) | (refine wpList_qbs (W0 := W0) (o := o) (f := f) (F := F) rfl _ _ 29 9 rfl i0 Tryd.underlying29 Tryd.underlying9 hi hz0 hz1 hz2 hQ rfl _ rfl (by first | omega | (simp only [List.length_append, List.length_cons, List.length_nil, Lib.strCells_length, sz2]; omega)) ?_; intro _ _ hQ)))
    refine wp_loop_rounds 9 ?_
    rw [rounds_succ]
    go_wp2_with (at_builtin; first | (refine wpList_qb1 (W0 := W0) (o := o) (f := f) (F := F) rfl _ _ 29 rfl i0 Tryd.underlying29 hi hz0 hz1 hz2 hQ rfl rfl (by first | omega | (simp only [List.length_append, List.length_cons, List.length_nil, Lib.strCells_length, sz2]; omega)) ?_; intro _ _ hQ) | (refine wpList_qbs (W0 := W0) (o := o) (f := f) (F := F) rfl _ _ 29 9 rfl i0 Tryd.underlying29 Tryd.underlying9 hi hz0 hz1 hz2 hQ rfl _ rfl (by first | omega | (simp only [List.length_append, List.length_cons, List.length_nil, Lib.strCells_length, sz2]; omega)) ?_; intro _ _ hQ))
    rw [rounds_succ]
    go_wp2_with (at_builtin; first | (refine wpList_qb1 (W0 := W0) (o := o) (f := f) (F := F) rfl _ _ 29 rfl i0 Tryd.underlying29 hi hz0 hz1 hz2 hQ rfl rfl (by first | omega | (simp only [List.length_append, List.length_cons, List.length_nil, Lib.strCells_length, sz2]; omega)) ?_; intro _ _ hQ) | (refine wpList_qbs (W0 := W0) (o := o) (f := f) (F := F) rfl _ _ 29 9 rfl i0 Tryd.underlying29 Tryd.underlying9 hi hz0 hz1 hz2 hQ rfl _ rfl (by first | omega | (simp only [List.length_append, List.length_cons, List.length_nil, Lib.strCells_length, sz2]; omega)) ?_; intro _ _ hQ))
    rw [rounds_succ]
    go_wp2_with (at_builtin; first | (refine wpList_qb1 (W0 := W0) (o := o) (f := f) (F := F) rfl _ _ 29 rfl i0 Tryd.underlying29 hi hz0 hz1 hz2 hQ rfl rfl (by first | omega | (simp only [List.length_append, List.length_cons, List.length_nil, Lib.strCells_length, sz2]; omega)) ?_; intro _ _ hQ) | (refine wpList_qbs (W0 := W0) (o := o) (f := f) (F := F) rfl _ _ 29 9 rfl i0 Tryd.underlying29 Tryd.underlying9 hi hz0 hz1 hz2 hQ rfl _ rfl (by first | omega | (simp only [List.length_append, List.length_cons, List.length_nil, Lib.strCells_length, sz2]; omega)) ?_; intro _ _ hQ))
    rw [rounds_succ]
    go_wp2_with (at_builtin; first | (refine wpList_qb1 (W0 := W0) (o := o) (f := f) (F := F) rfl _ _ 29 rfl i0 Tryd.underlying29 hi hz0 hz1 hz2 hQ rfl rfl (by first | omega | (simp only [List.length_append, List.length_cons, List.length_nil, Lib.strCells_length, sz2]; omega)) ?_; intro _ _ hQ) | (refine wpList_qbs (W0 := W0) (o := o) (f := f) (F := F) rfl _ _ 29 9 rfl i0 Tryd.underlying29 Tryd.underlying9 hi hz0 hz1 hz2 hQ rfl _ rfl (by first | omega | (simp only [List.length_append, List.length_cons, List.length_nil, Lib.strCells_length, sz2]; omega)) ?_; intro _ _ hQ))
    rw [rounds_succ]
    go_wp2_with (at_builtin; first | (refine wpList_qb1 (W0 := W0) (o := o) (f := f) (F := F) rfl _ _ 29 rfl i0 Tryd.underlying29 hi hz0 hz1 hz2 hQ rfl rfl (by first | omega | (simp only [List.length_append, List.length_cons, List.length_nil, Lib.strCells_length, sz2]; omega)) ?_; intro _ _ hQ) | (refine wpList_qbs (W0 := W0) (o := o) (f := f) (F := F) rfl _ _ 29 9 rfl i0 Tryd.underlying29 Tryd.underlying9 hi hz0 hz1 hz2 hQ rfl _ rfl (by first | omega | (simp only [List.length_append, List.length_cons, List.length_nil, Lib.strCells_length, sz2]; omega)) ?_; intro _ _ hQ))
    rw [rounds_succ]
    go_wp2_with (at_builtin; first | (refine wpList_qb1 (W0 := W0) (o := o) (f := f) (F := F) rfl _ _ 29 rfl i0 Tryd.underlying29 hi hz0 hz1 hz2 hQ rfl rfl (by first | omega | (simp only [List.length_append, List.length_cons, List.length_nil, Lib.strCells_length, sz2]; omega)) ?_; intro _ _ hQ) | (refine wpList_qbs (W0 := W0) (o := o) (f := f) (F := F) rfl _ _ 29 9 rfl i0 Tryd.underlying29 Tryd.underlying9 hi hz0 hz1 hz2 hQ rfl _ rfl (by first | omega | (simp only [List.length_append, List.length_cons, List.length_nil, Lib.strCells_length, sz2]; omega)) ?_; intro _ _ hQ))
    rw [rounds_succ]
    go_wp2_with (at_builtin; first | (refine wpList_qb1 (W0 := W0) (o := o) (f := f) (F := F) rfl _ _ 29 rfl i0 Tryd.underlying29 hi hz0 hz1 hz2 hQ rfl rfl (by first | omega | (simp only [List.length_append, List.length_cons, List.length_nil, Lib.strCells_length, sz2]; omega)) ?_; intro _ _ hQ) | (refine wpList_qbs (W0 := W0) (o := o) (f := f) (F := F) rfl _ _ 29 9 rfl i0 Tryd.underlying29 Tryd.underlying9 hi hz0 hz1 hz2 hQ rfl _ rfl (by first | omega | (simp only [List.length_append, List.length_cons, List.length_nil, Lib.strCells_length, sz2]; omega)) ?_; intro _ _ hQ))
    rw [rounds_succ]
    go_wp2_with (at_builtin; first | (refine wpList_qb1 (W0 := W0) (o := o) (f := f) (F := F) rfl _ _ 29 rfl i0 Tryd.underlying29 hi hz0 hz1 hz2 hQ rfl rfl (by first | omega | (simp only [List.length_append, List.length_cons, List.length_nil, Lib.strCells_length, sz2]; omega)) ?_; intro _ _ hQ) | (refine wpList_qbs (W0 := W0) (o := o) (f := f) (F := F) rfl _ _ 29 9 rfl i0 Tryd.underlying29 Tryd.underlying9 hi hz0 hz1 hz2 hQ rfl _ rfl (by first | omega | (simp only [List.length_append, List.length_cons, List.length_nil, Lib.strCells_length, sz2]; omega)) ?_; intro _ _ hQ))
    rw [rounds_succ]
    go_wp2
    go_ret
    refine ⟨_, rfl, ?_⟩
    rw [HE.out]
    simp only [← HD0.out, ← HD1.out, ← HD2.out, ← HD3.out, ← HD4.out, ← HD5.out, ← HD6.out, ← HD7.out, ← HH0.out, ← HH1.out, ← HH2.out, ← HH3.out, ← HH4.out, ← HH5.out, ← HH6.out, ← HH7.out]
    simpa [List.append_assoc, Lib.strCells] using hQ

/-- strconv.appendEscapedRune. -/
theorem esc_any (hQ : Qb W0 w o f F v xs) (hb : xs.length + 10 ≤ 140737488355328) (q r : Nat) (hq : q = 34 ∨ q = 39) (A : Bool) (hr : Sc r) (hPT : Lib.PrintTabsAt 0 1 2 3 Lib.goPrintTabs w) :
    Calls Tryd.prog 70 #[v, .int .i32 (r : Int), .int .u8 (q : Int), .bool A, .bool false] w fun e w' => ∃ v', e = .returned v' ∧ Qb W0 w' o f F v' (xs ++ Lib.strCells (escT q A r)) := by
  by_cases h1 : r = q ∨ r = 92
  · exact esc_quoted hQ hb q r hq A hr hPT h1
  have h1' : r ≠ q ∧ r ≠ 92 := by omega
  rcases hc : ((!A || decide (r < 128)) && prn r) with _ | _
  · by_cases hn : 7 ≤ r ∧ r ≤ 13
    · exact esc_named hQ hb q r hq A hr hPT h1'.1 h1'.2 hc hn
    by_cases hx : r < 32 ∨ r = 127
    · exact esc_hex2 hQ hb q r hq A hr hPT h1'.1 h1'.2 hc hn hx
    have hlo : 128 ≤ r := by
      by_cases h : r < 127
      · exfalso
        rw [prn_ascii r (by omega) (by omega)] at hc
        have hd : decide (r < 128) = true := by simp; omega
        rw [hd] at hc
        cases A <;> cases hc
      · omega
    by_cases hlt : r < 65536
    · exact esc_u4 hQ hb q r hq A hr hPT h1'.1 h1'.2 hc hlo hlt
    · exact esc_u8 hQ hb q r hq A hr hPT h1'.1 h1'.2 hc (by omega)
  · exact esc_printed hQ hb q r hq A hr hPT h1'.1 h1'.2 hc
end

end Go.Proofs.YtdadbfehackfjaaDoor
