/- The walks around fmtQ (printed by gen_q.py): fmtQ, ZZQ, impl.Quoted. Conditions: the text takes less than 2^31 bytes; widths and precisions lie between 0 and 4095; the tables of strconv.IsPrint and of unicode/utf8 stand as their initialisers lay them. -/
import Derived.Test.YtdadbfehackfjaaDoorRaw
import Derived.Test.YtdadbfehackfjaaDoorString
import Derived.Test.YtdadbfehackfjaaDoorQcCalls
set_option linter.unusedVariables false
set_option linter.unusedSimpArgs false
namespace Go.Proofs.YtdadbfehackfjaaDoor
open Go.RowKit Go.Deep

/-- What is written of a string. -/
def qText (F : Fl) (t : ByteArray) : ByteArray := if (F.sh && rawB t.size t) = true then one 96 ++ (t ++ one 96) else qS F.pl t
theorem qS_size (A : Bool) (t : ByteArray) : 2 ≤ (qS A t).size ∧ (qS A t).size ≤ 10 * t.size + 2 := by
  have h := qB_size A t.size t
  have e : (qS A t).size = 1 + ((qB A t.size t).size + 1) := by rw [qS, size_app, size_app, one_size]
  omega
theorem bq_size (t : ByteArray) : (one 96 ++ (t ++ one 96)).size = t.size + 2 := by
  have e : (one 96 ++ (t ++ one 96)).size = 1 + (t.size + 1) := by rw [size_app, size_app, one_size]
  omega
theorem qText_size (F : Fl) (t : ByteArray) : 2 ≤ (qText F t).size ∧ (qText F t).size ≤ 10 * t.size + 2 := by
  unfold qText
  split
  · rw [bq_size]; omega
  · exact qS_size _ _
theorem Wrote.after {w W w' : World} {o f : Nat} {F : Fl} {s : ByteArray} (h : Wrote W w' o f F s) (hb : Below w.heap.size w W) : Wrote w w' o f F s := by
  obtain ⟨h1, W1, I, h2, h3⟩ := h
  exact ⟨(Near.of_below hb).trans (h1.mono hb.size), W1, I, Nat.le_trans hb.size h2, h3⟩

section
variable {Wt w : World} {o f : Nat} {F : Fl} {I : List Value}


/-- A text that has been quoted is handed to pad. -/
theorem quoted_pad (hI : I.length = 68) (hf : w.heap[f]? = some (.cells (fmCells o F I) 67 (0, 0))) (ho : w.heap[o]? = some (.cells #[.slice none 0 0] 55 (0, 0))) (hF : F.Ok) (s : ByteArray) (hs : s.size ≤ 2147483647) (hPT : Lib.PrintTabsAt 0 1 2 3 Lib.goPrintTabs Wt) (hUT : Lib.Utf8Tabs 4 5 Wt) (hb : Below Wt.heap.size Wt w) (hfw : Wt.heap.size ≤ f) (A : Bool) (W : World) (hW : Below w.heap.size w W) :
    Qb W W o f F (.slice (some ⟨f, 12, none⟩) 0 68) [] ∧
    (∀ w' v xs, Qb W w' o f F v xs → Lib.PrintTabsAt 0 1 2 3 Lib.goPrintTabs w') ∧ (∀ w' v xs, Qb W w' o f F v xs → Lib.Utf8Tabs 4 5 w') ∧
    ∀ w1 v, Qb W w1 o f F v (Lib.strCells (qS A s)) → ∃ B k, v = .slice B (qS A s).size k ∧ Calls Tryd.prog 46 #[.pointer (some ⟨f, 0, none⟩), .slice B (qS A s).size k] w1 fun e w' => e = .returned (.tuple #[]) ∧ Wrote w w' o f F (padOf F (qS A s)) := by
  have hf3 := (hW.block f (heap_lt hf)).trans hf
  have ho3 := (hW.block o (heap_lt ho)).trans ho
  have hb3 : Below Wt.heap.size Wt W := hb.trans (hW.mono hb.size)
  refine ⟨Qb.start hI hf3, fun w' v xs hq => PrintTabs_below hPT (hq.old hb3 hfw), fun w' v xs hq => Utf8Tabs_below hUT (hq.old hb3 hfw), ?_⟩
  intro w1 v hq
  obtain ⟨I1, B, k, rfl, hk, _, hS, hsrc⟩ := hq.src ho3 (of_ne hf3 ho3)
  refine ⟨B, k, rfl, (pad_any hS hF (qS A s) B k hsrc hk (by decide) (by have := qS_size A s; omega)).mono ?_⟩
  rintro e w2 ⟨rfl, hS2⟩
  rw [nil_app] at hS2
  have h1 : Wrote W w2 o f F (padOf F (qS A s)) := ⟨hq.near.weak.trans (hS2.bel.mono hq.near.size), w1, I1, hq.near.size, hS2⟩
  exact ⟨rfl, h1.after hW⟩

set_option maxHeartbeats 4000000 in
set_option maxRecDepth 100000 in
theorem fmtQ_raw (hI : I.length = 68) (hf : w.heap[f]? = some (.cells (fmCells o F I) 67 (0, 0))) (ho : w.heap[o]? = some (.cells #[.slice none 0 0] 55 (0, 0))) (hF : F.Ok) (s : ByteArray) (hs : s.size ≤ 2147483647) (hPT : Lib.PrintTabsAt 0 1 2 3 Lib.goPrintTabs Wt) (hUT : Lib.Utf8Tabs 4 5 Wt) (hb : Below Wt.heap.size Wt w) (hfw : Wt.heap.size ≤ f) (hsh : F.sh = true) (hrw : rawB (cutS F s).size (cutS F s) = true) :
    Calls Tryd.prog 41 #[.pointer (some ⟨f, 0, none⟩), .string s] w fun e w' => e = .returned (.tuple #[]) ∧ Wrote w w' o f F (padOf F (qText F (cutS F s))) := by
  have hlt := heap_lt hf
  have cT := ts_any hf hF s (by omega)
  have eC : (if F.hp = true then s.extract 0 (fwd s F.prec.toNat 0) else s) = cutS F s := rfl
  rw [eC] at cT
  have hsz := cutS_size F s
  have hC : ∀ W, Below w.heap.size w W → W.cell? ⟨f, 4, none⟩ = some (.bool F.pl) ∧ W.cell? ⟨f, 5, none⟩ = some (.bool F.sh) := fun W hW =>
    have hf3 := (hW.block f (heap_lt hf)).trans hf
    ⟨cell_of_row W f 4 _ _ (0, 0) hf3, cell_of_row W f 5 _ _ (0, 0) hf3⟩
  have hU : ∀ W, Below w.heap.size w W → Lib.Utf8Tabs 4 5 W := fun W hW => Utf8Tabs_below hUT (hb.trans (hW.mono hb.size))
  have cB : ∀ W, Below w.heap.size w W → Calls Tryd.prog 52 #[.string (cutS F s)] W fun e w' => e = .returned (.bool (rawB (cutS F s).size (cutS F s))) ∧ Below W.heap.size W w' := fun W hW => canBq_any (cutS F s) (by omega) W (hU W hW)
  have eQ : qText F (cutS F s) = one 96 ++ (cutS F s ++ one 96) := by unfold qText; rw [hsh, hrw]; rfl
  have cS : ∀ W, Below w.heap.size w W → Calls Tryd.prog 44 #[.pointer (some ⟨f, 0, none⟩), .string ((⟨#[96]⟩ : ByteArray) ++ cutS F s ++ ⟨#[96]⟩)] W fun e w' => e = .returned (.tuple #[]) ∧ Wrote w w' o f F (padOf F (one 96 ++ (cutS F s ++ one 96))) := fun W hW => by
    have hf3 := (hW.block f (heap_lt hf)).trans hf
    have ho3 := (hW.block o (heap_lt ho)).trans ho
    have h := ps_any (St.start hf3 ho3) hF (one 96 ++ (cutS F s ++ one 96)) (by decide) (by rw [bq_size]; omega)
    rw [app_assoc]
    refine h.mono ?_
    rintro e w2 ⟨rfl, hS2⟩
    rw [nil_app] at hS2
    have h1 : Wrote W w2 o f F (padOf F (one 96 ++ (cutS F s ++ one 96))) := ⟨hS2.bel, W, I, Nat.le_refl _, hS2⟩
    exact ⟨rfl, h1.after hW⟩
  rw [eQ]
  obtain ⟨R, hR⟩ : ∃ R, padOf F (one 96 ++ (cutS F s ++ one 96)) = R := ⟨_, rfl⟩
  rw [hR] at cS ⊢
  rw [hsh] at hC
  rw [hrw] at cB
  obtain ⟨T, hT⟩ : ∃ T, cutS F s = T := ⟨_, rfl⟩
  simp only [hT] at cT cB cS hsz
  have hq1 : (⟨#[96]⟩ : ByteArray).size = 1 := rfl
  have hTs : T.size ≤ 2147483647 := by omega
  have hTz : (T.size : Int) ≤ 2147483647 := by omega
  have HC := Lib.hid hC
  have HB := Lib.hid cB
  have HS := Lib.hid cS
  clear hC hU cB cS hR hT eC eQ hf ho hI hF hPT hUT hb hfw hsh hrw hsz hs
  go_enter Tryd.func41, Tryd.ntmps41
  go_wp2_with (first | (go_at_call 43; refine cT.mono ?_; rintro e w2 ⟨rfl, k2⟩; obtain ⟨c4, c5⟩ := HC.out w2 k2) | (go_at_call 52; refine (HB.out w2 k2).mono ?_; rintro e w3 ⟨rfl, hb3⟩; have k3 : Below w.heap.size w w3 := k2.trans (hb3.mono k2.size)) | (go_at_call 44; refine (HS.out w3 k3).mono ?_; rintro e w4 ⟨rfl, hW4⟩))
  exact bodyPost_ret (results_none rfl _ _ _) rfl ⟨rfl, hW4⟩

set_option maxHeartbeats 4000000 in
set_option maxRecDepth 100000 in
theorem fmtQ_plain_any (hI : I.length = 68) (hf : w.heap[f]? = some (.cells (fmCells o F I) 67 (0, 0))) (ho : w.heap[o]? = some (.cells #[.slice none 0 0] 55 (0, 0))) (hF : F.Ok) (s : ByteArray) (hs : s.size ≤ 2147483647) (hPT : Lib.PrintTabsAt 0 1 2 3 Lib.goPrintTabs Wt) (hUT : Lib.Utf8Tabs 4 5 Wt) (hb : Below Wt.heap.size Wt w) (hfw : Wt.heap.size ≤ f) (hsh : F.sh = false) (hpl : F.pl = false) :
    Calls Tryd.prog 41 #[.pointer (some ⟨f, 0, none⟩), .string s] w fun e w' => e = .returned (.tuple #[]) ∧ Wrote w w' o f F (padOf F (qText F (cutS F s))) := by
  have hlt := heap_lt hf
  have cT := ts_any hf hF s (by omega)
  have eC : (if F.hp = true then s.extract 0 (fwd s F.prec.toNat 0) else s) = cutS F s := rfl
  rw [eC] at cT
  have hsz := cutS_size F s
  have hC : ∀ W, Below w.heap.size w W → W.cell? ⟨f, 4, none⟩ = some (.bool F.pl) ∧ W.cell? ⟨f, 5, none⟩ = some (.bool F.sh) := fun W hW =>
    have hf3 := (hW.block f (heap_lt hf)).trans hf
    ⟨cell_of_row W f 4 _ _ (0, 0) hf3, cell_of_row W f 5 _ _ (0, 0) hf3⟩
  have hU : ∀ W, Below w.heap.size w W → Lib.Utf8Tabs 4 5 W := fun W hW => Utf8Tabs_below hUT (hb.trans (hW.mono hb.size))
  have cB : ∀ W, Below w.heap.size w W → Calls Tryd.prog 52 #[.string (cutS F s)] W fun e w' => e = .returned (.bool (rawB (cutS F s).size (cutS F s))) ∧ Below W.heap.size W w' := fun W hW => canBq_any (cutS F s) (by omega) W (hU W hW)
  have eQ : qText F (cutS F s) = qS false (cutS F s) := by unfold qText; rw [hsh, hpl]; rfl
  have hQ : ∀ W (hW : Below w.heap.size w W), _ := fun W hW => quoted_pad hI hf ho hF (cutS F s) (by omega) hPT hUT hb hfw false W hW
  have cA : ∀ W, Below w.heap.size w W → Calls Tryd.prog 54 #[.slice (some ⟨f, 12, none⟩) 0 68, .string (cutS F s)] W fun e w' => ∃ v', e = .returned v' ∧ Qb W w' o f F v' (Lib.strCells (qS false (cutS F s))) := fun W hW => aq_any (hQ W hW).1 (cutS F s) (by omega) (hQ W hW).2.1 (hQ W hW).2.2.1
  have cP := fun W hW => (hQ W hW).2.2.2
  rw [eQ]
  obtain ⟨R, hR⟩ : ∃ R, padOf F (qS false (cutS F s)) = R := ⟨_, rfl⟩
  simp only [hR] at cP
  rw [hR]
  rw [hsh, hpl] at hC
  clear cB
  obtain ⟨m, hm⟩ : ∃ m, (qS false (cutS F s)).size = m := ⟨_, rfl⟩
  simp only [hm] at cP
  obtain ⟨X, hX⟩ : ∃ X, Lib.strCells (qS false (cutS F s)) = X := ⟨_, rfl⟩
  simp only [hX] at cP cA
  obtain ⟨T, hT⟩ : ∃ T, cutS F s = T := ⟨_, rfl⟩
  simp only [hT] at cT cA
  have HC := Lib.hid hC

  have HA := Lib.hid cA
  have HP := Lib.hid cP
  clear hC hU  cA cP hQ hR hT hm hX eC eQ hf ho hI hF hPT hUT hb hfw hsh  hpl hsz hs
  go_enter Tryd.func41, Tryd.ntmps41
  go_wp2_with (first | (go_at_call 43; refine cT.mono ?_; rintro e w2 ⟨rfl, k2⟩; obtain ⟨c4, c5⟩ := HC.out w2 k2) | (go_at_call 54; refine (HA.out w2 k2).mono ?_; rintro e w5 ⟨v5, rfl, hq5⟩; obtain ⟨A5, c5, rfl, hP5⟩ := HP.out w2 k2 w5 v5 hq5) | (go_at_call 46; refine hP5.mono ?_; rintro e w6 ⟨rfl, hW6⟩))
  go_end0
  exact ⟨rfl, hW6⟩

set_option maxHeartbeats 4000000 in
set_option maxRecDepth 100000 in
theorem fmtQ_plain_ascii (hI : I.length = 68) (hf : w.heap[f]? = some (.cells (fmCells o F I) 67 (0, 0))) (ho : w.heap[o]? = some (.cells #[.slice none 0 0] 55 (0, 0))) (hF : F.Ok) (s : ByteArray) (hs : s.size ≤ 2147483647) (hPT : Lib.PrintTabsAt 0 1 2 3 Lib.goPrintTabs Wt) (hUT : Lib.Utf8Tabs 4 5 Wt) (hb : Below Wt.heap.size Wt w) (hfw : Wt.heap.size ≤ f) (hsh : F.sh = false) (hpl : F.pl = true) :
    Calls Tryd.prog 41 #[.pointer (some ⟨f, 0, none⟩), .string s] w fun e w' => e = .returned (.tuple #[]) ∧ Wrote w w' o f F (padOf F (qText F (cutS F s))) := by
  have hlt := heap_lt hf
  have cT := ts_any hf hF s (by omega)
  have eC : (if F.hp = true then s.extract 0 (fwd s F.prec.toNat 0) else s) = cutS F s := rfl
  rw [eC] at cT
  have hsz := cutS_size F s
  have hC : ∀ W, Below w.heap.size w W → W.cell? ⟨f, 4, none⟩ = some (.bool F.pl) ∧ W.cell? ⟨f, 5, none⟩ = some (.bool F.sh) := fun W hW =>
    have hf3 := (hW.block f (heap_lt hf)).trans hf
    ⟨cell_of_row W f 4 _ _ (0, 0) hf3, cell_of_row W f 5 _ _ (0, 0) hf3⟩
  have hU : ∀ W, Below w.heap.size w W → Lib.Utf8Tabs 4 5 W := fun W hW => Utf8Tabs_below hUT (hb.trans (hW.mono hb.size))
  have cB : ∀ W, Below w.heap.size w W → Calls Tryd.prog 52 #[.string (cutS F s)] W fun e w' => e = .returned (.bool (rawB (cutS F s).size (cutS F s))) ∧ Below W.heap.size W w' := fun W hW => canBq_any (cutS F s) (by omega) W (hU W hW)
  have eQ : qText F (cutS F s) = qS true (cutS F s) := by unfold qText; rw [hsh, hpl]; rfl
  have hQ : ∀ W (hW : Below w.heap.size w W), _ := fun W hW => quoted_pad hI hf ho hF (cutS F s) (by omega) hPT hUT hb hfw true W hW
  have cA : ∀ W, Below w.heap.size w W → Calls Tryd.prog 53 #[.slice (some ⟨f, 12, none⟩) 0 68, .string (cutS F s)] W fun e w' => ∃ v', e = .returned v' ∧ Qb W w' o f F v' (Lib.strCells (qS true (cutS F s))) := fun W hW => aqa_any (hQ W hW).1 (cutS F s) (by omega) (hQ W hW).2.1 (hQ W hW).2.2.1
  have cP := fun W hW => (hQ W hW).2.2.2
  rw [eQ]
  obtain ⟨R, hR⟩ : ∃ R, padOf F (qS true (cutS F s)) = R := ⟨_, rfl⟩
  simp only [hR] at cP
  rw [hR]
  rw [hsh, hpl] at hC
  clear cB
  obtain ⟨m, hm⟩ : ∃ m, (qS true (cutS F s)).size = m := ⟨_, rfl⟩
  simp only [hm] at cP
  obtain ⟨X, hX⟩ : ∃ X, Lib.strCells (qS true (cutS F s)) = X := ⟨_, rfl⟩
  simp only [hX] at cP cA
  obtain ⟨T, hT⟩ : ∃ T, cutS F s = T := ⟨_, rfl⟩
  simp only [hT] at cT cA
  have HC := Lib.hid hC

  have HA := Lib.hid cA
  have HP := Lib.hid cP
  clear hC hU  cA cP hQ hR hT hm hX eC eQ hf ho hI hF hPT hUT hb hfw hsh  hpl hsz hs
  go_enter Tryd.func41, Tryd.ntmps41
  go_wp2_with (first | (go_at_call 43; refine cT.mono ?_; rintro e w2 ⟨rfl, k2⟩; obtain ⟨c4, c5⟩ := HC.out w2 k2) | (go_at_call 53; refine (HA.out w2 k2).mono ?_; rintro e w5 ⟨v5, rfl, hq5⟩; obtain ⟨A5, c5, rfl, hP5⟩ := HP.out w2 k2 w5 v5 hq5) | (go_at_call 46; refine hP5.mono ?_; rintro e w6 ⟨rfl, hW6⟩))
  go_end0
  exact ⟨rfl, hW6⟩

set_option maxHeartbeats 4000000 in
set_option maxRecDepth 100000 in
theorem fmtQ_sharp_any (hI : I.length = 68) (hf : w.heap[f]? = some (.cells (fmCells o F I) 67 (0, 0))) (ho : w.heap[o]? = some (.cells #[.slice none 0 0] 55 (0, 0))) (hF : F.Ok) (s : ByteArray) (hs : s.size ≤ 2147483647) (hPT : Lib.PrintTabsAt 0 1 2 3 Lib.goPrintTabs Wt) (hUT : Lib.Utf8Tabs 4 5 Wt) (hb : Below Wt.heap.size Wt w) (hfw : Wt.heap.size ≤ f) (hsh : F.sh = true) (hrw : rawB (cutS F s).size (cutS F s) = false) (hpl : F.pl = false) :
    Calls Tryd.prog 41 #[.pointer (some ⟨f, 0, none⟩), .string s] w fun e w' => e = .returned (.tuple #[]) ∧ Wrote w w' o f F (padOf F (qText F (cutS F s))) := by
  have hlt := heap_lt hf
  have cT := ts_any hf hF s (by omega)
  have eC : (if F.hp = true then s.extract 0 (fwd s F.prec.toNat 0) else s) = cutS F s := rfl
  rw [eC] at cT
  have hsz := cutS_size F s
  have hC : ∀ W, Below w.heap.size w W → W.cell? ⟨f, 4, none⟩ = some (.bool F.pl) ∧ W.cell? ⟨f, 5, none⟩ = some (.bool F.sh) := fun W hW =>
    have hf3 := (hW.block f (heap_lt hf)).trans hf
    ⟨cell_of_row W f 4 _ _ (0, 0) hf3, cell_of_row W f 5 _ _ (0, 0) hf3⟩
  have hU : ∀ W, Below w.heap.size w W → Lib.Utf8Tabs 4 5 W := fun W hW => Utf8Tabs_below hUT (hb.trans (hW.mono hb.size))
  have cB : ∀ W, Below w.heap.size w W → Calls Tryd.prog 52 #[.string (cutS F s)] W fun e w' => e = .returned (.bool (rawB (cutS F s).size (cutS F s))) ∧ Below W.heap.size W w' := fun W hW => canBq_any (cutS F s) (by omega) W (hU W hW)
  have eQ : qText F (cutS F s) = qS false (cutS F s) := by unfold qText; rw [hsh, hrw, hpl]; rfl
  have hQ : ∀ W (hW : Below w.heap.size w W), _ := fun W hW => quoted_pad hI hf ho hF (cutS F s) (by omega) hPT hUT hb hfw false W hW
  have cA : ∀ W, Below w.heap.size w W → Calls Tryd.prog 54 #[.slice (some ⟨f, 12, none⟩) 0 68, .string (cutS F s)] W fun e w' => ∃ v', e = .returned v' ∧ Qb W w' o f F v' (Lib.strCells (qS false (cutS F s))) := fun W hW => aq_any (hQ W hW).1 (cutS F s) (by omega) (hQ W hW).2.1 (hQ W hW).2.2.1
  have cP := fun W hW => (hQ W hW).2.2.2
  rw [eQ]
  obtain ⟨R, hR⟩ : ∃ R, padOf F (qS false (cutS F s)) = R := ⟨_, rfl⟩
  simp only [hR] at cP
  rw [hR]
  rw [hsh, hpl] at hC
  rw [hrw] at cB
  obtain ⟨m, hm⟩ : ∃ m, (qS false (cutS F s)).size = m := ⟨_, rfl⟩
  simp only [hm] at cP
  obtain ⟨X, hX⟩ : ∃ X, Lib.strCells (qS false (cutS F s)) = X := ⟨_, rfl⟩
  simp only [hX] at cP cA
  obtain ⟨T, hT⟩ : ∃ T, cutS F s = T := ⟨_, rfl⟩
  simp only [hT] at cT cA cB
  have HC := Lib.hid hC
  have HB := Lib.hid cB
  have HA := Lib.hid cA
  have HP := Lib.hid cP
  clear hC hU cB cA cP hQ hR hT hm hX eC eQ hf ho hI hF hPT hUT hb hfw hsh hrw hpl hsz hs
  go_enter Tryd.func41, Tryd.ntmps41
  go_wp2_with (first | (go_at_call 43; refine cT.mono ?_; rintro e w2 ⟨rfl, k2⟩; obtain ⟨c4, c5⟩ := HC.out w2 k2) | (go_at_call 52; refine (HB.out w2 k2).mono ?_; rintro e w3 ⟨rfl, hb3⟩; have k3 : Below w.heap.size w w3 := k2.trans (hb3.mono k2.size); obtain ⟨d4, d5⟩ := HC.out w3 k3) | (go_at_call 54; refine (HA.out w3 k3).mono ?_; rintro e w5 ⟨v5, rfl, hq5⟩; obtain ⟨A5, c5, rfl, hP5⟩ := HP.out w3 k3 w5 v5 hq5) | (go_at_call 46; refine hP5.mono ?_; rintro e w6 ⟨rfl, hW6⟩))
  go_end0
  exact ⟨rfl, hW6⟩

set_option maxHeartbeats 4000000 in
set_option maxRecDepth 100000 in
theorem fmtQ_sharp_ascii (hI : I.length = 68) (hf : w.heap[f]? = some (.cells (fmCells o F I) 67 (0, 0))) (ho : w.heap[o]? = some (.cells #[.slice none 0 0] 55 (0, 0))) (hF : F.Ok) (s : ByteArray) (hs : s.size ≤ 2147483647) (hPT : Lib.PrintTabsAt 0 1 2 3 Lib.goPrintTabs Wt) (hUT : Lib.Utf8Tabs 4 5 Wt) (hb : Below Wt.heap.size Wt w) (hfw : Wt.heap.size ≤ f) (hsh : F.sh = true) (hrw : rawB (cutS F s).size (cutS F s) = false) (hpl : F.pl = true) :
    Calls Tryd.prog 41 #[.pointer (some ⟨f, 0, none⟩), .string s] w fun e w' => e = .returned (.tuple #[]) ∧ Wrote w w' o f F (padOf F (qText F (cutS F s))) := by
  have hlt := heap_lt hf
  have cT := ts_any hf hF s (by omega)
  have eC : (if F.hp = true then s.extract 0 (fwd s F.prec.toNat 0) else s) = cutS F s := rfl
  rw [eC] at cT
  have hsz := cutS_size F s
  have hC : ∀ W, Below w.heap.size w W → W.cell? ⟨f, 4, none⟩ = some (.bool F.pl) ∧ W.cell? ⟨f, 5, none⟩ = some (.bool F.sh) := fun W hW =>
    have hf3 := (hW.block f (heap_lt hf)).trans hf
    ⟨cell_of_row W f 4 _ _ (0, 0) hf3, cell_of_row W f 5 _ _ (0, 0) hf3⟩
  have hU : ∀ W, Below w.heap.size w W → Lib.Utf8Tabs 4 5 W := fun W hW => Utf8Tabs_below hUT (hb.trans (hW.mono hb.size))
  have cB : ∀ W, Below w.heap.size w W → Calls Tryd.prog 52 #[.string (cutS F s)] W fun e w' => e = .returned (.bool (rawB (cutS F s).size (cutS F s))) ∧ Below W.heap.size W w' := fun W hW => canBq_any (cutS F s) (by omega) W (hU W hW)
  have eQ : qText F (cutS F s) = qS true (cutS F s) := by unfold qText; rw [hsh, hrw, hpl]; rfl
  have hQ : ∀ W (hW : Below w.heap.size w W), _ := fun W hW => quoted_pad hI hf ho hF (cutS F s) (by omega) hPT hUT hb hfw true W hW
  have cA : ∀ W, Below w.heap.size w W → Calls Tryd.prog 53 #[.slice (some ⟨f, 12, none⟩) 0 68, .string (cutS F s)] W fun e w' => ∃ v', e = .returned v' ∧ Qb W w' o f F v' (Lib.strCells (qS true (cutS F s))) := fun W hW => aqa_any (hQ W hW).1 (cutS F s) (by omega) (hQ W hW).2.1 (hQ W hW).2.2.1
  have cP := fun W hW => (hQ W hW).2.2.2
  rw [eQ]
  obtain ⟨R, hR⟩ : ∃ R, padOf F (qS true (cutS F s)) = R := ⟨_, rfl⟩
  simp only [hR] at cP
  rw [hR]
  rw [hsh, hpl] at hC
  rw [hrw] at cB
  obtain ⟨m, hm⟩ : ∃ m, (qS true (cutS F s)).size = m := ⟨_, rfl⟩
  simp only [hm] at cP
  obtain ⟨X, hX⟩ : ∃ X, Lib.strCells (qS true (cutS F s)) = X := ⟨_, rfl⟩
  simp only [hX] at cP cA
  obtain ⟨T, hT⟩ : ∃ T, cutS F s = T := ⟨_, rfl⟩
  simp only [hT] at cT cA cB
  have HC := Lib.hid hC
  have HB := Lib.hid cB
  have HA := Lib.hid cA
  have HP := Lib.hid cP
  clear hC hU cB cA cP hQ hR hT hm hX eC eQ hf ho hI hF hPT hUT hb hfw hsh hrw hpl hsz hs
  go_enter Tryd.func41, Tryd.ntmps41
  go_wp2_with (first | (go_at_call 43; refine cT.mono ?_; rintro e w2 ⟨rfl, k2⟩; obtain ⟨c4, c5⟩ := HC.out w2 k2) | (go_at_call 52; refine (HB.out w2 k2).mono ?_; rintro e w3 ⟨rfl, hb3⟩; have k3 : Below w.heap.size w w3 := k2.trans (hb3.mono k2.size); obtain ⟨d4, d5⟩ := HC.out w3 k3) | (go_at_call 53; refine (HA.out w3 k3).mono ?_; rintro e w5 ⟨v5, rfl, hq5⟩; obtain ⟨A5, c5, rfl, hP5⟩ := HP.out w3 k3 w5 v5 hq5) | (go_at_call 46; refine hP5.mono ?_; rintro e w6 ⟨rfl, hW6⟩))
  go_end0
  exact ⟨rfl, hW6⟩

/-- (*fmt).fmtQ. -/
theorem fmtQ_any (hI : I.length = 68) (hf : w.heap[f]? = some (.cells (fmCells o F I) 67 (0, 0))) (ho : w.heap[o]? = some (.cells #[.slice none 0 0] 55 (0, 0))) (hF : F.Ok) (s : ByteArray) (hs : s.size ≤ 2147483647) (hPT : Lib.PrintTabsAt 0 1 2 3 Lib.goPrintTabs Wt) (hUT : Lib.Utf8Tabs 4 5 Wt) (hb : Below Wt.heap.size Wt w) (hfw : Wt.heap.size ≤ f) :
    Calls Tryd.prog 41 #[.pointer (some ⟨f, 0, none⟩), .string s] w fun e w' => e = .returned (.tuple #[]) ∧ Wrote w w' o f F (padOf F (qText F (cutS F s))) := by
  rcases hsh : F.sh with _ | _
  · rcases hpl : F.pl with _ | _
    · exact fmtQ_plain_any hI hf ho hF s hs hPT hUT hb hfw hsh hpl
    · exact fmtQ_plain_ascii hI hf ho hF s hs hPT hUT hb hfw hsh hpl
  · rcases hrw : rawB (cutS F s).size (cutS F s) with _ | _
    · rcases hpl : F.pl with _ | _
      · exact fmtQ_sharp_any hI hf ho hF s hs hPT hUT hb hfw hsh hrw hpl
      · exact fmtQ_sharp_ascii hI hf ho hF s hs hPT hUT hb hfw hsh hrw hpl
    · exact fmtQ_raw hI hf ho hF s hs hPT hUT hb hfw hsh hrw
end

set_option maxHeartbeats 2000000 in
set_option maxRecDepth 100000 in
theorem zzQ_any (F : Fl) (hF : F.Ok) (s : ByteArray) (hs : s.size ≤ 2147483647) (w : World) (hPT : Lib.PrintTabsAt 0 1 2 3 Lib.goPrintTabs w) (hUT : Lib.Utf8Tabs 4 5 w) :
    Calls Tryd.prog 33 #[(.agg #[.int .i64 F.wid, .int .i64 F.prec, .bool F.hw, .bool F.hp, .bool F.mi, .bool F.pl, .bool F.sh, .bool F.sp, .bool F.ze, .bool false, .bool false]), .string s] w fun e w' => e = .returned (.string (padOf F (qText F (cutS F s)))) ∧ Below w.heap.size w w' := by
  obtain ⟨n, hn⟩ : ∃ n, n = w.heap.size + 1 + 1 + 1 := ⟨_, rfl⟩
  have hnw : w.heap.size ≤ n := by omega
  have HN := Lib.hid hn
  have HPT := Lib.hid hPT
  have HUT := Lib.hid hUT
  clear hn hPT hUT
  have hlen : noughts.length = 68 := rfl
  have cM := fun (W : World) o (hf : W.heap[n]? = some (Obj.cells (fmCells o F noughts) 67 (0, 0))) (ho : W.heap[o]? = some (Obj.cells #[.slice none 0 0] 55 (0, 0))) (hb : Below w.heap.size w W) => fmtQ_any hlen hf ho hF s hs HPT.out HUT.out hb hnw
  obtain ⟨R, hR⟩ : ∃ R, padOf F (qText F (cutS F s)) = R := ⟨_, rfl⟩
  rw [hR] at cM ⊢
  clear hR hlen hs hnw
  go_enter Tryd.func33, Tryd.ntmps33
  go_wp2_with (first | (go_at_call 35; refine (zzFmt_any F _ _ n (by rw [HN.out]; simp) (by simp)).mono ?_; rintro e w1 ⟨rfl, hb1, hf1⟩; have ho1 := (hb1.block (w.heap.size + 1) (by simp)).trans (heap_second w _ _); have k1 : Below w.heap.size w w1 := Below.trans (by repeat (first | (with_reducible refine Below.drew ?_) | (with_reducible refine below_drewN ?_ _) | (with_reducible refine Below.alloc ?_ (by first | (simp; done) | (simp; omega)) _) | (with_reducible refine Below.setCell ?_ (by first | (simp; done) | (simp; omega)) _) | with_reducible exact Below.refl _ _)) (hb1.mono (by first | (simp; done) | (simp; omega)))) | (go_at_call 41; refine (cM _ _ hf1 ho1 k1).mono ?_; rintro e w2 ⟨rfl, hS2⟩; obtain ⟨v2, hv2, hcv2⟩ := hS2.conv))
  go_ret
  exact ⟨rfl, hS2.done k1 (by omega) (by rw [HN.out]; omega)⟩

set_option maxHeartbeats 2000000 in
set_option maxRecDepth 100000 in
/-- impl.Quoted. -/
theorem quoted_any (F : Fl) (hF : F.Ok) (s : ByteArray) (hs : s.size ≤ 2147483647) (w : World) (hPT : Lib.PrintTabsAt 0 1 2 3 Lib.goPrintTabs w) (hUT : Lib.Utf8Tabs 4 5 w) :
    Calls Tryd.prog 20 #[(.agg #[.int .i64 F.wid, .int .i64 F.prec, .bool F.hw, .bool F.hp, .bool F.mi, .bool F.pl, .bool F.sh, .bool F.sp, .bool F.ze]), .string s] w fun e w' => e = .returned (.string (padOf F (qText F (cutS F s)))) ∧ Below w.heap.size w w' := by
  have cT := fun (W : World) => zzQ_any F hF s hs W
  obtain ⟨R, hR⟩ : ∃ R, padOf F (qText F (cutS F s)) = R := ⟨_, rfl⟩
  rw [hR] at cT ⊢
  have HPT := Lib.hid hPT
  have HUT := Lib.hid hUT
  clear hR hPT hUT hs
  go_enter Tryd.func20, Tryd.ntmps20
  go_wp2_with (first | (go_at_call 25; refine (flags_any F _).mono ?_; rintro e w1 ⟨rfl, hb1⟩; have k1 : Below w.heap.size w w1 := Below.trans (by repeat (first | (with_reducible refine Below.drew ?_) | (with_reducible refine below_drewN ?_ _) | (with_reducible refine Below.alloc ?_ (by first | (simp; done) | (simp; omega)) _) | (with_reducible refine Below.setCell ?_ (by first | (simp; done) | (simp; omega)) _) | with_reducible exact Below.refl _ _)) (hb1.mono (by first | (simp; done) | (simp; omega))); have hT1 := PrintTabs_below HPT.out k1; have hU1 := Utf8Tabs_below HUT.out k1) | (go_at_call 33; refine (cT _ hT1 hU1).mono ?_; rintro e w2 ⟨rfl, hb2⟩))
  go_ret
  exact ⟨rfl, k1.trans (hb2.mono k1.size)⟩

end Go.Proofs.YtdadbfehackfjaaDoor
