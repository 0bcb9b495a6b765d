/- The walk of strconv.appendQuotedWith between double quotes, onto a formatter's empty intbuf. Conditions: the text takes no more than 2^40 bytes; graphicOnly is false; the tables of strconv.IsPrint and of unicode/utf8 stand as their initialisers lay them. -/
import Derived.Test.YtdadbfehackfjaaDoorQText
import Derived.Test.YtdadbfehackfjaaDoorPrintCalls
import Derived.Deep.DeepCutAuto
import Derived.Deep.CutBlock
import Derived.Lib.JoinLaws
set_option linter.unusedVariables false
set_option linter.unusedSimpArgs false
namespace Go.Proofs.YtdadbfehackfjaaDoor
open Go.RowKit Go.Deep

/-- A literal of a string. -/
def qS (A : Bool) (s : ByteArray) : ByteArray := one 34 ++ (qB A s.size s ++ one 34)

theorem decodeGo_pos (t : ByteArray) (h : 0 < t.size) : Lib.decodeGo t = ((Utf8.decode t 0).1, (Utf8.decode t 0).2) := by
  have hne : ¬ t.size = 0 := by omega
  simp [Lib.decodeGo, hne]

section
variable {W0 w : World} {o f : Nat} {F : Fl} {v : Value} {xs : List Value}

/-- A row of its own in the intbuf's stead: nothing has been written yet. -/
theorem Qb.made (h : Qb W0 w o f F v []) (c : Nat) (hc : c ≤ 9223372036854775807) : Qb W0 (w.alloc (.cells (madeCells #[.int .u8 0] c) 5)) o f F (.slice (some ⟨w.heap.size, 0, none⟩) 0 c) [] :=
  h.grew (row := none) (World.ownsRow_made w (madeCells #[.int .u8 0] c) c h.base (by unfold maxLen; omega) (by rw [size_madeCells, Nat.mul_one])) (World.grownBy_alloc w _ none) (by simp)

set_option maxHeartbeats 8000000 in
set_option maxRecDepth 100000 in
theorem aqw_any (hQ : Qb W0 w o f F (.slice (some ⟨f, 12, none⟩) 0 68) []) (s : ByteArray) (hs : s.size ≤ 1099511627776) (A : Bool) (HPT : ∀ w v xs, Qb W0 w o f F v xs → Lib.PrintTabsAt 0 1 2 3 Lib.goPrintTabs w) (HUT : ∀ w v xs, Qb W0 w o f F v xs → Lib.Utf8Tabs 4 5 w) :
    Calls Tryd.prog 67 #[.slice (some ⟨f, 12, none⟩) 0 68, .string s, .int .u8 34, .bool A, .bool false] w fun e w' => ∃ v', e = .returned v' ∧ Qb W0 w' o f F v' (Lib.strCells (qS A s)) := by
  obtain ⟨i0, hi, hz0, hz1, hz2⟩ := info_parts Tryd.info5
  have HPT := Lib.hid HPT
  have HUT := Lib.hid HUT
  have HQ := Lib.hid hQ
  clear hQ
  go_enter Tryd.func67, Tryd.ntmps67
  go_upto_if 21 with (fail)
  go_cut [0, 11] from 22 to 35 (fun s0 _ wx => Hid (Qb W0 wx o f F s0 []))
  case first =>
    by_cases hr : (68 : Int) < (s.size : Int)
    · have hmk := run_make_room (P := Tryd.prog) 29 5 (.int .u8 0) 1 Tryd.underlying29 Tryd.info5 rfl .i64 .i64 (s.size + 2) (by omega) (by omega) w
      have hcp := fun (ty : TypeId) (W : World) => run_copy_none (P := Tryd.prog) W 29 29 ty 5 (some ⟨w.heap.size, 0, none⟩) (some ⟨f, 12, none⟩) 0 (s.size + 2) 0 68 Tryd.underlying29 (by kernel_rfl) rfl
      rw [show ((s.size + 2 : Nat) : Int) = 1 + (s.size : Int) + 1 by omega] at hmk
      have HM := Lib.hid (HQ.out.made (s.size + 2) (by omega))
      go_wp2
      go_meet
      exact HM
    · go_wp2
      go_meet
      exact HQ
  case rest =>
    have hQ := hcut.out
    clear HQ
    go_upto_block 0 with (at_builtin; refine wpList_qb1 (W0 := W0) (o := o) (f := f) (F := F) rfl _ _ 29 rfl i0 Tryd.underlying29 hi hz0 hz1 hz2 hQ rfl rfl (by decide) ?_; intro _ _ hQ)
    have HQ1 := Lib.hid hQ
    clear hQ
    go_wp2
    go_loopw [0, 1, 12, 13] (fun v0 v1 _ _ wr => ∃ (t : ByteArray) (n : Nat) (xs : List Value), v1 = .string t ∧ t.size ≤ n ∧ Hid (Qb W0 wr o f F v0 xs) ∧ Hid (xs ++ Lib.strCells (qB A n t) = .int .u8 34 :: Lib.strCells (qB A s.size s)) ∧ xs.length + 10 * t.size ≤ 10 * s.size + 1) (fun _ v1 _ _ _ => strLen v1)
    case atStart => exact ⟨s, s.size, [.int .u8 34], rfl, Nat.le_refl _, HQ1, rfl, by simp only [List.length_cons, List.length_nil]; omega⟩
    case round =>
      obtain ⟨t, n, xs, rfl, hn, Hq, He, hl⟩ := hrel
      by_cases h0 : 0 < t.size
      · have h0z : (0 : Int) < (t.size : Int) := by omega
        obtain ⟨n, rfl⟩ : ∃ k, n = k + 1 := ⟨n - 1, by omega⟩
        have h3 := restQ_size t h0
        have hps := pieceQ_size A t
        have cD := Tryd.utf8_DecodeRuneInString t wr (HUT.out _ _ _ Hq.out)
        rw [decodeGo_pos t h0] at cD
        have He2 : xs ++ Lib.strCells (pieceQ A t) ++ Lib.strCells (qB A n (restQ t)) = .int .u8 34 :: Lib.strCells (qB A s.size s) := by
          rw [← He.out, qB, if_pos h0, strCells_app, List.append_assoc]
        unfold restQ at h3 He2
        unfold pieceQ at He2 hps
        have hsc := dec_sc t
        have hbd : badH t ↔ ((Utf8.decode t 0).1 = 65533 ∧ (Utf8.decode t 0).2 = 1) := Iff.rfl
        obtain ⟨r, hr⟩ : ∃ r, (Utf8.decode t 0).1 = r := ⟨_, rfl⟩
        obtain ⟨d, hd⟩ : ∃ d, (Utf8.decode t 0).2 = d := ⟨_, rfl⟩
        rw [hr, hd] at cD hbd
        rw [hd] at h3
        rw [hr] at hsc
        by_cases hb : badH t
        · rw [if_pos hb, hd] at He2
          obtain ⟨rfl, rfl⟩ := hbd.1 hb
          obtain ⟨c, hc⟩ : ∃ c, t[0]'h0 = c := ⟨_, rfl⟩
          have hg := get_of_lt t 0 h0
          rw [hc] at hg
          rw [hg] at He2
          obtain ⟨x, hx⟩ : ∃ x, c.toNat = x := ⟨_, rfl⟩
          have hxl : x < 256 := by rw [← hx]; exact c.toNat_lt
          have hd1 : x / 16 < 16 := by omega
          have hd2 : x % 16 < 16 := by omega
          have hd1' : (x : Int) / 16 < 16 := by omega
          have hd2' : (x : Int) % 16 < 16 := by omega
          have hand : bits .and .u8 (x : Int) 15 = (x : Int) % 16 := by
            have := and15u8 ⟨x, by omega⟩
            simpa using this
          have H1 := Lib.hid (lowhex (x / 16) hd1)
          have H2 := Lib.hid (lowhex (x % 16) hd2)
          have hE : Lib.strCells (one 92 ++ (one 120 ++ hexn x 2)) = [.int .u8 92, .int .u8 120, .int .u8 ((hexd false (x / 16)).toNat : Int), .int .u8 ((hexd false (x % 16)).toNat : Int)] := by
            rw [hexn, hexn, hexn, app_nil]
            simp only [strCells_app, strCells_one]
            rw [show x / 16 ^ 1 % 16 = x / 16 by omega, show x / 16 ^ 0 % 16 = x % 16 by omega]
            rfl
          rw [hx, hE] at He2
          have HE2 := Lib.hid He2
          have H3 := Lib.hid h3
          have Hl := Lib.hid hl
          have hlen : xs.length + 10 ≤ 140737488355328 := by omega
          have cD2 : Calls Tryd.prog 66 #[.string t] wr fun e w' => e = .returned (.tuple #[.int .i32 65533, .int .i64 1]) ∧ Below wr.heap.size wr w' := cD
          clear He2 hE hb hbd hr hd hg h3 hsc hps He hl cD
          go_wp2_with (first | (go_at_call 66; refine cD2.mono ?_; rintro e w1 ⟨rfl, hb1⟩; have hQ := Hq.out.below hb1) | (at_builtin; first | (refine wpList_qb1 (W0 := W0) (o := o) (f := f) (F := F) rfl _ _ 29 rfl i0 Tryd.underlying29 hi hz0 hz1 hz2 hQ rfl rfl (by first | omega | (simp only [List.length_append, List.length_cons, List.length_nil, Lib.strCells_length, sz2]; omega)) ?_; intro _ _ hQ) | (refine wpList_qbs (W0 := W0) (o := o) (f := f) (F := F) rfl _ _ 29 9 rfl i0 Tryd.underlying29 Tryd.underlying9 hi hz0 hz1 hz2 hQ rfl _ rfl (by first | omega | (simp only [List.length_append, List.length_cons, List.length_nil, Lib.strCells_length, sz2]; omega)) ?_; intro _ _ hQ)))
          go_roundw
          case rel =>
            refine ⟨_, n, _, rfl, ?_, hQ, ?_, ?_⟩
            · have := H3.out; omega
            · show _ = _
              rw [← HE2.out, ← H1.out, ← H2.out]
              simp [List.append_assoc, Lib.strCells]
            · have := H3.out; have := Hl.out
              simp only [List.length_append, List.length_cons, List.length_nil, Lib.strCells_length, sz2]
              omega
          case measure => have := H3.out; simp only [strLen]; omega
        · rw [if_neg hb, hr, hd] at He2
          rw [if_neg hb, hr] at hps
          have hne : ¬ (r = 65533 ∧ d = 1) := fun h => hb (hbd.2 h)
          have cE : ∀ W V, Qb W0 W o f F V xs → Calls Tryd.prog 70 #[V, .int .i32 (r : Int), .int .u8 34, .bool A, .bool false] W fun e w' => ∃ v', e = .returned v' ∧ Qb W0 w' o f F v' (xs ++ Lib.strCells (escT 34 A r)) := fun W V hq => esc_any hq (by omega) 34 r (.inl rfl) A hsc (HPT.out _ _ _ hq)
          have HCE := Lib.hid cE
          obtain ⟨T, hT⟩ : ∃ T, escT 34 A r = T := ⟨_, rfl⟩
          rw [hT] at He2 hps HCE
          have HE2 := Lib.hid He2
          have H3 := Lib.hid h3
          have Hl := Lib.hid hl
          have Hps := Lib.hid hps
          have hd0 : (0 : Int) ≤ (d : Int) := by omega
          have hdt : (d : Int) ≤ (t.size : Int) := by omega
          by_cases hd1 : d = 1
          · obtain rfl := hd1
            have hr1 : ¬ (r : Int) = 65533 := by omega
            have er1 : ((r : Int) == 65533) = false := by simpa using hr1
            have cD2 : Calls Tryd.prog 66 #[.string t] wr fun e w' => e = .returned (.tuple #[.int .i32 (r : Int), .int .i64 1]) ∧ Below wr.heap.size wr w' := cD
            clear He2 hb hbd hr hd h3 hsc hps He hl hT cE hne cD
            go_wp2_with (first | (go_at_call 66; refine cD2.mono ?_; rintro e w1 ⟨rfl, hb1⟩; have hQ := Hq.out.below hb1) | (go_at_call 70; refine (HCE.out _ _ hQ).mono ?_; rintro e w2 ⟨v2, rfl, hQ2⟩))
            go_roundw
            case rel =>
              refine ⟨_, n, _, rfl, ?_, hQ2, ?_, ?_⟩
              · have := H3.out; omega
              · exact HE2
              · have := H3.out; have := Hl.out; have := Hps.out
                simp only [List.length_append, Lib.strCells_length]
                omega
            case measure => have := H3.out; simp only [strLen]; omega
          · have hd1z : ¬ (d : Int) = 1 := by omega
            have ed1 : ((d : Int) == 1) = false := by simpa using hd1z
            clear He2 hb hbd hr hd h3 hsc hps He hl hT cE hne hd1
            go_wp2_with (first | (go_at_call 66; refine cD.mono ?_; rintro e w1 ⟨rfl, hb1⟩; have hQ := Hq.out.below hb1) | (go_at_call 70; refine (HCE.out _ _ hQ).mono ?_; rintro e w2 ⟨v2, rfl, hQ2⟩))
            go_roundw
            case rel =>
              refine ⟨_, n, _, rfl, ?_, hQ2, ?_, ?_⟩
              · have := H3.out; omega
              · exact HE2
              · have := H3.out; have := Hl.out; have := Hps.out
                simp only [List.length_append, Lib.strCells_length]
                omega
            case measure => have := H3.out; simp only [strLen]; omega
      · have h0z : ¬ (0 : Int) < (t.size : Int) := by omega
        have hxs : xs = .int .u8 34 :: Lib.strCells (qB A s.size s) := by
          have := He.out
          rw [qB_none A n t h0] at this
          simpa [Lib.strCells] using this
        have hQ := Hq.out
        have hfin : Lib.strCells (qS A s) = xs ++ [.int .u8 34] := by
          rw [qS, strCells_app, strCells_app, strCells_one, hxs]
          rfl
        have hxl : xs.length + 1 ≤ 140737488355328 := by omega
        have HF := Lib.hid hfin
        clear hxs hfin He Hq hl hn
        go_wp2_with (at_builtin; refine wpList_qb1 (W0 := W0) (o := o) (f := f) (F := F) rfl _ _ 29 rfl i0 Tryd.underlying29 hi hz0 hz1 hz2 hQ rfl rfl hxl ?_; intro _ _ hQ)
        go_ret
        exact ⟨_, rfl, by rw [HF.out]; exact hQ⟩

set_option maxHeartbeats 2000000 in
set_option maxRecDepth 100000 in
theorem aq_any (hQ : Qb W0 w o f F (.slice (some ⟨f, 12, none⟩) 0 68) []) (s : ByteArray) (hs : s.size ≤ 1099511627776) (HPT : ∀ w v xs, Qb W0 w o f F v xs → Lib.PrintTabsAt 0 1 2 3 Lib.goPrintTabs w) (HUT : ∀ w v xs, Qb W0 w o f F v xs → Lib.Utf8Tabs 4 5 w) :
    Calls Tryd.prog 54 #[.slice (some ⟨f, 12, none⟩) 0 68, .string s] w fun e w' => ∃ v', e = .returned v' ∧ Qb W0 w' o f F v' (Lib.strCells (qS false s)) := by
  have cA := aqw_any hQ s hs false HPT HUT
  clear hQ hs HPT HUT
  go_enter Tryd.func54, Tryd.ntmps54
  go_wp2_with (go_at_call 67; refine cA.mono ?_; rintro e w3 ⟨v3, rfl, hQ⟩)
  go_ret
  exact ⟨_, rfl, hQ⟩

set_option maxHeartbeats 2000000 in
set_option maxRecDepth 100000 in
theorem aqa_any (hQ : Qb W0 w o f F (.slice (some ⟨f, 12, none⟩) 0 68) []) (s : ByteArray) (hs : s.size ≤ 1099511627776) (HPT : ∀ w v xs, Qb W0 w o f F v xs → Lib.PrintTabsAt 0 1 2 3 Lib.goPrintTabs w) (HUT : ∀ w v xs, Qb W0 w o f F v xs → Lib.Utf8Tabs 4 5 w) :
    Calls Tryd.prog 53 #[.slice (some ⟨f, 12, none⟩) 0 68, .string s] w fun e w' => ∃ v', e = .returned v' ∧ Qb W0 w' o f F v' (Lib.strCells (qS true s)) := by
  have cA := aqw_any hQ s hs true HPT HUT
  clear hQ hs HPT HUT
  go_enter Tryd.func53, Tryd.ntmps53
  go_wp2_with (go_at_call 67; refine cA.mono ?_; rintro e w3 ⟨v3, rfl, hQ⟩)
  go_ret
  exact ⟨_, rfl, hQ⟩
end

end Go.Proofs.YtdadbfehackfjaaDoor
