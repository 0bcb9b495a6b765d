/- The walks under FnPad: the count of runes of bytes, pad, and what the thin package makes of them. Conditions: the text takes no more than 2^38 bytes; widths lie between 0 and 4095. -/
import Derived.Test.YtdadbfehackfjaaDoorBool
import Derived.Lib.RuneCountTail
import Derived.Lib.ConvBytes
import Derived.Deep.Onto
set_option linter.unusedVariables false
set_option linter.unusedSimpArgs false
namespace Go.Proofs.YtdadbfehackfjaaDoor
open Go.RowKit Go.Deep

set_option maxHeartbeats 2000000 in
set_option maxRecDepth 1000000 in
/-- unicode/utf8.RuneCount. -/
theorem rc_any (s : ByteArray) (A : Option Addr) (cap : Nat) (w : World) (hr : Rd w A s) (hcap : s.size ≤ cap) (hs : s.size ≤ 140737488355328) :
    Calls Tryd.prog 61 #[.slice A s.size cap] w fun e w' => e = .returned (.int .i64 (Lib.runeCount s)) ∧ Below w.heap.size w w' := by
  rcases Nat.eq_zero_or_pos s.size with h0 | h0
  · rw [count_none s (by omega), h0]
    clear hr
    go_enter Tryd.func61, Tryd.ntmps61
    go_wp2
    refine wp_loop_rounds 1 ?_
    rw [rounds_succ]
    go_wp2
    go_ret
    exact ⟨rfl, Below.refl _ _⟩
  · obtain ⟨b, off, rfl, hp⟩ := hr.resolve_left (by omega)
    go_enter Tryd.func61, Tryd.ntmps61
    go_wp2
    go_loop [4] (fun n => ∃ k : Nat, k ≤ s.size ∧ n = .int .i64 k ∧ Hid (∀ j, j < k → (s.get! j).toNat < 128)) (fun n => s.size - (intOf n).toNat)
    case atStart => exact ⟨0, Nat.zero_le _, rfl, fun j hj => absurd hj (Nat.not_lt_zero _)⟩
    case round =>
      obtain ⟨k, hk, rfl, hasc⟩ := hrel
      by_cases hlt : k < s.size
      · have hcell := hp k hlt
        obtain ⟨y, hy⟩ : ∃ y, s.get! k = y := ⟨_, rfl⟩
        rw [hy] at hcell
        have hltz : (k : Int) < (s.size : Int) := by omega
        have Hy := Lib.hid hy
        clear hy
        by_cases ha : y.toNat < 128
        · have haz : ¬ ((y.toNat : Int) ≥ 128) := by omega
          have Ha := Lib.hid ha
          clear hp ha
          go_wp2
          go_round
          case rel =>
            refine ⟨k + 1, by omega, by go_num, fun j hj => ?_⟩
            by_cases hjk : j < k
            · exact hasc.out j hjk
            · have : j = k := by omega
              subst this
              rw [Hy.out]; exact Ha.out
          case measure => simp [intOf]; omega
        · have haz : (y.toNat : Int) ≥ 128 := by omega
          have hcv : ∀ c, (convert 29 9 (.slice (some ⟨b, off + k, none⟩) (s.size - k) c)).run Tryd.prog w = .ok (.string (s.extract k s.size)) w := fun c => by
            have := run_convert_bytes_arg (P := Tryd.prog) w 29 5 Tryd.underlying29 Tryd.underlying5 b (off + k) (s.size - k) c ((s.extract k s.size).data.toList.map fun x => (x.toNat : Int))
              (by rw [List.length_map, ← Lib.size_eq, Lib.tail_size])
              (fun i hi => by
                rw [Nat.add_assoc, hp (k + i) (by omega), ← Lib.tail_get!, ← Lib.getD_get!']
                generalize (s.extract k s.size).data.toList = l
                simp only [List.getD, List.getElem?_map]
                cases l[i]? <;> rfl)
              9 Tryd.underlying9
            rwa [strOfNums_self] at this
          have cR := rcs_any (s.extract k s.size) w (by rw [Lib.tail_size]; omega)
          have hsp := Lib.hid (Lib.runeCount_split s k hk hasc.out)
          have hle := Lib.runeCount_le (s.extract k s.size)
          rw [Lib.tail_size] at hle
          generalize Lib.runeCount (s.extract k s.size) = c at *
          clear hp
          go_wp2_with (first
            | (simp only [hcv])
            | (go_at_call 57; refine cR.mono ?_; rintro e w' ⟨rfl, hb⟩))
          go_ret
          exact ⟨ret_int (by rw [hsp.out]; first | rfl | omega), hb⟩
      · have hkk : k = s.size := by omega
        subst hkk
        have hge : ¬ ((s.size : Int) < (s.size : Int)) := by omega
        have he : Hid (Lib.runeCount s = s.size) := by
          show _ = _
          rw [Lib.runeCount_split s s.size (Nat.le_refl _) hasc.out, count_none _ (by rw [Lib.tail_size]; omega)]
          rfl
        clear hp
        go_wp2
        go_ret
        exact ⟨ret_int (by rw [he.out]), Below.refl _ _⟩

/-- Where the bytes that are to be written lie: in memory that no writer turns, or in the formatter's own intbuf. -/
def Src (W0 : World) (o f : Nat) (I : List Value) (A : Option Addr) (t : ByteArray) : Prop :=
  t.size = 0 ∨ (∃ b off, A = some ⟨b, off, none⟩ ∧ b < W0.heap.size ∧ b ≠ o ∧ b ≠ f ∧ ∀ j, j < t.size → W0.cell? ⟨b, off + j, none⟩ = some (.int .u8 ((t.get! j).toNat : Int))) ∨
  ∃ off, A = some ⟨f, 12 + off, none⟩ ∧ ∀ j, j < t.size → I[off + j]? = some (.int .u8 ((t.get! j).toNat : Int))
theorem Src.rd {W0 w : World} {o f : Nat} {F : Fl} {I : List Value} {s t : ByteArray} {A : Option Addr} (hS : St W0 w o f F I s) (h : Src W0 o f I A t) : Rd w A t := by
  rcases h with h | ⟨b, off, rfl, hb, ho, hf, hc⟩ | ⟨off, rfl, hc⟩
  · exact .inl h
  · exact .inr ⟨b, off, rfl, fun j hj => (World.cell?_of_block (a := ⟨b, off + j, none⟩) (hS.bel.block b hb ho hf)).trans (hc j hj)⟩
  · refine .inr ⟨f, 12 + off, rfl, fun j hj => ?_⟩
    rw [hS.fcell]
    have e : 12 + off + j = (off + j) + 12 := by omega
    rw [e, ← hc j hj]
    unfold fmCells
    rw [List.getElem?_toArray]
    rfl

theorem src_of {w w1 : World} {o f : Nat} {I : List Value} {A : Option Addr} {t : ByteArray} (h : Rd w A t) (hb : Below w.heap.size w w1) (ho : w.heap.size ≤ o) (hf : w.heap.size ≤ f) : Src w1 o f I A t := by
  rcases h with h | ⟨b, off, rfl, hc⟩
  · exact .inl h
  · rcases Nat.eq_zero_or_pos t.size with h0 | h0
    · exact .inl h0
    · have hlt : b < w.heap.size := World.block_lt_of_cell? w _ (hc 0 h0)
      exact .inr (.inl ⟨b, off, rfl, Nat.lt_of_lt_of_le hlt hb.size, by omega, by omega, fun j hj => (hb.cell (p := ⟨b, off + j, none⟩) hlt).trans (hc j hj)⟩)
theorem own_rd {w : World} {B : Nat} {v : Value} {t : ByteArray} (h : w.ownsRow B 5 1 v (0 + t.size) ([] ++ Lib.strCells t)) : ∃ A c, v = .slice A t.size c ∧ Rd w A t ∧ t.size ≤ c := by
  rw [Nat.zero_add, List.nil_append] at h
  rcases h.2 with ⟨rfl, h0⟩ | ⟨g, cap, cur, rfl, _, _, hnc, _⟩
  · exact ⟨none, 0, by rw [h0], .inl h0, by omega⟩
  · exact ⟨some ⟨g, 0, none⟩, cap, rfl, .inr ⟨g, 0, rfl, fun j hj => by rw [Nat.zero_add, h.cellAt j (by omega), strCells_get t j hj]⟩, hnc⟩

theorem wb_src {W0 w : World} {o f : Nat} {F : Fl} {I : List Value} {s : ByteArray} (h : St W0 w o f F I s) (t : ByteArray) (A : Option Addr) (c : Nat) (hr : Src W0 o f I A t) (hs : s.size + t.size ≤ 1099511627776) :
    Calls Tryd.prog 60 #[.pointer (some ⟨o, 0, none⟩), .slice A t.size c] w fun e w' => e = .returned (.tuple #[]) ∧ St W0 w' o f F I (s ++ t) :=
  wb_any h t A c (hr.rd h) hs

set_option maxHeartbeats 2000000 in
set_option maxRecDepth 100000 in
/-- (*fmt).pad. -/
theorem pad_any {W0 w : World} {o f : Nat} {F : Fl} {I : List Value} {s : ByteArray} (h : St W0 w o f F I s) (hF : F.Ok) (t : ByteArray) (A : Option Addr) (c : Nat) (hsrc : Src W0 o f I A t) (hc : t.size ≤ c) (hs : s.size ≤ 4096) (ht : t.size ≤ 274877906944) :
    Calls Tryd.prog 46 #[.pointer (some ⟨f, 0, none⟩), .slice A t.size c] w fun e w' => e = .returned (.tuple #[]) ∧ St W0 w' o f F I (s ++ padOf F t) := by
  have c0 : w.cell? ⟨f, 0, none⟩ = some (.pointer (some ⟨o, 0, none⟩)) := h.fcell 0
  have c1 : w.cell? ⟨f, 1, none⟩ = some (.bool F.hw) := h.fcell 1
  have c3 : w.cell? ⟨f, 3, none⟩ = some (.bool F.mi) := h.fcell 3
  have c10 : w.cell? ⟨f, 10, none⟩ = some (.int .i64 F.wid) := h.fcell 10
  have w0 := hF.wlo
  have w1 := hF.whi
  have hrl := Lib.runeCount_le t
  have H := Lib.hid h
  have HC := Lib.hid hsrc
  have hw0 := wb_any h t A c (hsrc.rd h) (by omega)
  have HW0 := Lib.hid hw0
  clear h hw0 hsrc
  rcases hz : F.hw with _ | _
  · rw [padOf_none F t hz]
    rw [hz] at c1
    clear hz
    go_enter Tryd.func46, Tryd.ntmps46
    go_wp2_with (go_at_call 60; refine HW0.out.mono ?_; rintro e w2 ⟨rfl, hS⟩)
    exact bodyPost_ret (results_none rfl _ _ _) rfl ⟨rfl, hS⟩
  · by_cases hwz : F.wid = 0
    · rw [padOf_zero F t hwz]
      rw [hz] at c1
      rw [hwz] at c10
      clear hz hwz
      go_enter Tryd.func46, Tryd.ntmps46
      go_wp2_with (go_at_call 60; refine HW0.out.mono ?_; rintro e w2 ⟨rfl, hS⟩)
      exact bodyPost_ret (results_none rfl _ _ _) rfl ⟨rfl, hS⟩
    · have hwb : (F.wid == 0) = false := by simp; omega
      have cRC : ∀ W, St W0 W o f F I s → Calls Tryd.prog 61 #[.slice A t.size c] W fun e w' => e = .returned (.int .i64 (Lib.runeCount t)) ∧ Below W.heap.size W w' := fun W hS => rc_any t A c W (HC.out.rd hS) hc (by omega)
      rcases hm : F.mi with _ | _
      · rw [padOf_left F t hz hm, ← app_assoc]
        rw [hz] at c1
        rw [hm] at c3
        have Hm := Lib.hid hm
        clear hz hm hwz
        obtain ⟨r, hr⟩ : ∃ r, Lib.runeCount t = r := ⟨_, rfl⟩
        rw [hr] at cRC hrl ⊢
        clear hr
        go_enter Tryd.func46, Tryd.ntmps46
        go_wp2
        go_region_with ((go_at_call 61; refine (cRC _ (by first | exact H.out | exact H.out.drew | exact H.out.drewN _)).mono ?_; rintro e w2 ⟨rfl, hb2⟩; have hS2 : St W0 w2 o f F I s := St.below (by first | exact H.out | exact H.out.drew | exact H.out.drewN _) hb2; have d10 : w2.cell? ⟨f, 10, none⟩ = some (.int .i64 F.wid) := hS2.fcell 10; have d3 : w2.cell? ⟨f, 3, none⟩ = some (.bool false) := by rw [hS2.fcell 3, ← Hm.out]; rfl))
        all_goals (
          go_wp2_with (first | (go_at_call 58; refine (padding_any (W0 := W0) (o := o) (F := F) (I := I) (s := s) (by first | exact hS2 | exact hS2.drew | exact hS2.drewN _) _ (by omega) (by omega)).mono ?_; rintro e w3 ⟨rfl, hS3⟩; have e0 : w3.cell? ⟨f, 0, none⟩ = some (.pointer (some ⟨o, 0, none⟩)) := hS3.fcell 0) | (go_at_call 60; refine (wb_any hS3 t A c (HC.out.rd hS3) (by rw [size_app, fill_size]; omega)).mono ?_; rintro e w4 ⟨rfl, hS4⟩))
          go_end0
          exact ⟨rfl, hS4⟩)
      · rw [padOf_right F t hz hm, ← app_assoc]
        rw [hz] at c1
        rw [hm] at c3
        have Hm := Lib.hid hm
        clear hz hm hwz
        obtain ⟨r, hr⟩ : ∃ r, Lib.runeCount t = r := ⟨_, rfl⟩
        rw [hr] at cRC hrl ⊢
        clear hr
        go_enter Tryd.func46, Tryd.ntmps46
        go_wp2
        go_region_with ((go_at_call 61; refine (cRC _ (by first | exact H.out | exact H.out.drew | exact H.out.drewN _)).mono ?_; rintro e w2 ⟨rfl, hb2⟩; have hS2 : St W0 w2 o f F I s := St.below (by first | exact H.out | exact H.out.drew | exact H.out.drewN _) hb2; have d10 : w2.cell? ⟨f, 10, none⟩ = some (.int .i64 F.wid) := hS2.fcell 10; have d0 : w2.cell? ⟨f, 0, none⟩ = some (.pointer (some ⟨o, 0, none⟩)) := hS2.fcell 0; have d3 : w2.cell? ⟨f, 3, none⟩ = some (.bool true) := by rw [hS2.fcell 3, ← Hm.out]; rfl))
        all_goals (
          go_wp2_with (first | (go_at_call 58; refine (padding_any hS3 _ (by omega) (by rw [size_app]; omega)).mono ?_; rintro e w4 ⟨rfl, hS4⟩) | (go_at_call 60; refine (wb_src (W0 := W0) (o := o) (f := f) (F := F) (I := I) (s := s) (by first | exact hS2 | exact hS2.drew | exact hS2.drewN _) t A c HC.out (by omega)).mono ?_; rintro e w3 ⟨rfl, hS3⟩; have e0 : w3.cell? ⟨f, 0, none⟩ = some (.pointer (some ⟨o, 0, none⟩)) := hS3.fcell 0))
          go_end0
          exact ⟨rfl, hS4⟩)

theorem St.own {W0 w : World} {o f : Nat} {F : Fl} {I : List Value} {s : ByteArray} (h : St W0 w o f F I s) {B : Nat} (hB : B ≤ W0.heap.size) :
    ∃ v, w.cell? ⟨o, 0, none⟩ = some v ∧ w.ownsRow B 5 1 v s.size (Lib.strCells s) := by
  obtain ⟨v, hv, ho⟩ := h.ob
  exact ⟨v, cell_of_row w o 0 _ _ (0, 0) hv, ho.mono hB⟩

/-- '[]byte(s)', s a variable. -/
theorem conv_bytes (w : World) (s : ByteArray) :
    ∃ c w', (convert 9 29 (.string s)).run Tryd.prog w = .ok (.slice (some ⟨w.heap.size, 0, none⟩) s.size c) w' ∧ s.size ≤ c ∧ Below w.heap.size w w' ∧ Rd w' (some ⟨w.heap.size, 0, none⟩) s := by
  refine ⟨_, _, Lib.run_convert_string_bytes (P := Tryd.prog) w 9 29 5 s Tryd.underlying9 Tryd.underlying29 Tryd.underlying5, grownCap_ge _ _ _ _, ⟨rfl, rfl, rfl, by rw [Lib.bytesWorld_size]; omega, fun k hk => Lib.bytesWorld_at_old w 5 s k hk⟩, .inr ⟨w.heap.size, 0, rfl, fun j hj => ?_⟩⟩
  rw [Nat.zero_add, Lib.bytesWorld_cell w 5 s j hj, Lib.getD_get!']

end Go.Proofs.YtdadbfehackfjaaDoor
