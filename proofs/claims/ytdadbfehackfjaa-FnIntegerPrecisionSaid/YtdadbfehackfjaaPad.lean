/- The walks under FnPad: the count of runes of bytes, pad, and what the thin package makes of them. Conditions: the text takes no more than 2^38 bytes; widths lie between 0 and 4095. -/
import Derived.Test.YtdadbfehackfjaaBool
import Derived.Lib.RuneCountTail
import Derived.Lib.ConvBytes
import Derived.Deep.Onto
set_option linter.unusedVariables false
set_option linter.unusedSimpArgs false
namespace Go.Proofs.Ytdadbfehackfjaa
open Go.RowKit Go.Deep

set_option maxHeartbeats 2000000 in
set_option maxRecDepth 1000000 in
/-- unicode/utf8.RuneCount. -/
theorem rc_any (s : ByteArray) (A : Option Addr) (cap : Nat) (w : World) (hr : Rd w A s) (hcap : s.size ≤ cap) (hs : s.size ≤ 140737488355328) :
    Calls Try.prog 60 #[.slice A s.size cap] w fun e w' => e = .returned (.int .i64 (Lib.runeCount s)) ∧ Below w.heap.size w w' := by
  rcases Nat.eq_zero_or_pos s.size with h0 | h0
  · rw [count_none s (by omega), h0]
    clear hr
    go_enter Try.func60, Try.ntmps60
    go_wp2
    refine wp_loop_rounds 1 ?_
    rw [rounds_succ]
    go_wp2
    go_ret
    exact ⟨rfl, Below.refl _ _⟩
  · obtain ⟨b, off, rfl, hp⟩ := hr.resolve_left (by omega)
    go_enter Try.func60, Try.ntmps60
    go_wp2
    go_loop [4] (fun n => ∃ k : Nat, k ≤ s.size ∧ n = .int .i64 k ∧ Hid (∀ j, j < k → (s.get! j).toNat < 128)) (fun n => s.size - (intOf n).toNat)
    case atStart => exact ⟨0, Nat.zero_le _, rfl, fun j hj => absurd hj (Nat.not_lt_zero _)⟩
    case round =>
      obtain ⟨k, hk, rfl, hasc⟩ := hrel
      by_cases hlt : k < s.size
      · have hcell := hp k hlt
        obtain ⟨y, hy⟩ : ∃ y, s.get! k = y := ⟨_, rfl⟩
        rw [hy] at hcell
        have hltz : (k : Int) < (s.size : Int) := by omega
        have Hy := Lib.hid hy
        clear hy
        by_cases ha : y.toNat < 128
        · have haz : ¬ ((y.toNat : Int) ≥ 128) := by omega
          have Ha := Lib.hid ha
          clear hp ha
          go_wp2
          go_round
          case rel =>
            refine ⟨k + 1, by omega, by go_num, fun j hj => ?_⟩
            by_cases hjk : j < k
            · exact hasc.out j hjk
            · have : j = k := by omega
              subst this
              rw [Hy.out]; exact Ha.out
          case measure => simp [intOf]; omega
        · have haz : (y.toNat : Int) ≥ 128 := by omega
          have hcv : ∀ c, (convert 32 9 (.slice (some ⟨b, off + k, none⟩) (s.size - k) c)).run Try.prog w = .ok (.string (s.extract k s.size)) w := fun c => by
            have := run_convert_bytes_arg (P := Try.prog) w 32 5 Try.underlying32 Try.underlying5 b (off + k) (s.size - k) c ((s.extract k s.size).data.toList.map fun x => (x.toNat : Int))
              (by rw [List.length_map, ← Lib.size_eq, Lib.tail_size])
              (fun i hi => by
                rw [Nat.add_assoc, hp (k + i) (by omega), ← Lib.tail_get!, ← Lib.getD_get!']
                generalize (s.extract k s.size).data.toList = l
                simp only [List.getD, List.getElem?_map]
                cases l[i]? <;> rfl)
              9 Try.underlying9
            rwa [strOfNums_self] at this
          have cR := rcs_any (s.extract k s.size) w (by rw [Lib.tail_size]; omega)
          have hsp := Lib.hid (Lib.runeCount_split s k hk hasc.out)
          have hle := Lib.runeCount_le (s.extract k s.size)
          rw [Lib.tail_size] at hle
          generalize Lib.runeCount (s.extract k s.size) = c at *
          clear hp
          go_wp2_with (first
            | (simp only [hcv])
            | (go_at_call 57; refine cR.mono ?_; rintro e w' ⟨rfl, hb⟩))
          go_ret
          exact ⟨ret_int (by rw [hsp.out]; first | rfl | omega), hb⟩
      · have hkk : k = s.size := by omega
        subst hkk
        have hge : ¬ ((s.size : Int) < (s.size : Int)) := by omega
        have he : Hid (Lib.runeCount s = s.size) := by
          show _ = _
          rw [Lib.runeCount_split s s.size (Nat.le_refl _) hasc.out, count_none _ (by rw [Lib.tail_size]; omega)]
          rfl
        clear hp
        go_wp2
        go_ret
        exact ⟨ret_int (by rw [he.out]), Below.refl _ _⟩

/-- Where the bytes that are to be written lie: in memory that no writer turns, or in the formatter's own intbuf. -/
def Src (W0 : World) (o f : Nat) (I : List Value) (A : Option Addr) (t : ByteArray) : Prop :=
  t.size = 0 ∨ (∃ b off, A = some ⟨b, off, none⟩ ∧ b < W0.heap.size ∧ b ≠ o ∧ b ≠ f ∧ ∀ j, j < t.size → W0.cell? ⟨b, off + j, none⟩ = some (.int .u8 ((t.get! j).toNat : Int))) ∨
  ∃ off, A = some ⟨f, 12 + off, none⟩ ∧ ∀ j, j < t.size → I[off + j]? = some (.int .u8 ((t.get! j).toNat : Int))
theorem Src.rd {W0 w : World} {o f : Nat} {F : Fl} {I : List Value} {s t : ByteArray} {A : Option Addr} (hS : St W0 w o f F I s) (h : Src W0 o f I A t) : Rd w A t := by
  rcases h with h | ⟨b, off, rfl, hb, ho, hf, hc⟩ | ⟨off, rfl, hc⟩
  · exact .inl h
  · exact .inr ⟨b, off, rfl, fun j hj => (World.cell?_of_block (a := ⟨b, off + j, none⟩) (hS.bel.block b hb ho hf)).trans (hc j hj)⟩
  · refine .inr ⟨f, 12 + off, rfl, fun j hj => ?_⟩
    rw [hS.fcell]
    have e : 12 + off + j = (off + j) + 12 := by omega
    rw [e, ← hc j hj]
    unfold fmCells
    rw [List.getElem?_toArray]
    rfl

theorem src_of {w w1 : World} {o f : Nat} {I : List Value} {A : Option Addr} {t : ByteArray} (h : Rd w A t) (hb : Below w.heap.size w w1) (ho : w.heap.size ≤ o) (hf : w.heap.size ≤ f) : Src w1 o f I A t := by
  rcases h with h | ⟨b, off, rfl, hc⟩
  · exact .inl h
  · rcases Nat.eq_zero_or_pos t.size with h0 | h0
    · exact .inl h0
    · have hlt : b < w.heap.size := World.block_lt_of_cell? w _ (hc 0 h0)
      exact .inr (.inl ⟨b, off, rfl, Nat.lt_of_lt_of_le hlt hb.size, by omega, by omega, fun j hj => (hb.cell (p := ⟨b, off + j, none⟩) hlt).trans (hc j hj)⟩)
theorem own_rd {w : World} {B : Nat} {v : Value} {t : ByteArray} (h : w.ownsRow B 5 1 v (0 + t.size) ([] ++ Lib.strCells t)) : ∃ A c, v = .slice A t.size c ∧ Rd w A t ∧ t.size ≤ c := by
  rw [Nat.zero_add, List.nil_append] at h
  rcases h.2 with ⟨rfl, h0⟩ | ⟨g, cap, cur, rfl, _, _, hnc, _⟩
  · exact ⟨none, 0, by rw [h0], .inl h0, by omega⟩
  · exact ⟨some ⟨g, 0, none⟩, cap, rfl, .inr ⟨g, 0, rfl, fun j hj => by rw [Nat.zero_add, h.cellAt j (by omega), strCells_get t j hj]⟩, hnc⟩

theorem wb_src {W0 w : World} {o f : Nat} {F : Fl} {I : List Value} {s : ByteArray} (h : St W0 w o f F I s) (t : ByteArray) (A : Option Addr) (c : Nat) (hr : Src W0 o f I A t) (hs : s.size + t.size ≤ 1099511627776) :
    Calls Try.prog 59 #[.pointer (some ⟨o, 0, none⟩), .slice A t.size c] w fun e w' => e = .returned (.tuple #[]) ∧ St W0 w' o f F I (s ++ t) :=
  wb_any h t A c (hr.rd h) hs

set_option maxHeartbeats 2000000 in
set_option maxRecDepth 100000 in
/-- (*fmt).pad. -/
theorem pad_any {W0 w : World} {o f : Nat} {F : Fl} {I : List Value} {s : ByteArray} (h : St W0 w o f F I s) (hF : F.Ok) (t : ByteArray) (A : Option Addr) (c : Nat) (hsrc : Src W0 o f I A t) (hc : t.size ≤ c) (hs : s.size ≤ 4096) (ht : t.size ≤ 274877906944) :
    Calls Try.prog 49 #[.pointer (some ⟨f, 0, none⟩), .slice A t.size c] w fun e w' => e = .returned (.tuple #[]) ∧ St W0 w' o f F I (s ++ padOf F t) := by
  have c0 : w.cell? ⟨f, 0, none⟩ = some (.pointer (some ⟨o, 0, none⟩)) := h.fcell 0
  have c1 : w.cell? ⟨f, 1, none⟩ = some (.bool F.hw) := h.fcell 1
  have c3 : w.cell? ⟨f, 3, none⟩ = some (.bool F.mi) := h.fcell 3
  have c10 : w.cell? ⟨f, 10, none⟩ = some (.int .i64 F.wid) := h.fcell 10
  have w0 := hF.wlo
  have w1 := hF.whi
  have hrl := Lib.runeCount_le t
  have H := Lib.hid h
  have HC := Lib.hid hsrc
  have hw0 := wb_any h t A c (hsrc.rd h) (by omega)
  have HW0 := Lib.hid hw0
  clear h hw0 hsrc
  rcases hz : F.hw with _ | _
  · rw [padOf_none F t hz]
    rw [hz] at c1
    clear hz
    go_enter Try.func49, Try.ntmps49
    go_wp2_with (go_at_call 59; refine HW0.out.mono ?_; rintro e w2 ⟨rfl, hS⟩)
    exact bodyPost_ret (results_none rfl _ _ _) rfl ⟨rfl, hS⟩
  · by_cases hwz : F.wid = 0
    · rw [padOf_zero F t hwz]
      rw [hz] at c1
      rw [hwz] at c10
      clear hz hwz
      go_enter Try.func49, Try.ntmps49
      go_wp2_with (go_at_call 59; refine HW0.out.mono ?_; rintro e w2 ⟨rfl, hS⟩)
      exact bodyPost_ret (results_none rfl _ _ _) rfl ⟨rfl, hS⟩
    · have hwb : (F.wid == 0) = false := by simp; omega
      have cRC : ∀ W, St W0 W o f F I s → Calls Try.prog 60 #[.slice A t.size c] W fun e w' => e = .returned (.int .i64 (Lib.runeCount t)) ∧ Below W.heap.size W w' := fun W hS => rc_any t A c W (HC.out.rd hS) hc (by omega)
      rcases hm : F.mi with _ | _
      · rw [padOf_left F t hz hm, ← app_assoc]
        rw [hz] at c1
        rw [hm] at c3
        have Hm := Lib.hid hm
        clear hz hm hwz
        obtain ⟨r, hr⟩ : ∃ r, Lib.runeCount t = r := ⟨_, rfl⟩
        rw [hr] at cRC hrl ⊢
        clear hr
        go_enter Try.func49, Try.ntmps49
        go_wp2
        go_region_with ((go_at_call 60; refine (cRC _ (by first | exact H.out | exact H.out.drew | exact H.out.drewN _)).mono ?_; rintro e w2 ⟨rfl, hb2⟩; have hS2 : St W0 w2 o f F I s := St.below (by first | exact H.out | exact H.out.drew | exact H.out.drewN _) hb2; have d10 : w2.cell? ⟨f, 10, none⟩ = some (.int .i64 F.wid) := hS2.fcell 10; have d3 : w2.cell? ⟨f, 3, none⟩ = some (.bool false) := by rw [hS2.fcell 3, ← Hm.out]; rfl))
        all_goals (
          go_wp2_with (first | (go_at_call 58; refine (padding_any (W0 := W0) (o := o) (F := F) (I := I) (s := s) (by first | exact hS2 | exact hS2.drew | exact hS2.drewN _) _ (by omega) (by omega)).mono ?_; rintro e w3 ⟨rfl, hS3⟩; have e0 : w3.cell? ⟨f, 0, none⟩ = some (.pointer (some ⟨o, 0, none⟩)) := hS3.fcell 0) | (go_at_call 59; refine (wb_any hS3 t A c (HC.out.rd hS3) (by rw [size_app, fill_size]; omega)).mono ?_; rintro e w4 ⟨rfl, hS4⟩))
          go_end0
          exact ⟨rfl, hS4⟩)
      · rw [padOf_right F t hz hm, ← app_assoc]
        rw [hz] at c1
        rw [hm] at c3
        have Hm := Lib.hid hm
        clear hz hm hwz
        obtain ⟨r, hr⟩ : ∃ r, Lib.runeCount t = r := ⟨_, rfl⟩
        rw [hr] at cRC hrl ⊢
        clear hr
        go_enter Try.func49, Try.ntmps49
        go_wp2
        go_region_with ((go_at_call 60; refine (cRC _ (by first | exact H.out | exact H.out.drew | exact H.out.drewN _)).mono ?_; rintro e w2 ⟨rfl, hb2⟩; have hS2 : St W0 w2 o f F I s := St.below (by first | exact H.out | exact H.out.drew | exact H.out.drewN _) hb2; have d10 : w2.cell? ⟨f, 10, none⟩ = some (.int .i64 F.wid) := hS2.fcell 10; have d0 : w2.cell? ⟨f, 0, none⟩ = some (.pointer (some ⟨o, 0, none⟩)) := hS2.fcell 0; have d3 : w2.cell? ⟨f, 3, none⟩ = some (.bool true) := by rw [hS2.fcell 3, ← Hm.out]; rfl))
        all_goals (
          go_wp2_with (first | (go_at_call 58; refine (padding_any hS3 _ (by omega) (by rw [size_app]; omega)).mono ?_; rintro e w4 ⟨rfl, hS4⟩) | (go_at_call 59; refine (wb_src (W0 := W0) (o := o) (f := f) (F := F) (I := I) (s := s) (by first | exact hS2 | exact hS2.drew | exact hS2.drewN _) t A c HC.out (by omega)).mono ?_; rintro e w3 ⟨rfl, hS3⟩; have e0 : w3.cell? ⟨f, 0, none⟩ = some (.pointer (some ⟨o, 0, none⟩)) := hS3.fcell 0))
          go_end0
          exact ⟨rfl, hS4⟩)

set_option maxHeartbeats 2000000 in
set_option maxRecDepth 100000 in
theorem zzPadString_any (F : Fl) (hF : F.Ok) (t : ByteArray) (w : World) (ht : t.size ≤ 274877906944) :
    Calls Try.prog 36 #[(.agg #[.int .i64 F.wid, .int .i64 F.prec, .bool F.hw, .bool F.hp, .bool F.mi, .bool F.pl, .bool F.sh, .bool F.sp, .bool F.ze, .bool false, .bool false]), .string t] w fun e w' => e = .returned (.string (padOf F t)) ∧ Below w.heap.size w w' := by
  obtain ⟨n, hn⟩ : ∃ n, n = w.heap.size + 1 + 1 + 1 := ⟨_, rfl⟩
  have HN := Lib.hid hn
  clear hn
  have cM : ∀ (W0 W : World) o f I, St W0 W o f F I ⟨#[]⟩ → Calls Try.prog 48 #[.pointer (some ⟨f, 0, none⟩), .string t] W fun e w' => e = .returned (.tuple #[]) ∧ St W0 w' o f F I (padOf F t) := fun W0 W o f I h => by
    have := ps_any h hF t (by decide) ht
    rwa [nil_app] at this
  obtain ⟨R, hR⟩ : ∃ R, padOf F t = R := ⟨_, rfl⟩
  rw [hR] at cM ⊢
  clear hR
  go_enter Try.func36, Try.ntmps36
  go_wp2_with (first | (go_at_call 45; refine (zzFmt_any F _ _ n (by rw [HN.out]; simp) (by simp)).mono ?_; rintro e w1 ⟨rfl, hb1, hf1⟩; have hS1 := St.start hf1 ((hb1.block (w.heap.size + 1) (by simp)).trans (heap_second w _ _))) | (go_at_call 48; refine (cM _ _ _ _ _ hS1).mono ?_; rintro e w2 ⟨rfl, hS2⟩; obtain ⟨v2, hv2, hcv2⟩ := hS2.conv))
  go_ret
  have k1 : Below w.heap.size w w1 := Below.trans (by repeat (first | (with_reducible refine Below.drew ?_) | (with_reducible refine below_drewN ?_ _) | (with_reducible refine Below.alloc ?_ (by first | (simp; done) | (simp; omega)) _) | (with_reducible refine Below.setCell ?_ (by first | (simp; done) | (simp; omega)) _) | with_reducible exact Below.refl _ _)) (hb1.mono (by first | (simp; done) | (simp; omega)))
  exact ⟨rfl, hS2.done k1 (by omega) (by rw [HN.out]; omega)⟩

set_option maxHeartbeats 2000000 in
set_option maxRecDepth 100000 in
theorem padString_any (F : Fl) (hF : F.Ok) (t : ByteArray) (w : World) (ht : t.size ≤ 274877906944) :
    Calls Try.prog 16 #[(.agg #[.int .i64 F.wid, .int .i64 F.prec, .bool F.hw, .bool F.hp, .bool F.mi, .bool F.pl, .bool F.sh, .bool F.sp, .bool F.ze]), .string t] w fun e w' => e = .returned (.string (padOf F t)) ∧ Below w.heap.size w w' := by
  have cT := fun (W : World) => zzPadString_any F hF t W ht
  obtain ⟨R, hR⟩ : ∃ R, padOf F t = R := ⟨_, rfl⟩
  rw [hR] at cT ⊢
  clear hR
  go_enter Try.func16, Try.ntmps16
  go_wp2_with (first | (go_at_call 33; refine (flags_any F _).mono ?_; rintro e w1 ⟨rfl, hb1⟩) | (go_at_call 36; refine (cT _).mono ?_; rintro e w2 ⟨rfl, hb2⟩))
  go_ret
  refine ⟨rfl, ?_⟩
  refine Below.trans ?_ (hb2.mono (by have := hb1.size; simp at this; omega))
  exact Below.trans (by repeat (first | (with_reducible refine Below.drew ?_) | (with_reducible refine below_drewN ?_ _) | (with_reducible refine Below.alloc ?_ (by first | (simp; done) | (simp; omega)) _) | (with_reducible refine Below.setCell ?_ (by first | (simp; done) | (simp; omega)) _) | with_reducible exact Below.refl _ _)) (hb1.mono (by first | (simp; done) | (simp; omega)))

theorem St.own {W0 w : World} {o f : Nat} {F : Fl} {I : List Value} {s : ByteArray} (h : St W0 w o f F I s) {B : Nat} (hB : B ≤ W0.heap.size) :
    ∃ v, w.cell? ⟨o, 0, none⟩ = some v ∧ w.ownsRow B 5 1 v s.size (Lib.strCells s) := by
  obtain ⟨v, hv, ho⟩ := h.ob
  exact ⟨v, cell_of_row w o 0 _ _ (0, 0) hv, ho.mono hB⟩

set_option maxHeartbeats 2000000 in
set_option maxRecDepth 100000 in
theorem zzPad_any (F : Fl) (hF : F.Ok) (t : ByteArray) (A : Option Addr) (c : Nat) (w : World) (hr : Rd w A t) (hc : t.size ≤ c) (ht : t.size ≤ 274877906944) :
    Calls Try.prog 37 #[(.agg #[.int .i64 F.wid, .int .i64 F.prec, .bool F.hw, .bool F.hp, .bool F.mi, .bool F.pl, .bool F.sh, .bool F.sp, .bool F.ze, .bool false, .bool false]), .slice A t.size c] w fun e w' => ∃ v, e = .returned v ∧ w'.ownsRow w.heap.size 5 1 v (padOf F t).size (Lib.strCells (padOf F t)) ∧ Below w.heap.size w w' := by
  obtain ⟨n, hn⟩ : ∃ n, n = w.heap.size + 1 + 1 + 1 := ⟨_, rfl⟩
  have HN := Lib.hid hn
  clear hn
  have cM : ∀ (W0 W : World) o f I, St W0 W o f F I ⟨#[]⟩ → Src W0 o f I A t → Calls Try.prog 49 #[.pointer (some ⟨f, 0, none⟩), .slice A t.size c] W fun e w' => e = .returned (.tuple #[]) ∧ St W0 w' o f F I (padOf F t) := fun W0 W o f I h hs => by
    have := pad_any h hF t A c hs hc (by decide) ht
    rwa [nil_app] at this
  obtain ⟨R, hR⟩ : ∃ R, padOf F t = R := ⟨_, rfl⟩
  rw [hR] at cM ⊢
  have HR := Lib.hid hr
  clear hR hr
  go_enter Try.func37, Try.ntmps37
  go_wp2_with (first | (go_at_call 45; refine (zzFmt_any F _ _ n (by rw [HN.out]; simp) (by simp)).mono ?_; rintro e w1 ⟨rfl, hb1, hf1⟩; have hS1 := St.start hf1 ((hb1.block (w.heap.size + 1) (by simp)).trans (heap_second w _ _)); have k1 : Below w.heap.size w w1 := Below.trans (by repeat (first | (with_reducible refine Below.drew ?_) | (with_reducible refine below_drewN ?_ _) | (with_reducible refine Below.alloc ?_ (by first | (simp; done) | (simp; omega)) _) | (with_reducible refine Below.setCell ?_ (by first | (simp; done) | (simp; omega)) _) | with_reducible exact Below.refl _ _)) (hb1.mono (by first | (simp; done) | (simp; omega))); have hsrc : Src w1 (w.heap.size + 1) n noughts A t := src_of HR.out k1 (by omega) (by rw [HN.out]; omega)) | (go_at_call 49; refine (cM _ _ _ _ _ hS1 hsrc).mono ?_; rintro e w2 ⟨rfl, hS2⟩; obtain ⟨v2, hv2, hov2⟩ := hS2.own k1.size))
  go_ret
  exact ⟨_, rfl, hov2, hS2.done k1 (by omega) (by rw [HN.out]; omega)⟩

/-- '[]byte(s)', s a variable. -/
theorem conv_bytes (w : World) (s : ByteArray) :
    ∃ c w', (convert 9 32 (.string s)).run Try.prog w = .ok (.slice (some ⟨w.heap.size, 0, none⟩) s.size c) w' ∧ s.size ≤ c ∧ Below w.heap.size w w' ∧ Rd w' (some ⟨w.heap.size, 0, none⟩) s := by
  refine ⟨_, _, Lib.run_convert_string_bytes (P := Try.prog) w 9 32 5 s Try.underlying9 Try.underlying32 Try.underlying5, grownCap_ge _ _ _ _, ⟨rfl, rfl, rfl, by rw [Lib.bytesWorld_size]; omega, fun k hk => Lib.bytesWorld_at_old w 5 s k hk⟩, .inr ⟨w.heap.size, 0, rfl, fun j hj => ?_⟩⟩
  rw [Nat.zero_add, Lib.bytesWorld_cell w 5 s j hj, Lib.getD_get!']

set_option maxHeartbeats 2000000 in
set_option maxRecDepth 100000 in
/-- impl.Pad. -/
theorem padBytes_any (F : Fl) (hF : F.Ok) (t : ByteArray) (A : Option Addr) (c : Nat) (w : World) (hr : Rd w A t) (hc : t.size ≤ c) (ht : t.size ≤ 274877906944) :
    Calls Try.prog 17 #[(.agg #[.int .i64 F.wid, .int .i64 F.prec, .bool F.hw, .bool F.hp, .bool F.mi, .bool F.pl, .bool F.sh, .bool F.sp, .bool F.ze]), .slice A t.size c] w fun e w' => ∃ v, e = .returned v ∧ (convert 32 9 v).run Try.prog w' = .ok (.string (padOf F t)) w' ∧ Below w.heap.size w w' := by
  obtain ⟨i0, hi, hz0, hz1, hz2⟩ := info_parts Try.info5
  have cT := fun (W : World) (A : Option Addr) (c : Nat) (hr : Rd W A t) (hc : t.size ≤ c) => zzPad_any F hF t A c W hr hc ht
  obtain ⟨R, hR⟩ : ∃ R, padOf F t = R := ⟨_, rfl⟩
  rw [hR] at cT ⊢
  have HR := Lib.hid hr
  clear hR hr
  go_enter Try.func17, Try.ntmps17
  go_wp2_with (first | (go_at_call 33; refine (flags_any F _).mono ?_; rintro e w1 ⟨rfl, hb1⟩; have k1 : Below w.heap.size w w1 := Below.trans (by repeat (first | (with_reducible refine Below.drew ?_) | (with_reducible refine below_drewN ?_ _) | (with_reducible refine Below.alloc ?_ (by first | (simp; done) | (simp; omega)) _) | (with_reducible refine Below.setCell ?_ (by first | (simp; done) | (simp; omega)) _) | with_reducible exact Below.refl _ _)) (hb1.mono (by first | (simp; done) | (simp; omega))); have hR1 := Lib.hid (HR.out.below k1)) | (at_builtin; refine wpList_append_bytes _ rfl _ _ 32 32 rfl w1.heap.size 5 5 i0 Try.underlying32 Try.underlying32 hi hz0 hz1 hz2 (.slice none 0 0) 0 [] rfl (World.ownsRow_nil _ _ _ _) A t.size c t rfl rfl hR1.out (by omega) (Nat.le_refl _) ?_; intro v' w2 ho2 hg2; have k2 : Below w.heap.size w w2 := k1.trans (((Below.refl _ _).grown hg2 (Nat.le_refl _) (by simp [Value.ownBlock])).mono k1.size); obtain ⟨A', c', rfl, hr', hc'⟩ := own_rd ho2; have hR2 := Lib.hid hr') | (go_at_call 37; refine (cT _ _ _ hR2.out hc').mono ?_; rintro e w3 ⟨v3, rfl, ho3, hb3⟩))
  go_ret
  exact ⟨_, rfl, own_conv _ Try.underlying32 ho3, k2.trans (hb3.mono k2.size)⟩

end Go.Proofs.Ytdadbfehackfjaa
