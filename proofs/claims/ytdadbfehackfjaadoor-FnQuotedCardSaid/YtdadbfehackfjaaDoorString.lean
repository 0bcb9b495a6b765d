/- The walks under FnString: truncate, fmtS, fmtBs, and what the thin package makes of them; spec.String. Conditions: the text takes no more than 2^38 bytes; widths and precisions lie between 0 and 4095; the two tables of unicode/utf8 stand as their initialisers lay them. -/
import Derived.Test.YtdadbfehackfjaaDoorPad
import Derived.Test.YtdadbfehackfjaaDoorTruncate
import Derived.Test.YtdadbfehackfjaaDoorDecode
set_option linter.unusedVariables false
set_option linter.unusedSimpArgs false
namespace Go.Proofs.YtdadbfehackfjaaDoor
open Go.RowKit Go.Deep

/-- A text cut to the precision. -/
def cutS (F : Fl) (t : ByteArray) : ByteArray := if F.hp then t.extract 0 (fwd t F.prec.toNat 0) else t
theorem cutS_size (F : Fl) (t : ByteArray) : (cutS F t).size ≤ t.size := by
  unfold cutS
  split
  · rw [ByteArray.size_extract]; omega
  · exact Nat.le_refl _
theorem cutS_get (F : Fl) (t : ByteArray) (i : Nat) (h : i < (cutS F t).size) : (cutS F t).get! i = t.get! i := by
  unfold cutS at h ⊢
  split
  · rename_i hc
    rw [if_pos hc, ByteArray.size_extract] at h
    have h1 : i < (t.extract 0 (fwd t F.prec.toNat 0)).size := by rw [ByteArray.size_extract]; omega
    rw [get_of_lt _ _ h1, get_of_lt t i (by omega), ByteArray.getElem_extract]
    simp
  · rfl

/-- A slice of bytes that is nil, or lies in a block that is there. -/
def Lies (w : World) (A : Option Addr) (t : ByteArray) (c : Nat) : Prop :=
  (A = none ∧ t = ⟨#[]⟩ ∧ c = 0) ∨ ∃ bb off, A = some ⟨bb, off, none⟩ ∧ bb < w.heap.size ∧ t.size ≤ c ∧ ∀ j, j < t.size → w.cell? ⟨bb, off + j, none⟩ = some (.int .u8 ((t.get! j).toNat : Int))
theorem Lies.below {w w' : World} {A : Option Addr} {t : ByteArray} {c : Nat} (h : Lies w A t c) (hb : Below w.heap.size w w') : Lies w' A t c := by
  rcases h with h | ⟨bb, off, rfl, hlt, hs, hc⟩
  · exact .inl h
  · exact .inr ⟨bb, off, rfl, Nat.lt_of_lt_of_le hlt hb.size, hs, fun j hj => (hb.cell (p := ⟨bb, off + j, none⟩) hlt).trans (hc j hj)⟩
theorem own_lies {w : World} {B : Nat} {v : Value} {t : ByteArray} (h : w.ownsRow B 5 1 v (0 + t.size) ([] ++ Lib.strCells t)) : ∃ A c, v = .slice A t.size c ∧ Lies w A t c := by
  rw [Nat.zero_add, List.nil_append] at h
  rcases h.2 with ⟨rfl, h0⟩ | ⟨g, cap, cur, rfl, _, hg, hnc, _⟩
  · exact ⟨none, 0, by rw [h0], .inl ⟨rfl, empty_of_size t h0, rfl⟩⟩
  · exact ⟨some ⟨g, 0, none⟩, cap, rfl, .inr ⟨g, 0, rfl, heap_lt hg, hnc, fun j hj => by rw [Nat.zero_add, h.cellAt j (by omega), strCells_get t j hj]⟩⟩

/-- DecodeRune of what is left of a slice. -/
theorem decode_at (t : ByteArray) (bb off c pos : Nat) (hp : pos < t.size) (w : World) (hT : Lib.Utf8Tabs 4 5 w) (hc : ∀ j, j < t.size → w.cell? ⟨bb, off + j, none⟩ = some (.int .u8 ((t.get! j).toNat : Int))) :
    ∃ r : Nat, Calls Tryd.prog 59 #[.slice (some ⟨bb, off + pos, none⟩) (t.size - pos) c] w fun e w' => e = .returned (.tuple #[.int .i32 r, .int .i64 ((Utf8.decode t pos).2 : Nat)]) ∧ Below w.heap.size w w' := by
  have h := Tryd.utf8_DecodeRune (t.extract pos t.size) bb (off + pos) c w hT (fun j hj => by
    rw [Lib.tail_size] at hj
    rw [Nat.add_assoc, hc (pos + j) (by omega), ← Lib.tail_get!])
  have e : Lib.decodeGo (t.extract pos t.size) = Utf8.decode t pos := by
    unfold Lib.decodeGo
    rw [if_neg (by rw [Lib.tail_size]; omega)]
    have := Lib.tail_decode t pos 0
    rw [Nat.add_zero] at this
    exact this
  rw [Lib.tail_size, e] at h
  exact ⟨_, h⟩

set_option maxHeartbeats 2000000 in
set_option maxRecDepth 100000 in
/-- (*fmt).truncate. -/
theorem truncate_any {w : World} {o f : Nat} {F : Fl} {I : List Value} (hfm : w.heap[f]? = some (.cells (fmCells o F I) 67 (0, 0))) (hF : F.Ok) (t : ByteArray) (A : Option Addr) (c : Nat) (hl : Lies w A t c) (hT : Lib.Utf8Tabs 4 5 w) (ht : t.size ≤ 140737488355328) :
    Calls Tryd.prog 45 #[.pointer (some ⟨f, 0, none⟩), .slice A t.size c] w fun e w' => e = .returned (.slice A (cutS F t).size c) ∧ Below w.heap.size w w' := by
  have hc := fun i => cell_of_row w f i _ _ (0, 0) hfm
  have c2 : w.cell? ⟨f, 2, none⟩ = some (.bool F.hp) := hc 2
  have c11 : w.cell? ⟨f, 11, none⟩ = some (.int .i64 F.prec) := hc 11
  have p0 := hF.plo
  have p1 := hF.phi
  clear hc hfm hF
  rcases hz : F.hp with _ | _
  · rw [hz] at c2
    have e : (cutS F t).size = t.size := by unfold cutS; rw [hz]; rfl
    rw [e]
    clear hz e hl
    go_enter Tryd.func45, Tryd.ntmps45
    go_wp2
    exact bodyPost_ret (v := .slice A t.size c) (by simp [results, Tryd.results45, go_sem]) rfl ⟨rfl, Below.refl _ _⟩
  · rw [hz] at c2
    obtain ⟨n, hn⟩ : ∃ n : Nat, F.prec = n := ⟨F.prec.toNat, by omega⟩
    have e : cutS F t = t.extract 0 (fwd t n 0) := by unfold cutS; rw [hz, hn, Int.toNat_natCast]; rfl
    rw [e]
    rw [hn] at c11 p1
    clear hn p0 hz e
    rcases hl with ⟨rfl, rfl, rfl⟩ | ⟨bb, off, rfl, hbb, hcap, hcs⟩
    · have e0 : ((⟨#[]⟩ : ByteArray).extract 0 (fwd ⟨#[]⟩ n 0)).size = 0 := by rw [ByteArray.size_extract]; have : (⟨#[]⟩ : ByteArray).size = 0 := rfl; omega
      have e1 : (⟨#[]⟩ : ByteArray).size = 0 := rfl
      rw [e0, e1]
      clear e0 e1
      go_enter Tryd.func45, Tryd.ntmps45
      go_wp2
      refine wp_loop_rounds 1 ?_
      rw [rounds_succ]
      go_wp2
      exact bodyPost_ret (v := .slice none 0 0) (by simp [results, Tryd.results45, go_sem]) rfl ⟨rfl, Below.refl _ _⟩
    · have HCS := Lib.hid hcs
      have HT := Lib.hid hT
      obtain ⟨m, hm⟩ : ∃ m, (t.extract 0 (fwd t n 0)).size = m := ⟨_, rfl⟩
      have Hm := Lib.hid hm
      rw [hm]
      clear hcs hT hm
      go_enter Tryd.func45, Tryd.ntmps45
      go_wp2
      go_loopw [5, 6, 7, 8] (fun v5 v6 _ _ wr => ∃ pos k : Nat, v5 = .int .i64 ((n : Int) - k) ∧ v6 = .int .i64 pos ∧ k ≤ n ∧ pos ≤ t.size ∧ Hid (fwd t k 0 = pos) ∧ Hid (Below w.heap.size w wr)) (fun _ v6 _ _ _ => t.size - (intOf v6).toNat)
      case atStart => exact ⟨0, 0, by simp, rfl, by omega, by omega, rfl, Below.refl _ _⟩
      case round =>
        obtain ⟨pos, k, rfl, rfl, hk, hpos, hf, hbl⟩ := hrel
        by_cases hp : pos < t.size
        · have hpz : (pos : Int) < (t.size : Int) := by omega
          have hpc : pos < c := by omega
          have hpcz : (pos : Int) < (c : Int) := by omega
          have htc : (t.size : Int) ≤ (c : Int) := by omega
          have hwd := dec_le t pos hp
          by_cases hkn : k < n
          · have hkn' : ¬ ((n : Int) - k - 1 < 0) := by omega
            obtain ⟨r, cD⟩ := decode_at t bb off (c - pos) pos hp wr (Utf8Tabs_below HT.out hbl.out) (fun j hj => (hbl.out.cell (p := ⟨bb, off + j, none⟩) hbb).trans (HCS.out j hj))
            obtain ⟨wd, hwde⟩ : ∃ wd, (Utf8.decode t pos).2 = wd := ⟨_, rfl⟩
            rw [hwde] at cD hwd
            have Hwd := Lib.hid hwde
            clear hwde
            go_wp2_with (go_at_call 59; refine cD.mono ?_; rintro e w2 ⟨rfl, hb2⟩; have Hb2 := Lib.hid hb2; clear hb2)
            go_roundw
            case rel =>
              refine ⟨pos + wd, k + 1, by go_num, by go_num, by omega, by omega, ?_, hbl.out.trans (Hb2.out.mono hbl.out.size)⟩
              show fwd t (k + 1) 0 = _
              rw [fwd_snoc, hf.out, if_pos hp, Hwd.out]
            case measure => simp [intOf]; omega
          · obtain rfl : k = n := by omega
            have hkn' : (k : Int) - k - 1 < 0 := by omega
            have e : Hid (m = pos) := by
              show _ = _
              rw [← Hm.out, hf.out, ByteArray.size_extract]; omega
            go_wp2
            exact bodyPost_ret (v := .slice (some ⟨bb, off, none⟩) pos c) (by simp [results, Tryd.results45, go_sem]) rfl ⟨by rw [e.out], hbl.out⟩
        · obtain rfl : pos = t.size := by omega
          have hge : ¬ (t.size : Int) < (t.size : Int) := by omega
          have e : Hid (m = t.size) := by
            have h1 := (fwd_le t n 0 (by omega)).1
            have h2 : t.size ≤ fwd t n 0 := by
              have : ∀ j, fwd t (k + j) 0 = t.size := by
                intro j
                induction j with
                | zero => exact hf.out
                | succ j ih => rw [← Nat.add_assoc, fwd_snoc, ih, if_neg (by omega)]
              have := this (n - k)
              rw [show k + (n - k) = n by omega] at this
              omega
            show _ = _
            rw [← Hm.out, ByteArray.size_extract]; omega
          go_wp2
          exact bodyPost_ret (v := .slice (some ⟨bb, off, none⟩) t.size c) (by simp [results, Tryd.results45, go_sem]) rfl ⟨by rw [e.out], hbl.out⟩

end Go.Proofs.YtdadbfehackfjaaDoor
