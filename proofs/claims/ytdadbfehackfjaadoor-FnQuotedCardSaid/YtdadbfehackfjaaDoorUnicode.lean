/- The walk of (*fmt).fmtUnicode, without a precision (printed by gen_uni.py). Conditions: widths lie between 0 and 4095; the four tables of strconv.IsPrint stand as their initialisers lay them. -/
import Derived.Test.YtdadbfehackfjaaDoorTail
import Derived.Test.YtdadbfehackfjaaDoorPrintTabs
import Derived.Deep.DeepCutAuto
import Derived.Deep.CutBlock
set_option linter.unusedVariables false
set_option linter.unusedSimpArgs false
namespace Go.Proofs.YtdadbfehackfjaaDoor
open Go.RowKit Go.Deep

theorem get_app_left (a t : ByteArray) (j : Nat) (h : j < a.size) : (a ++ t).get! j = a.get! j := by
  rw [get_of_lt _ j (by rw [size_app]; omega), get_of_lt a j h, ByteArray.getElem_append_left h]
theorem get_app_right (a t : ByteArray) (j : Nat) (h : j < t.size) : (a ++ t).get! (a.size + j) = t.get! j := by
  rw [get_of_lt _ (a.size + j) (by rw [size_app]; omega), get_of_lt t j h, ByteArray.getElem_append_right (by omega)]
  congr 1
  omega
theorem digB_pos (b : Nat) (U : Bool) (hb : 2 ≤ b) (n : Nat) : 1 ≤ (digB b U n).size := by
  by_cases h : n < b
  · rw [digB_small b U n h, one_size]; omega
  · rw [digB_step b U n hb h, size_app, one_size]; omega
theorem digB_size16 (U : Bool) : ∀ j n, n < 16 ^ (j + 1) → (digB 16 U n).size ≤ j + 1
  | 0, n, h => by
    rw [digB_small 16 U n (by omega)]
    exact Nat.le_refl _
  | j + 1, n, h => by
    by_cases hn : n < 16
    · rw [digB_small 16 U n hn]
      have := one_size (hexd U n)
      omega
    · rw [digB_step 16 U n (by omega) hn, size_app, one_size]
      have := digB_size16 U j (n / 16) (by rw [Nat.pow_succ] at h; omega)
      omega
theorem fill_succ (c : UInt8) (k : Nat) : fill c (k + 1) = one c ++ fill c k := by
  apply ByteArray.ext
  simp [fill, one, ByteArray.data_append, List.replicate_succ]

/-- Some bytes more ahead of the text in the formatter's intbuf. -/
theorem Tail.pushN {W0 w : World} {o f : Nat} {F : Fl} {q : Nat} {t : ByteArray} (e : ByteArray) (h : Tail W0 w o f F f 12 68 (q + e.size) t) : Tail W0 (w.setCells f (12 + q) (Lib.strCells e)) o f F f 12 68 q (e ++ t) := by
  obtain ⟨I, hI, hf⟩ := h.fm
  have hpos := h.pos
  have hsz : (e ++ t).size = e.size + t.size := size_app e t
  have hel := Lib.strCells_length e
  have hfs : (fmCells o F I).size = 80 := by rw [fm_size, hI]
  have h1 := setCells_row f 67 (0, 0) (Lib.strCells e) (12 + q) (fmCells o F I) w hf (by omega)
  have h1' := h1
  rw [fm_wrote I q (Lib.strCells e) (by omega)] at h1
  obtain ⟨a1, a2, a3, a4, a5⟩ := setCells_far f (Lib.strCells e) (12 + q) w
  refine ⟨h.near.trans ⟨a1, a2, a3, by omega, fun k _ hk _ => a5 k hk⟩, h.flt, ⟨_, ?_, h1⟩, .inl ⟨rfl, rfl, rfl⟩, by rw [hsz]; omega, fun j hj => ?_⟩
  · simp only [List.length_append, List.length_take, List.length_drop, hI]
    omega
  · rw [cell_of_row _ f _ _ _ (0, 0) h1']
    have hCl : (fmCells o F I).toList.length = 80 := by rw [Array.length_toList]; exact hfs
    have htk : ((fmCells o F I).toList.take (12 + q)).length = 12 + q := by rw [List.length_take]; omega
    rw [List.getElem?_toArray]
    by_cases hje : j < e.size
    · rw [get_app_left e t j hje, List.getElem?_append_left (by rw [List.length_append, htk]; omega), List.getElem?_append_right (by omega), htk]
      rw [show 12 + q + j - (12 + q) = j by omega]
      exact strCells_get e j hje
    · obtain ⟨i, rfl⟩ : ∃ i, j = e.size + i := ⟨j - e.size, by omega⟩
      rw [get_app_right e t i (by omega), List.getElem?_append_right (by rw [List.length_append, htk]; omega), List.length_append, htk, List.getElem?_drop]
      have h2 := h.txt i (by omega)
      rw [cell_of_row w f _ _ _ (0, 0) hf, ← Array.getElem?_toList] at h2
      rw [← h2]
      congr 1
      omega

/-- What the flag # adds. -/
def uniTail (F : Fl) (u : Nat) : ByteArray := if (F.sh && decide (u ≤ 1114111) && prn u) = true then one 32 ++ (one 39 ++ (enc u ++ one 39)) else ⟨#[]⟩
def uniNum (u : Nat) : ByteArray := fill 48 (4 - (digB 16 true u).size) ++ digB 16 true u
def uniText (F : Fl) (u : Nat) : ByteArray := one 85 ++ (one 43 ++ (uniNum u ++ uniTail F u))
theorem uniTail_size (F : Fl) (u : Nat) : (uniTail F u).size ≤ 7 := by
  unfold uniTail
  split
  · simp only [size_app, one_size]
    have := enc_le u
    omega
  · exact Nat.zero_le _
abbrev tabU : ByteArray := { data := #[48, 49, 50, 51, 52, 53, 54, 55, 56, 57, 65, 66, 67, 68, 69, 70, 88] }
theorem tabU_get (d : Nat) (h : d < 16) : tabU.get! d = hexd true d := by
  have : ∀ (d : Fin 16), tabU.get! d.val = hexd true d.val := by decide
  exact this ⟨d, h⟩
theorem low_u64_16 (x : Int) (h0 : 0 ≤ x) (h1 : x ≤ 18446744073709551615) : bits .and .u64 x 15 = x % 16 := bits_mask .u64 64 (by decide) (fun n h0 h1 => by rw [IntKind.wrap_u64]; omega) 4 (by decide) x h0 (by omega)
theorem runeLen_enc (r : Int) (h0 : 0 ≤ r) (h1 : r ≤ 1114111) (h2 : r < 55296 ∨ 57343 < r) : Lib.runeLen r = (enc r).size := by
  unfold enc strOfNums
  by_cases a : r ≤ 127
  · rw [Lib.encodeRuneZ_one h0 a]; unfold Lib.runeLen; simp [ByteArray.size]; omega
  by_cases b : r ≤ 2047
  · rw [Lib.encodeRuneZ_two (by omega) b]; unfold Lib.runeLen; simp [ByteArray.size]; omega
  by_cases c : r ≤ 65535
  · rw [Lib.encodeRuneZ_three (by omega)]; unfold Lib.runeLen; simp [ByteArray.size]; omega
  · rw [Lib.encodeRuneZ_four (by omega) h1]; unfold Lib.runeLen; simp [ByteArray.size]; omega

set_option maxHeartbeats 8000000 in
set_option maxRecDepth 100000 in
theorem fmtUnicode_any {w : World} {o f : Nat} {F : Fl} {I : List Value} (hI : I.length = 68) (hf : w.heap[f]? = some (.cells (fmCells o F I) 67 (0, 0))) (ho : w.heap[o]? = some (.cells #[.slice none 0 0] 55 (0, 0))) (hF : F.Ok) (hp : F.hp = false) (u : Nat) (hu : (u : Int) ≤ 18446744073709551615) (hPT : Lib.PrintTabsAt 0 1 2 3 Lib.goPrintTabs w) :
    Calls Tryd.prog 38 #[.pointer (some ⟨f, 0, none⟩), .int .u64 u] w fun e w' => e = .returned (.tuple #[]) ∧ Wrote w w' o f F (padOf { F with ze := false } (uniText F u)) := by
  have hT := Tail.start (w := w) (o := o) (F := F) hI hf
  have c2 : w.cell? ⟨f, 2, none⟩ = some (.bool F.hp) := hT.fcell 2 (by decide)
  have c5 : w.cell? ⟨f, 5, none⟩ = some (.bool F.sh) := hT.fcell 5 (by decide)
  rw [hp] at c2
  have w0 := hF.wlo
  have w1 := hF.whi
  have p0 := hF.plo
  have p1 := hF.phi
  have HT := Lib.hid hT
  have HO := Lib.hid ho
  have HOF := Lib.hid (of_ne hf ho)
  have HPT := Lib.hid hPT
  obtain ⟨R, hR⟩ : ∃ R, padOf { F with ze := false } (uniText F u) = R := ⟨_, rfl⟩
  have HR := Lib.hid hR
  obtain ⟨q, hq⟩ : ∃ q, (F.sh && decide (u ≤ 1114111) && prn u) = q := ⟨_, rfl⟩
  have Hq := Lib.hid hq
  have hds : (digB 16 true u).size ≤ 16 := digB_size16 true 15 u (by omega)
  have Hds := Lib.hid hds
  rw [hR]
  clear hI hf ho hF hT hR hq hp hPT hds
  go_enter Tryd.func38, Tryd.ntmps38
  go_upto_region 8 with (fail)
  go_cut [55] from 9 to 55 (fun s55 wx => s55 = .bool q ∧ Hid (Tail w wx o f F f 12 68 68 ⟨#[]⟩))
  case first =>
    rcases hsh : F.sh with _ | _
    · rw [hsh] at c5
      have e : Hid (q = false) := by show _ = _; rw [← Hq.out, hsh]; rfl
      clear hsh
      go_wp2
      go_meet
      exact ⟨by rw [e.out], HT⟩
    · rw [hsh] at c5
      by_cases hbig : u ≤ 1114111
      · have hbz : (u : Int) ≤ 1114111 := by omega
        have e : Hid (q = prn u) := by show _ = _; rw [← Hq.out, hsh]; simp [hbig]
        have cI := fun W (h : Lib.PrintTabsAt 0 1 2 3 Lib.goPrintTabs W) => Tryd.strconv_IsPrint Lib.goPrintTabs (u : Int) W (by omega) (by omega) h
        have cI2 : Calls Tryd.prog 47 #[.int .i32 (u : Int)] w fun e w' => e = .returned (.bool q) ∧ ∃ n, w' = w.drewN n := by
          rw [e.out]; exact cI w HPT.out
        clear hsh hbig cI
        go_wp2_with (go_at_call 47; refine cI2.mono ?_; rintro e w' ⟨rfl, n, rfl⟩)
        go_meet
        exact ⟨rfl, HT.out.drewN _⟩
      · have hbz : ¬ (u : Int) ≤ 1114111 := by omega
        have e : Hid (q = false) := by show _ = _; rw [← Hq.out]; simp [hbig]
        clear hsh hbig
        go_wp2
        go_meet
        exact ⟨by rw [e.out], HT⟩
  case rest =>
    obtain ⟨rfl, HT1⟩ := hcut
    clear c2 c5 HT
    obtain ⟨Q, hQ⟩ : ∃ Q, uniTail F u = Q := ⟨_, rfl⟩
    have hQs : Q.size ≤ 7 := by rw [← hQ]; exact uniTail_size F u
    have HQ := Lib.hid hQ
    clear hQ
    go_upto_if 55 with (fail)
    go_cut [7] from 55 to 81 (fun s7 wx => ∃ p : Nat, s7 = .int .i64 p ∧ Hid (Tail w wx o f F f 12 68 p Q))
    case first =>
      cases q
      · have e : Hid (⟨#[]⟩ = Q) := by
          show _ = _
          rw [← HQ.out]; unfold uniTail; rw [if_neg (by rw [Hq.out]; decide)]
        go_wp2
        go_meet
        exact ⟨68, rfl, by rw [← e.out]; exact HT1⟩
      · have HQe : Hid (one 32 ++ (one 39 ++ (enc u ++ one 39)) = Q) := by
          show _ = _
          rw [← HQ.out]; unfold uniTail; rw [if_pos Hq.out]
        have hqq := Hq.out
        simp only [Bool.and_eq_true, decide_eq_true_eq] at hqq
        obtain ⟨⟨_, hul⟩, hpr⟩ := hqq
        have hsur : (u : Int) < 55296 ∨ 57343 < (u : Int) := by
          rcases Nat.lt_or_ge u 55296 with h | h
          · left; omega
          · rcases Nat.lt_or_ge 57343 u with h' | h'
            · right; omega
            · have := prn_sur u (by omega) (by omega)
              rw [this] at hpr; cases hpr
        have hul' : (u : Int) ≤ 1114111 := by omega
        have hle := enc_le u
        have cL := fun W => Tryd.utf8_RuneLen (u : Int) W
        rw [runeLen_enc u (by omega) hul' hsur] at cL
        have hcl := enc_size u
        obtain ⟨n, hn⟩ : ∃ n, (enc u).size = n := ⟨_, rfl⟩
        rw [hn] at cL hle hcl
        obtain ⟨s, hr⟩ : ∃ s, 67 = s + 2 + n := ⟨65 - n, by omega⟩
        have hr2 : (67 : Int) - (n : Int) = (s : Int) + 2 := by omega
        have HT2 : Hid (Tail w (wc.setCell ⟨f, 79, none⟩ (.int .u8 39)) o f F f 12 68 67 (one 39)) := by
          have h := Tail.push (q := 67) HT1.out 39
          rw [app_nil] at h
          exact h
        have HT2' : Hid (Tail w (wc.setCell ⟨f, 79, none⟩ (.int .u8 39)) o f F f 12 68 (s + 2 + (enc u).size) (one 39)) := by
          rw [hn, ← hr]; exact HT2.out
        have HT3 : Hid (Tail w ((wc.setCell ⟨f, 79, none⟩ (.int .u8 39)).setCells f (12 + (s + 2)) (Lib.runeCells u)) o f F f 12 68 (s + 2) (enc u ++ one 39)) := by
          have h := Tail.pushN (enc u) HT2'.out
          rw [enc_cells] at h
          exact h
        have cE : ∀ c, Calls Tryd.prog 49 #[.slice (some ⟨f, 12 + (s + 2), none⟩) (68 - (s + 2)) c, .int .i32 (u : Int)] (wc.setCell ⟨f, 79, none⟩ (.int .u8 39)) fun e w' => e = .returned (.int .i64 (Lib.runeCells u).length) ∧ w' = (wc.setCell ⟨f, 79, none⟩ (.int .u8 39)).setCells f (12 + (s + 2)) (Lib.runeCells u) := fun c =>
          Tryd.utf8_EncodeRune f (12 + (s + 2)) (68 - (s + 2)) c u (by omega) (by omega) _ (by omega)
            (fun j hj => by
              obtain ⟨⟨u2, k3⟩, _⟩ := HT2.out.bcell (s + 2 + j) (by omega)
              rw [Nat.add_assoc]
              exact Option.isSome_iff_exists.2 ⟨u2, k3⟩)
            (fun j hj => by
              obtain ⟨_, k3⟩ := HT2.out.bcell (s + 2 + j) (by omega)
              rw [Nat.add_assoc]
              exact k3)
        have cE2 : ∀ c, Calls Tryd.prog 49 #[.slice (some ⟨f, 12 + (s + 2), none⟩) (68 - (s + 2)) c, .int .i32 (u : Int)] (wc.setCell ⟨f, 79, none⟩ (.int .u8 39)) fun e w' => ∃ k : Nat, e = .returned (.int .i64 k) ∧ (∃ u2, w'.cell? ⟨f, 12 + (s + 1), none⟩ = some u2) ∧ w'.frozen? ⟨f, 12 + (s + 1), none⟩ = false ∧ (∃ u2, w'.cell? ⟨f, 12 + s, none⟩ = some u2) ∧ w'.frozen? ⟨f, 12 + s, none⟩ = false ∧ Hid (Tail w ((w'.setCell ⟨f, 12 + (s + 1), none⟩ (.int .u8 39)).setCell ⟨f, 12 + s, none⟩ (.int .u8 32)) o f F f 12 68 s Q) := fun c => (cE c).mono fun e w' ⟨he, hw⟩ => by
          subst hw
          have b1 := HT3.out.bcell (s + 1) (by omega)
          have b2 := HT3.out.bcell s (by omega)
          refine ⟨_, he, b1.1, b1.2, b2.1, b2.2, ?_⟩
          have h4 := Tail.push (q := s + 1) HT3.out 39
          have h5 := Tail.push (q := s) h4 32
          rw [HQe.out] at h5
          exact h5
        obtain ⟨⟨u1, k1'⟩, k2'⟩ := HT1.out.bcell 67 (by omega)
        have k1 : wc.cell? ⟨f, 79, none⟩ = some u1 := k1'
        have k2 : wc.frozen? ⟨f, 79, none⟩ = false := k2'
        have hsl : (s : Int) + 2 ≤ 68 := by omega
        have hsl2 : s + 2 ≤ 66 := by omega
        obtain ⟨r, hrs⟩ : ∃ r, r = s + 2 := ⟨_, rfl⟩
        have HE : Hid (∀ c, Calls Tryd.prog 49 #[.slice (some ⟨f, 12 + r, none⟩) (68 - r) c, .int .i32 (u : Int)] (wc.setCell ⟨f, 79, none⟩ (.int .u8 39)) fun e w' => ∃ k : Nat, e = .returned (.int .i64 k) ∧ (∃ u2, w'.cell? ⟨f, 12 + (s + 1), none⟩ = some u2) ∧ w'.frozen? ⟨f, 12 + (s + 1), none⟩ = false ∧ (∃ u2, w'.cell? ⟨f, 12 + s, none⟩ = some u2) ∧ w'.frozen? ⟨f, 12 + s, none⟩ = false ∧ Hid (Tail w ((w'.setCell ⟨f, 12 + (s + 1), none⟩ (.int .u8 39)).setCell ⟨f, 12 + s, none⟩ (.int .u8 32)) o f F f 12 68 s Q)) := by
          show ∀ c, Calls _ _ _ _ _
          rw [hrs]
          exact cE2
        have Hrs := Lib.hid hrs
        have Hr2 := Lib.hid hr2
        have hr68 : r < 68 := by omega
        have hr68z : (r : Int) < 68 := by omega
        clear cE cE2 k1' k2' hcl hle hn hul hpr hsur hr hr2 hrs hsl hsl2
        go_upto_region 11 with (fail)
        generalize hW1 : wc.setCell ⟨f, 79, none⟩ (.int .u8 39) = W1 at *
        go_cut [7] from 61 to 65 (fun s7 wx => s7 = .int .i64 r ∧ wx = W1)
        case first =>
          go_wp2_with (go_at_call 48; refine (cL _).mono ?_; rintro e w' ⟨rfl, rfl⟩)
          go_meet
          refine ⟨?_, rfl⟩
          have h1 : wrap64 (67 - (n : Int)) = (r : Int) := by
            have := Hr2.out
            have := Hrs.out
            unfold wrap64; omega
          rw [h1]
        case rest =>
          obtain ⟨rfl, rfl⟩ := hcut
          clear cL k1 k2 HT1 HT2 HT2' HT3
          go_upto_region 12 with (fail)
          go_cut [7] from 66 to 71 (fun s7 wx => s7 = .int .i64 ((s + 1 + 1 : Nat) : Int) ∧ (∃ u2, wx.cell? ⟨f, 12 + (s + 1), none⟩ = some u2) ∧ wx.frozen? ⟨f, 12 + (s + 1), none⟩ = false ∧ (∃ u2, wx.cell? ⟨f, 12 + s, none⟩ = some u2) ∧ wx.frozen? ⟨f, 12 + s, none⟩ = false ∧ Hid (Tail w ((wx.setCell ⟨f, 12 + (s + 1), none⟩ (.int .u8 39)).setCell ⟨f, 12 + s, none⟩ (.int .u8 32)) o f F f 12 68 s Q))
          case first =>
            go_wp2_with (go_at_call 49; refine (HE.out _).mono ?_; rintro e w2 ⟨k, rfl, HX⟩)
            go_meet
            exact ⟨by rw [Hrs.out], HX⟩
          case rest =>
            obtain ⟨rfl, ⟨u2, m1⟩, m2, ⟨u3, m3⟩, m4, HT4⟩ := hcut
            have hs66 : s + 2 ≤ 68 := by have := Hrs.out; omega
            clear HE Hrs hr68 hr68z
            go_wp2
            go_meet
            exact ⟨s, by go_num, HT4⟩
    case rest =>
      obtain ⟨p, rfl, HT6⟩ := hcut
      clear HT1 Hq
      obtain ⟨D, hD⟩ : ∃ D, digB 16 true u = D := ⟨_, rfl⟩
      have HD := Lib.hid hD
      have Hds2 : Hid (1 ≤ D.size ∧ D.size ≤ 16) := by
        rw [← hD]; exact ⟨digB_pos 16 true (by omega) u, Hds.out⟩
      have HQs := Lib.hid hQs
      clear hD Hds hQs
      go_upto_block 0 with (fail)
      go_cut [1, 5, 7] from 82 to 95 (fun s1 s5 s7 wx => ∃ (m' p k : Nat) (T : ByteArray), s1 = .int .u64 m' ∧ s5 = .int .i64 (4 - (k : Int)) ∧ s7 = .int .i64 (p + 1 : Nat) ∧ m' < 16 ∧ Hid (k + 1 = D.size) ∧ Hid (Tail w wx o f F f 12 68 (p + 1) T) ∧ Hid (one (hexd true m') ++ T = D ++ Q))
      case first =>
        go_wp2
        go_loopw [1, 5, 7] (fun v1 v5 v7 wr => ∃ (m' p k : Nat) (T : ByteArray), v1 = .int .u64 m' ∧ v5 = .int .i64 (4 - (k : Int)) ∧ v7 = .int .i64 p ∧ (m' : Int) ≤ 18446744073709551615 ∧ k ≤ 16 ∧ Hid (k + (digB 16 true m').size = D.size) ∧ Hid (Tail w wr o f F f 12 68 p T) ∧ Hid (digB 16 true m' ++ T = D ++ Q)) (fun v1 _ _ _ => (intOf v1).toNat)
        case atStart => exact ⟨u, p, 0, Q, rfl, rfl, rfl, hu, by omega, by show _ = _; rw [HD.out]; omega, HT6, by show _ = _; rw [HD.out]⟩
        case round =>
          obtain ⟨m', p, k, T, rfl, rfl, rfl, hml', hk16, Hk, HTr, HTd⟩ := hrel
          have hps := digB_pos 16 true (by omega) m'
          have hp1 : 1 ≤ p ∧ p ≤ 68 := by
            have h1 := HTr.out.pos
            have h2 := Hds2.out
            have h3 := HQs.out
            have h4 := congrArg ByteArray.size HTd.out
            rw [size_app, size_app] at h4
            omega
          obtain ⟨q, rfl⟩ : ∃ q, p = q + 1 := ⟨p - 1, by omega⟩
          have hqN : q + 1 ≤ 68 := hp1.2
          clear hp1
          by_cases hlt : 16 ≤ m'
          · have hltz : (16 : Int) ≤ (m' : Int) := by omega
            obtain ⟨⟨uq, k1⟩, k2⟩ := HTr.out.bcell q (by omega)
            have hpush := Lib.hid (HTr.out.push (hexd true (m' % 16)))
            have hdig := Lib.hid (digB_step 16 true m' (by omega) (by omega))
            have hkk : k + 1 ≤ 16 := by
              have h1 := Hk.out
              have h2 := Hds2.out
              omega
            have Hk2 : Hid (k + 1 + (digB 16 true (m' / 16)).size = D.size) := by
              show _ = _
              have h1 := Hk.out
              rw [hdig.out, size_app, one_size] at h1
              omega
            have b1 : bits .and .u64 (m' : Int) 15 = (m' : Int) % 16 := low_u64_16 m' (by omega) hml'
            have hx : m' % 16 < tabU.size := by show _ < 17; omega
            have hxz : (m' : Int) % 16 < (17 : Int) := by omega
            have hch : (tabU[m' % 16]'hx).toNat = (hexd true (m' % 16)).toNat := by
              rw [← get_of_lt tabU _ hx, tabU_get _ (by omega)]
            have Hch := Lib.hid hch
            have Hdv := Lib.hid (Int.natCast_ediv m' 16)
            clear hch hps hlt
            go_wp2
            go_roundw
            case rel => exact ⟨m' / 16, q, k + 1, _, by go_num, by go_num, rfl, by omega, hkk, Hk2, Hch.out.symm ▸ hpush, by show _ = _; rw [← app_assoc, ← hdig.out]; exact HTd.out⟩
            case measure => simp [intOf]; omega
          · have hltz : ¬ (16 : Int) ≤ (m' : Int) := by omega
            have Hk2 : Hid (k + 1 = D.size) := by
              show _ = _
              have h1 := Hk.out
              rw [digB_small 16 true m' (by omega), one_size] at h1
              exact h1
            clear hps
            go_wp2
            go_meet
            exact ⟨m', q, k, T, rfl, rfl, by go_num, by omega, Hk2, HTr, by show _ = _; rw [← HTd.out, digB_small 16 true m' (by omega)]⟩
      case rest =>
        obtain ⟨m', p, k, T, rfl, rfl, rfl, hmb, Hk, HT7, Hdg⟩ := hcut
        have hpN : p + 1 ≤ 68 := by have := HT7.out.pos; omega
        have hx : m' < tabU.size := by show _ < 17; omega
        have hxz : (m' : Int) < (17 : Int) := by omega
        have hch : (tabU[m']'hx).toNat = (hexd true m').toNat := by
          rw [← get_of_lt tabU _ hx, tabU_get _ (by omega)]
        obtain ⟨⟨uq, k1⟩, k2⟩ := HT7.out.bcell p (by omega)
        have HT8 : Hid (Tail w (wc.setCell ⟨f, 12 + p, none⟩ (.int .u8 ((tabU[m']'hx).toNat : Int))) o f F f 12 68 p (D ++ Q)) := by
          show Tail _ _ _ _ _ _ _ _ _ _
          have := HT7.out.push (hexd true m')
          rw [Hdg.out, ← hch] at this
          exact this
        have hk16 : k ≤ 16 := by
          have h1 := Hk.out
          have h2 := Hds2.out
          omega
        clear hch
        go_upto_block 2 with (fail)
        clear k1 k2
        generalize wc.setCell ⟨f, 12 + p, none⟩ (.int .u8 ((tabU[m']'hx).toNat : Int)) = W at *
        go_cut [5, 7] from 96 to 113 (fun _ s7 wx => ∃ p : Nat, s7 = .int .i64 p ∧ Hid (Tail w wx o f F f 12 68 p (uniNum u ++ Q)))
        case first =>
          have hNum : Hid (fill 48 (4 - D.size) ++ (D ++ Q) = uniNum u ++ Q) := by
            show _ = _
            rw [uniNum, HD.out, app_assoc]
          have hpp := HT8.out.pos
          rw [size_app] at hpp
          have HP0 := Lib.hid hpp
          clear hpp
          go_wp2
          go_loopw [5, 7] (fun v5 v7 wr => ∃ p j : Nat, v5 = .int .i64 (4 - (k : Int) - 1 - j) ∧ v7 = .int .i64 p ∧ j ≤ 4 ∧ p ≤ 68 ∧ Hid (Tail w wr o f F f 12 68 p (fill 48 j ++ (D ++ Q))) ∧ Hid (j = 0 ∨ (j : Int) ≤ 4 - (k : Int) - 1)) (fun v5 _ _ => (intOf v5).toNat)
          case atStart => exact ⟨p, 0, by simp, rfl, by omega, by omega, by rw [fill_zero, nil_app]; exact HT8, .inl rfl⟩
          case round =>
            obtain ⟨p, j, rfl, rfl, hj4, hp68, HTr, Hj⟩ := hrel
            by_cases hlt : (0 : Int) < 4 - (k : Int) - 1 - j
            · have hp1 : 1 ≤ p := by
                have h1 := HTr.out.pos
                have h2 := Hds2.out
                have h3 := HQs.out
                rw [size_app, size_app, fill_size] at h1
                omega
              obtain ⟨q, rfl⟩ : ∃ q, p = q + 1 := ⟨p - 1, by omega⟩
              obtain ⟨⟨uq, k1⟩, k2⟩ := HTr.out.bcell q (by omega)
              have hpush := Lib.hid (HTr.out.push 48)
              have HK : Hid (j + 1 = 0 ∨ ((j + 1 : Nat) : Int) ≤ 4 - (k : Int) - 1) := by show _ ∨ _; omega
              have hj4' : j + 1 ≤ 4 := by omega
              clear hp1
              go_wp2
              go_roundw
              case rel => exact ⟨q, j + 1, by go_num, by go_num, hj4', by omega, by rw [fill_succ, app_assoc]; exact hpush, HK⟩
              case measure => simp [intOf]; omega
            · have hkk : Hid (j = 4 - D.size) := by
                show _ = _
                have h1 := Hk.out
                have h2 := Hj.out
                omega
              go_wp2
              go_meet
              exact ⟨p, rfl, by rw [← hNum.out, ← hkk.out]; exact HTr⟩
        case rest =>
          obtain ⟨p, rfl, HT9⟩ := hcut
          have hp2 : 2 ≤ p ∧ p ≤ 68 := by
            have h1 := HT9.out.pos
            have h2 := Hds2.out
            have h3 := HQs.out
            rw [size_app, uniNum, size_app, fill_size, HD.out] at h1
            omega
          obtain ⟨q, rfl⟩ : ∃ q, p = q + 1 + 1 := ⟨p - 2, by omega⟩
          have hq68 : q + 2 ≤ 68 := hp2.2
          obtain ⟨⟨u1, k1⟩, k2⟩ := HT9.out.bcell (q + 1) (by omega)
          obtain ⟨⟨u2, k3⟩, k4⟩ := HT9.out.bcell q (by omega)
          have hpush : Hid (Tail w ((wc.setCell ⟨f, 12 + (q + 1), none⟩ (.int .u8 43)).setCell ⟨f, 12 + q, none⟩ (.int .u8 85)) o f F f 12 68 q (one 85 ++ (one 43 ++ (uniNum u ++ Q)))) := (HT9.out.push 43).push 85
          have hTx : one 85 ++ (one 43 ++ (uniNum u ++ Q)) = uniText F u := by
            rw [uniText, HQ.out]
          rw [hTx] at hpush
          obtain ⟨T5, hT5⟩ : ∃ T5, uniText F u = T5 := ⟨_, rfl⟩
          rw [hT5] at HR hpush
          have hT5s : 1 ≤ T5.size ∧ T5.size ≤ 274877906944 := by
            have h1 := hpush.out.pos
            have h2 : 1 ≤ T5.size := by rw [← hT5, ← hTx, size_app, one_size]; omega
            omega
          clear hT5 hTx hp2 HT8 HT7 Hdg Hk hk16 hmb hpN HD Hds2 HQs HQ HT6
          go_upto_region 33 with (fail)
          clear k1 k2 k3 k4
          generalize (wc.setCell ⟨f, 12 + (q + 1), none⟩ (.int .u8 43)).setCell ⟨f, 12 + q, none⟩ (.int .u8 85) = W at *
          have c7 : W.cell? ⟨f, 7, none⟩ = some (.bool F.ze) := hpush.out.fcell 7 (by decide)
          have k7 := hpush.out.ffree 7
          have HT10 := Lib.hid (hpush.out.setze false)
          have hq67 : q < 68 := by omega
          have HNp : Hid (68 - q = T5.size) := by
            show _ = _
            have := hpush.out.pos
            omega
          have hT5C : T5.size ≤ 68 - q := by have := HNp.out; omega
          have hT5l := hT5s.2
          clear hT5s
          go_upto_region 35 with (fail)
          clear c7 k7
          generalize W.setCell ⟨f, 7, none⟩ (.bool false) = W2 at *
          have HPad : Hid (Calls Tryd.prog 46 #[.pointer (some ⟨f, 0, none⟩), .slice (some ⟨f, 12 + q, none⟩) (68 - q) (68 - q)] W2 fun e w' => e = .returned (.tuple #[]) ∧ Hid (Wrote w (w'.setCell ⟨f, 7, none⟩ (.bool F.ze)) o f F R) ∧ w'.cell? ⟨f, 7, none⟩ = some (.bool false) ∧ w'.frozen? ⟨f, 7, none⟩ = false) := by
            show Calls _ _ _ _ _
            obtain ⟨I2, hI2, hS, hsrc⟩ := HT10.out.src HO.out HOF.out
            have e1 : Value.slice (some ⟨f, 12 + q, none⟩) (68 - q) (68 - q) = .slice (some ⟨f, 12 + q, none⟩) T5.size (68 - q) := by rw [HNp.out]
            rw [e1]
            have hF0 : Fl.Ok { F with ze := false } := ⟨w0, w1, p0, p1⟩
            refine (pad_any hS hF0 T5 _ (68 - q) hsrc hT5C (Nat.zero_le _) hT5l).mono ?_
            rintro e w2 ⟨rfl, hS2⟩
            rw [nil_app, HR.out] at hS2
            refine ⟨rfl, ?_, hS2.fcell 7, hS2.ffree 7⟩
            have hS3 := hS2.setze F.ze
            exact ⟨HT10.out.near.weak.trans (hS3.bel.mono HT10.out.near.size), W2, I2, HT10.out.near.size, hS3⟩
          go_wp2_with (go_at_call 46; refine HPad.out.mono ?_; rintro e w2 ⟨rfl, hW, k1, k2⟩)
          go_end0
          exact ⟨rfl, hW.out⟩

end Go.Proofs.YtdadbfehackfjaaDoor
