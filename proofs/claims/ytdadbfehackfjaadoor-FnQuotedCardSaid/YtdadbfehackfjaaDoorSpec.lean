/- The walks of the reference's small functions: laws.below, spec.Runes, spec.First, spec.repeated, spec.Pad: each returns what the plain functions say; what was there in memory stands. Conditions: no text is longer than 2^47 bytes; widths lie between 0 and 4095. -/
import Derived.Test.YtdadbfehackfjaaDoorText
import Derived.Deep.QuietTactic
import Derived.BigQuiet
import Derived.Deep.DeepFit
import Derived.Deep.OwnRows
import Derived.WalkLawsBesides
import Derived.WalkSpells
set_option linter.unusedVariables false
set_option linter.unusedSimpArgs false
namespace Go.Proofs.YtdadbfehackfjaaDoor
open Go.RowKit Go.Deep

theorem quiet_left {P : Program} {f : FuncId} {args : Array Value} {w : World} {n : Nat} {v : Value}
    (h : Calls P f args (w.drewN n) fun e w' => e = .returned v ∧ w.drewN n = w') : Calls P f args (w.drewN n) fun e w'' => e = .returned v ∧ ∃ m, w'' = w.drewN m :=
  h.mono fun _ _ ⟨he, hm⟩ => ⟨he, n, hm.symm⟩
theorem quiet_add_left {P : Program} {f : FuncId} {args : Array Value} {w : World} {a n : Nat} {v : Value}
    (h : Calls P f args (w.drewN (a + n)) fun e w' => e = .returned v ∧ w.drewN (a + n) = w') :
    Calls P f args (w.drewN (a + n)) fun e w'' => e = .returned v ∧ ∃ m, w'' = w.drewN (a + m) :=
  h.mono fun _ _ ⟨he, hm⟩ => ⟨he, n, hm.symm⟩
theorem below_drewN {B : Nat} {a w : World} (h : Below B a w) (n : Nat) : Below B a (w.drewN n) := ⟨h.os, h.tape, h.output, h.size, h.block⟩

/-- How long a text in a slot is: for a loop's measure. -/
def strLen : Value → Nat | .string t => t.size | _ => 0
theorem ret_str {a b : ByteArray} (h : a = b) : Ending.returned (.string a) = .returned (.string b) := by rw [h]

set_option maxHeartbeats 1000000 in
set_option maxRecDepth 100000 in
theorem below_any (x : Int) (w : World) (h0 : -9223372036854775808 ≤ x) (h1 : x ≤ 9223372036854775807) :
    Calls Tryd.prog 23 #[.int .i64 x, .int .i64 4096] w fun e w' => e = .returned (.int .i64 (x % 4096)) ∧ w = w' := by
  by_cases hx : 0 ≤ x
  · go_enter Tryd.func23, Tryd.ntmps23
    go_wp2
    go_ret
    exact ⟨rfl, rfl⟩
  · have e1 : x.tmod 4096 = -((-x) % 4096) := by
      obtain ⟨y, rfl⟩ : ∃ y, x = -y := ⟨-x, by omega⟩
      rw [Int.neg_tmod, Int.tmod_eq_emod_of_nonneg (by omega)]; simp
    obtain ⟨r, hr⟩ : ∃ r, (-x) % 4096 = r := ⟨_, rfl⟩
    have hr0 : 0 ≤ r := by omega
    have hr1 : r < 4096 := by omega
    rw [hr] at e1
    by_cases hz : r = 0
    · have e2 : x % 4096 = 0 := by omega
      subst hz
      rw [e2]
      clear e2 hr
      go_enter Tryd.func23, Tryd.ntmps23
      go_wp2
      go_ret
      exact ⟨rfl, rfl⟩
    · have e2 : x % 4096 = 4096 - r := by omega
      have hneg : -r < 0 := by omega
      have e3 : -r + 4096 = 4096 - r := by omega
      have H2 : Hid (x % 4096 = 4096 - r) := e2
      have H3 : Hid (-r + 4096 = 4096 - r) := e3
      clear e2 e3 hr hz
      go_enter Tryd.func23, Tryd.ntmps23
      go_wp2
      go_ret
      exact ⟨ret_int (by rw [H2.out]; first | exact H3.out | omega), rfl⟩

set_option maxHeartbeats 1000000 in
set_option maxRecDepth 100000 in
/-- spec.Runes. -/
theorem runes_any (s : ByteArray) (w : World) (hs : s.size ≤ 140737488355328) :
    Calls Tryd.prog 28 #[.string s] w fun e w' => e = .returned (.int .i64 (Lib.runeCount s)) ∧ w = w' := by
  go_enter Tryd.func28, Tryd.ntmps28
  go_wp2
  go_loop [0, 3] (fun vs vk => ∃ (t : ByteArray) (k : Nat), vs = .string t ∧ vk = .int .i64 k ∧ k + t.size ≤ s.size ∧ Hid (k + Lib.runeCount t = Lib.runeCount s)) (fun vs _ => strLen vs)
  case atStart => exact ⟨s, 0, rfl, rfl, by omega, Nat.zero_add _⟩
  case round =>
    obtain ⟨t, k, rfl, rfl, hk, hc⟩ := hrel
    by_cases h0 : 0 < t.size
    · have h0' : (0 : Int) < (t.size : Int) := by omega
      have hw := dec_le0 t h0
      have hm := Lib.hid (wid_max t)
      have hst := Lib.hid (count_step t h0)
      obtain ⟨d, hd⟩ : ∃ d, (Utf8.decode t 0).2 = d := ⟨_, rfl⟩
      rw [hd] at hw hm hst
      obtain ⟨m, hmm⟩ : ∃ m, wid t = m := ⟨_, rfl⟩
      have cW := width_any t w h0
      rw [hmm] at cW hm
      have hmd : max (1 : Int) (m : Int) = (d : Int) := by have := hm.out; omega
      have Hd := Lib.hid hd
      clear hd hmm
      have hd1 : (1 : Int) ≤ (d : Int) := by omega
      have hd2 : (d : Int) ≤ (t.size : Int) := by omega
      have hsz := size_tail t d
      have Hsz := Lib.hid hsz
      clear hsz
      go_wp2_with (go_at_call 31; refine cW.mono ?_; rintro e w' ⟨rfl, rfl⟩)
      go_round
      case rel =>
        refine ⟨_, k + 1, rfl, by go_num, ?_, ?_⟩
        · rw [Hsz.out]; omega
        · have h1 := hc.out; have h2 := hst.out
          show _ + _ = _
          omega
      case measure => simp only [strLen]; rw [Hsz.out]; omega
    · have h0' : ¬ (0 : Int) < (t.size : Int) := by omega
      go_wp2
      go_ret
      have := count_none t h0
      exact ⟨ret_int (by rw [← hc.out, this]; rfl), rfl⟩

set_option maxHeartbeats 1000000 in
set_option maxRecDepth 100000 in
/-- spec.First: at most so many code points. -/
theorem first_any (s : ByteArray) (n : Nat) (w : World) (hs : s.size ≤ 140737488355328) (hn : n ≤ 4095) :
    Calls Tryd.prog 21 #[.string s, .int .i64 (n : Int)] w fun e w' => e = .returned (.string (s.extract 0 (fwd s n 0))) ∧ w = w' := by
  go_enter Tryd.func21, Tryd.ntmps21
  go_wp2
  go_loop [5, 6] (fun va vk => ∃ (k p : Nat), va = .int .i64 p ∧ vk = .int .i64 k ∧ k ≤ n ∧ p ≤ s.size ∧ Hid (fwd s (n - k) p = fwd s n 0)) (fun _ vk => n - (intOf vk).toNat)
  case atStart => exact ⟨0, 0, rfl, rfl, by omega, by omega, rfl⟩
  case round =>
    obtain ⟨k, p, rfl, rfl, hk, hp, hf⟩ := hrel
    by_cases hkn : k < n
    · have hkn' : (k : Int) < (n : Int) := by omega
      by_cases hps : p < s.size
      · have hps' : (p : Int) < (s.size : Int) := by omega
        have hp0 : (0 : Int) ≤ (p : Int) := by omega
        have hle := dec_le s p hps
        have hdec := Lib.tail_decode s p 0
        rw [Nat.add_zero] at hdec
        have hm := Lib.hid (wid_max (s.extract p s.size))
        have cW := width_any (s.extract p s.size) w (by rw [size_tail]; omega)
        rw [hdec] at hm
        obtain ⟨d, hd⟩ : ∃ d, (Utf8.decode s p).2 = d := ⟨_, rfl⟩
        rw [hd] at hle hm
        obtain ⟨m, hmm⟩ : ∃ m, wid (s.extract p s.size) = m := ⟨_, rfl⟩
        rw [hmm] at cW hm
        have hmd : max (1 : Int) (m : Int) = (d : Int) := by have := hm.out; omega
        have hst : Hid (fwd s (n - (k + 1)) (p + d) = fwd s n 0) := by
          rw [← hf.out, show n - k = (n - (k + 1)) + 1 by omega, fwd_step s _ p hps, hd]; rfl
        clear hd hmm hdec hf
        go_wp2_with (go_at_call 31; refine cW.mono ?_; rintro e w' ⟨rfl, rfl⟩)
        go_round
        case rel => exact ⟨k + 1, p + d, by go_num, by go_num, by omega, by omega, hst⟩
        case measure => simp [intOf]; omega
      · have hps' : ¬ ((p : Int) < (s.size : Int)) := by omega
        have he := hf.out
        rw [fwd_end s _ p hps] at he
        have He := Lib.hid he
        clear he hf
        go_wp2
        go_ret
        exact ⟨ret_str (by rw [← He.out]), rfl⟩
    · have hkn' : ¬ ((k : Int) < (n : Int)) := by omega
      have he := hf.out
      rw [show n - k = 0 by omega] at he
      have He := Lib.hid he
      clear he hf
      go_wp2
      go_ret
      exact ⟨ret_str (by rw [← He.out]; rfl), rfl⟩

theorem Tryd.info5 : (Tryd.prog.info? 5).map (fun i => (i.zero, i.size, i.bytes)) = some (some (.int .u8 0), 1, 1) := by kernel_rfl

/-- The bytes of a row that lies in a block, as a text. -/
theorem conv_half (c : UInt8) (n : Nat) (w : World) (b : Nat) (cap : Nat) (h : w.heap[b]? = some (.cells (half c n n) 5 (0, 0))) :
    (convert 29 9 (.slice (some ⟨b, 0, none⟩) n cap)).run Tryd.prog w = .ok (.string (fill c n)) w := by
  have := run_convert_bytes_arg (P := Tryd.prog) w 29 5 Tryd.underlying29 Tryd.underlying5 b 0 n cap (List.replicate n (c.toNat : Int)) (by simp)
    (fun i hi => by
      rw [Nat.zero_add, cell_of_row w b i _ 5 (0, 0) h, half_get c n n i hi, if_pos hi]
      simp [List.getD, List.getElem?_replicate, hi]) 9 Tryd.underlying9
  rwa [strOf_fill] at this

set_option maxHeartbeats 1000000 in
set_option maxRecDepth 100000 in
/-- spec.repeated. -/
theorem repeated_any (c : UInt8) (n : Int) (w : World) (h0 : -140737488355328 ≤ n) (h1 : n ≤ 140737488355328) :
    Calls Tryd.prog 29 #[.int .u8 (c.toNat : Int), .int .i64 n] w fun e w' => e = .returned (.string (fill c n.toNat)) ∧ Below w.heap.size w w' := by
  obtain ⟨m, hm⟩ : ∃ m : Nat, n.toNat = m := ⟨_, rfl⟩
  have hmax : max (0 : Int) n = (m : Int) := by omega
  have hml : m ≤ 140737488355328 := by omega
  rw [hm]
  clear hm
  have hmk := fun W => run_make_row' (P := Tryd.prog) 29 5 (.int .u8 0) 1 Tryd.underlying29 Tryd.info5 rfl .i64 .i64 m (by omega) (by omega) W
  rw [half_zero c m] at hmk
  go_enter Tryd.func29, Tryd.ntmps29
  go_wp2
  go_loopw [6, 12] (fun _ vi wr => ∃ k : Nat, k ≤ m ∧ vi = .int .i64 k ∧ wr = w.alloc (.cells (half c k m) 5)) (fun _ vi _ => m - (intOf vi).toNat)
  case atStart => exact ⟨0, by omega, rfl, rfl⟩
  case round =>
    obtain ⟨k, hk, rfl, rfl⟩ := hrel
    clear hmk
    by_cases hkm : k < m
    · have hkm' : (k : Int) < (m : Int) := by omega
      have hg : (half c k m)[k]? = some (.int .u8 0) := by rw [half_get c k m k hkm, if_neg (by omega)]
      have hset := half_set c k m hkm
      go_wp2
      go_roundw
      case rel => exact ⟨k + 1, by omega, by go_num, rfl⟩
      case measure => simp [intOf]; omega
    · have hkm' : ¬ (k : Int) < (m : Int) := by omega
      obtain rfl : k = m := by omega
      have hcv := conv_half c k (w.alloc (.cells (half c k k) 5)) w.heap.size k (heap_alloc_new w _)
      go_wp2
      go_ret
      exact ⟨rfl, (Below.refl _ _).alloc (Nat.le_refl _) _⟩

set_option maxHeartbeats 1000000 in
set_option maxRecDepth 100000 in
/-- spec.Pad. -/
theorem specPad_any (F : Fl) (s : ByteArray) (w : World) (hF : F.Ok) (hs : s.size ≤ 140737488355328) :
    Calls Tryd.prog 14 #[(.agg #[.int .i64 F.wid, .int .i64 F.prec, .bool F.hw, .bool F.hp, .bool F.mi, .bool F.pl, .bool F.sh, .bool F.sp, .bool F.ze]), .string s] w fun e w' => e = .returned (.string (padOf F s)) ∧ Below w.heap.size w w' := by
  obtain ⟨wid, prec, hw, hp, mi, pl, sh, sp, ze⟩ := F
  obtain ⟨hw0, hw1, _, _⟩ := hF
  simp only at hw0 hw1 ⊢
  have hrl := Lib.runeCount_le s
  have cR := fun W => runes_any s W hs
  obtain ⟨r, hr⟩ : ∃ r, Lib.runeCount s = r := ⟨_, rfl⟩
  rw [hr] at hrl cR
  have hrl' : (r : Int) ≤ 140737488355328 := by omega
  have hsl' : (s.size : Int) ≤ 140737488355328 := by omega
  have cF := fun (c : UInt8) W => repeated_any c (wid - r) W (by omega) (by omega)
  obtain ⟨m, hm⟩ : ∃ m : Nat, (wid - r).toNat = m := ⟨_, rfl⟩
  have hml : (m : Int) ≤ 4095 := by omega
  have cF32 := cF 32
  have cF48 := cF 48
  clear cF
  rw [hm] at cF32 cF48
  have hf32 := fill_size 32 m
  have hf48 := fill_size 48 m
  have Hr := Lib.hid hr; have Hm := Lib.hid hm
  obtain ⟨f32, hf32e⟩ : ∃ f, fill 32 m = f := ⟨_, rfl⟩
  obtain ⟨f48, hf48e⟩ : ∃ f, fill 48 m = f := ⟨_, rfl⟩
  rw [hf32e] at cF32 hf32
  rw [hf48e] at cF48 hf48
  have hb32 : (f32.size : Int) ≤ 4095 := by omega
  have hb48 : (f48.size : Int) ≤ 4095 := by omega
  have Hf32 := Lib.hid hf32e; have Hf48 := Lib.hid hf48e
  clear hr hm hf32e hf48e hf32 hf48
  cases hw
  · have hfin : Hid (padOf ⟨wid, prec, false, hp, mi, pl, sh, sp, ze⟩ s = s) := rfl
    go_enter Tryd.func14, Tryd.ntmps14
    go_wp2
    go_ret
    exact ⟨ret_str hfin.out.symm, (Below.refl _ _).alloc (Nat.le_refl _) _⟩
  · cases mi
    · cases ze
      · have hfin : Hid (padOf ⟨wid, prec, true, hp, false, pl, sh, sp, false⟩ s = f32 ++ s) := by
          rw [← Hf32.out, ← Hm.out, ← Hr.out]; rfl
        go_enter Tryd.func14, Tryd.ntmps14
        go_wp2
        go_quiet ((go_at_call 28; exact quiet_left (cR _)))
        go_wp2_with (go_at_call 29; refine (cF32 _).mono ?_; rintro e w1 ⟨rfl, hb1⟩)
        go_ret
        exact ⟨ret_str hfin.out.symm, ((below_drewN ((Below.refl _ _).alloc (Nat.le_refl _) _) _)).trans (hb1.mono (by simp))⟩
      · have hfin : Hid (padOf ⟨wid, prec, true, hp, false, pl, sh, sp, true⟩ s = f48 ++ s) := by
          rw [← Hf48.out, ← Hm.out, ← Hr.out]; rfl
        go_enter Tryd.func14, Tryd.ntmps14
        go_wp2
        go_quiet ((go_at_call 28; exact quiet_left (cR _)))
        go_wp2_with (go_at_call 29; refine (cF48 _).mono ?_; rintro e w1 ⟨rfl, hb1⟩)
        go_ret
        exact ⟨ret_str hfin.out.symm, ((below_drewN ((Below.refl _ _).alloc (Nat.le_refl _) _) _)).trans (hb1.mono (by simp))⟩
    · have hfin : Hid (padOf ⟨wid, prec, true, hp, true, pl, sh, sp, ze⟩ s = s ++ f32) := by
        rw [← Hf32.out, ← Hm.out, ← Hr.out]; rfl
      go_enter Tryd.func14, Tryd.ntmps14
      go_wp2
      go_quiet ((go_at_call 28; exact quiet_left (cR _)))
      go_wp2_with (go_at_call 29; refine (cF32 _).mono ?_; rintro e w1 ⟨rfl, hb1⟩)
      go_ret
      exact ⟨ret_str hfin.out.symm, ((below_drewN ((Below.refl _ _).alloc (Nat.le_refl _) _) _)).trans (hb1.mono (by simp))⟩

end Go.Proofs.YtdadbfehackfjaaDoor
