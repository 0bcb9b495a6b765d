/- FnString: a string, and bytes, are written as they are, cut to the precision and filled up to the width: the walk of the law returns true at every flags and every string, where the two tables of unicode/utf8 stand as their initialisers lay them. -/
import Derived.Test.YtdadbfehackfjaaDoorString
set_option linter.unusedVariables false
set_option linter.unusedSimpArgs false
namespace Go.Proofs.YtdadbfehackfjaaDoor
open Go.RowKit Go.Deep

theorem padOf_cut_le (F : Fl) (t : ByteArray) (h : F.wid ≤ 4095) : (padOf F (cutS F t)).size ≤ t.size + 4095 := by
  have h1 := padOf_size F (cutS F t) h
  have h2 := cutS_size F t
  omega

set_option maxHeartbeats 2000000 in
set_option maxRecDepth 100000 in
/-- (*fmt).fmtS. -/
theorem fmtS_any {w : World} {o f : Nat} {F : Fl} {I : List Value} (h : St w w o f F I ⟨#[]⟩) (hF : F.Ok) (t : ByteArray) (ht : t.size ≤ 274877906944) :
    Calls Tryd.prog 36 #[.pointer (some ⟨f, 0, none⟩), .string t] w fun e w' => e = .returned (.tuple #[]) ∧ St w w' o f F I (padOf F (cutS F t)) := by
  have cT := ts_any h.fm hF t (by omega)
  have hsz := cutS_size F t
  have cP : ∀ W, St w W o f F I ⟨#[]⟩ → Calls Tryd.prog 44 #[.pointer (some ⟨f, 0, none⟩), .string (cutS F t)] W fun e w' => e = .returned (.tuple #[]) ∧ St w w' o f F I (padOf F (cutS F t)) := fun W hS => by
    have := ps_any hS hF (cutS F t) (Nat.zero_le _) (by omega)
    rwa [nil_app] at this
  have eC : (if F.hp = true then t.extract 0 (fwd t F.prec.toNat 0) else t) = cutS F t := rfl
  rw [eC] at cT
  obtain ⟨R, hR⟩ : ∃ R, padOf F (cutS F t) = R := ⟨_, rfl⟩
  obtain ⟨T, hT⟩ : ∃ T, cutS F t = T := ⟨_, rfl⟩
  rw [hR] at cP
  rw [hR]
  simp only [hT] at cP cT
  have H := Lib.hid h
  have HP := Lib.hid cP
  clear h hR hT eC cP hsz
  go_enter Tryd.func36, Tryd.ntmps36
  go_wp2_with (first | (go_at_call 43; refine cT.mono ?_; rintro e w2 ⟨rfl, hb2⟩; have hS2 := H.out.below hb2) | (go_at_call 44; refine (HP.out _ hS2).mono ?_; rintro e w3 ⟨rfl, hS3⟩))
  go_end0
  exact ⟨rfl, hS3⟩

set_option maxHeartbeats 2000000 in
set_option maxRecDepth 100000 in
/-- (*fmt).fmtBs. -/
theorem fmtBs_any {w : World} {o f : Nat} {F : Fl} {I : List Value} (h : St w w o f F I ⟨#[]⟩) (hF : F.Ok) (t : ByteArray) (A : Option Addr) (c : Nat) (hl : Lies w A t c) (hne : ∀ bb off, A = some ⟨bb, off, none⟩ → bb ≠ o ∧ bb ≠ f) (hT : Lib.Utf8Tabs 4 5 w) (ht : t.size ≤ 274877906944) :
    Calls Tryd.prog 37 #[.pointer (some ⟨f, 0, none⟩), .slice A t.size c] w fun e w' => e = .returned (.tuple #[]) ∧ St w w' o f F I (padOf F (cutS F t)) := by
  have cT := truncate_any h.fm hF t A c hl hT (by omega)
  have hsz := cutS_size F t
  have hsrc : Src w o f I A (cutS F t) ∧ (cutS F t).size ≤ c := by
    rcases hl with ⟨rfl, rfl, rfl⟩ | ⟨bb, off, rfl, hbb, hc, hcs⟩
    · have : (⟨#[]⟩ : ByteArray).size = 0 := rfl
      exact ⟨.inl (by omega), by omega⟩
    · refine ⟨.inr (.inl ⟨bb, off, rfl, hbb, (hne bb off rfl).1, (hne bb off rfl).2, fun j hj => ?_⟩), by omega⟩
      rw [cutS_get F t j hj]
      exact hcs j (by omega)
  have cP : ∀ W, St w W o f F I ⟨#[]⟩ → Calls Tryd.prog 46 #[.pointer (some ⟨f, 0, none⟩), .slice A (cutS F t).size c] W fun e w' => e = .returned (.tuple #[]) ∧ St w w' o f F I (padOf F (cutS F t)) := fun W hS => by
    have := pad_any hS hF (cutS F t) A c hsrc.1 hsrc.2 (Nat.zero_le _) (by omega)
    rwa [nil_app] at this
  obtain ⟨R, hR⟩ : ∃ R, padOf F (cutS F t) = R := ⟨_, rfl⟩
  obtain ⟨m, hm⟩ : ∃ m, (cutS F t).size = m := ⟨_, rfl⟩
  rw [hR] at cP
  rw [hR]
  simp only [hm] at cP cT
  have H := Lib.hid h
  have HP := Lib.hid cP
  clear h hR hm cP hsz hl hne hsrc hT
  go_enter Tryd.func37, Tryd.ntmps37
  go_wp2_with (first | (go_at_call 45; refine cT.mono ?_; rintro e w2 ⟨rfl, hb2⟩; have hS2 := H.out.below hb2) | (go_at_call 46; refine (HP.out _ hS2).mono ?_; rintro e w3 ⟨rfl, hS3⟩))
  go_end0
  exact ⟨rfl, hS3⟩

set_option maxHeartbeats 2000000 in
set_option maxRecDepth 100000 in
theorem zzS_any (F : Fl) (hF : F.Ok) (s : ByteArray) (w : World) (hs : s.size ≤ 274877906944) :
    Calls Tryd.prog 24 #[(.agg #[.int .i64 F.wid, .int .i64 F.prec, .bool F.hw, .bool F.hp, .bool F.mi, .bool F.pl, .bool F.sh, .bool F.sp, .bool F.ze, .bool false, .bool false]), .string s] w fun e w' => e = .returned (.string (padOf F (cutS F s))) ∧ Below w.heap.size w w' := by
  obtain ⟨n, hn⟩ : ∃ n, n = w.heap.size + 1 + 1 + 1 := ⟨_, rfl⟩
  have HN := Lib.hid hn
  clear hn
  have cM : ∀ (W : World) o f I, St W W o f F I ⟨#[]⟩ → Calls Tryd.prog 36 #[.pointer (some ⟨f, 0, none⟩), .string s] W fun e w' => e = .returned (.tuple #[]) ∧ St W w' o f F I (padOf F (cutS F s)) := fun W o f I h => fmtS_any h hF s hs
  obtain ⟨R, hR⟩ : ∃ R, padOf F (cutS F s) = R := ⟨_, rfl⟩
  rw [hR] at cM ⊢
  clear hR
  go_enter Tryd.func24, Tryd.ntmps24
  go_wp2_with (first | (go_at_call 35; refine (zzFmt_any F _ _ n (by rw [HN.out]; simp) (by simp)).mono ?_; rintro e w1 ⟨rfl, hb1, hf1⟩; have hS1 := St.start hf1 ((hb1.block (w.heap.size + 1) (by simp)).trans (heap_second w _ _))) | (go_at_call 36; refine (cM _ _ _ _ hS1).mono ?_; rintro e w2 ⟨rfl, hS2⟩; obtain ⟨v2, hv2, hcv2⟩ := hS2.conv))
  go_ret
  have k1 : Below w.heap.size w w1 := Below.trans (by repeat (first | (with_reducible refine Below.drew ?_) | (with_reducible refine below_drewN ?_ _) | (with_reducible refine Below.alloc ?_ (by first | (simp; done) | (simp; omega)) _) | (with_reducible refine Below.setCell ?_ (by first | (simp; done) | (simp; omega)) _) | with_reducible exact Below.refl _ _)) (hb1.mono (by first | (simp; done) | (simp; omega)))
  exact ⟨rfl, hS2.done k1 (by omega) (by rw [HN.out]; omega)⟩

set_option maxHeartbeats 2000000 in
set_option maxRecDepth 100000 in
theorem zzBs_any (F : Fl) (hF : F.Ok) (s : ByteArray) (A : Option Addr) (c : Nat) (w : World) (hl : Lies w A s c) (hT : Lib.Utf8Tabs 4 5 w) (hs : s.size ≤ 274877906944) :
    Calls Tryd.prog 26 #[(.agg #[.int .i64 F.wid, .int .i64 F.prec, .bool F.hw, .bool F.hp, .bool F.mi, .bool F.pl, .bool F.sh, .bool F.sp, .bool F.ze, .bool false, .bool false]), .slice A s.size c] w fun e w' => e = .returned (.string (padOf F (cutS F s))) ∧ Below w.heap.size w w' := by
  obtain ⟨n, hn⟩ : ∃ n, n = w.heap.size + 1 + 1 + 1 := ⟨_, rfl⟩
  have HN := Lib.hid hn
  have HL := Lib.hid hl
  have HT := Lib.hid hT
  have hne : ∀ bb off, A = some ⟨bb, off, none⟩ → bb ≠ w.heap.size + 1 ∧ bb ≠ n := by
    rintro bb off rfl
    rcases hl with ⟨h, _⟩ | ⟨bb', off', h, hlt, _⟩
    · cases h
    · injection h with h; injection h with h1 h2 h3; subst h1; omega
  have HE := Lib.hid hne
  clear hn hl hne hT
  have cM : ∀ (W : World) o f I, St W W o f F I ⟨#[]⟩ → Lies W A s c → (∀ bb off, A = some ⟨bb, off, none⟩ → bb ≠ o ∧ bb ≠ f) → Lib.Utf8Tabs 4 5 W → Calls Tryd.prog 37 #[.pointer (some ⟨f, 0, none⟩), .slice A s.size c] W fun e w' => e = .returned (.tuple #[]) ∧ St W w' o f F I (padOf F (cutS F s)) := fun W o f I h hl hne hT => fmtBs_any h hF s A c hl hne hT hs
  obtain ⟨R, hR⟩ : ∃ R, padOf F (cutS F s) = R := ⟨_, rfl⟩
  rw [hR] at cM ⊢
  clear hR
  go_enter Tryd.func26, Tryd.ntmps26
  go_wp2_with (first | (go_at_call 35; refine (zzFmt_any F _ _ n (by rw [HN.out]; simp) (by simp)).mono ?_; rintro e w1 ⟨rfl, hb1, hf1⟩; have hS1 := St.start hf1 ((hb1.block (w.heap.size + 1) (by simp)).trans (heap_second w _ _)); have k1 : Below w.heap.size w w1 := Below.trans (by repeat (first | (with_reducible refine Below.drew ?_) | (with_reducible refine below_drewN ?_ _) | (with_reducible refine Below.alloc ?_ (by first | (simp; done) | (simp; omega)) _) | (with_reducible refine Below.setCell ?_ (by first | (simp; done) | (simp; omega)) _) | with_reducible exact Below.refl _ _)) (hb1.mono (by first | (simp; done) | (simp; omega))); have HL1 := Lib.hid (HL.out.below k1); have HT1 := Lib.hid (Utf8Tabs_below HT.out k1)) | (go_at_call 37; refine (cM _ _ _ _ hS1 HL1.out HE.out HT1.out).mono ?_; rintro e w2 ⟨rfl, hS2⟩; obtain ⟨v2, hv2, hcv2⟩ := hS2.conv))
  go_ret
  exact ⟨rfl, hS2.done k1 (by omega) (by rw [HN.out]; omega)⟩

set_option maxHeartbeats 2000000 in
set_option maxRecDepth 100000 in
/-- impl.String. -/
theorem string_any (F : Fl) (hF : F.Ok) (s : ByteArray) (w : World) (hs : s.size ≤ 274877906944) :
    Calls Tryd.prog 9 #[(.agg #[.int .i64 F.wid, .int .i64 F.prec, .bool F.hw, .bool F.hp, .bool F.mi, .bool F.pl, .bool F.sh, .bool F.sp, .bool F.ze]), .string s] w fun e w' => e = .returned (.string (padOf F (cutS F s))) ∧ Below w.heap.size w w' := by
  have cT := fun (W : World) => zzS_any F hF s W hs
  obtain ⟨R, hR⟩ : ∃ R, padOf F (cutS F s) = R := ⟨_, rfl⟩
  rw [hR] at cT ⊢
  clear hR
  go_enter Tryd.func9, Tryd.ntmps9
  go_wp2_with (first | (go_at_call 25; refine (flags_any F _).mono ?_; rintro e w1 ⟨rfl, hb1⟩) | (go_at_call 24; refine (cT _).mono ?_; rintro e w2 ⟨rfl, hb2⟩))
  go_ret
  refine ⟨rfl, ?_⟩
  refine Below.trans ?_ (hb2.mono (by have := hb1.size; simp at this; omega))
  exact Below.trans (by repeat (first | (with_reducible refine Below.drew ?_) | (with_reducible refine below_drewN ?_ _) | (with_reducible refine Below.alloc ?_ (by first | (simp; done) | (simp; omega)) _) | (with_reducible refine Below.setCell ?_ (by first | (simp; done) | (simp; omega)) _) | with_reducible exact Below.refl _ _)) (hb1.mono (by first | (simp; done) | (simp; omega)))

set_option maxHeartbeats 2000000 in
set_option maxRecDepth 100000 in
/-- impl.Bytes. -/
theorem bytes_any (F : Fl) (hF : F.Ok) (t : ByteArray) (A : Option Addr) (c : Nat) (w : World) (hr : Rd w A t) (hT : Lib.Utf8Tabs 4 5 w) (ht : t.size ≤ 274877906944) :
    Calls Tryd.prog 10 #[(.agg #[.int .i64 F.wid, .int .i64 F.prec, .bool F.hw, .bool F.hp, .bool F.mi, .bool F.pl, .bool F.sh, .bool F.sp, .bool F.ze]), .slice A t.size c] w fun e w' => e = .returned (.string (padOf F (cutS F t))) ∧ Below w.heap.size w w' := by
  obtain ⟨i0, hi, hz0, hz1, hz2⟩ := info_parts Tryd.info5
  have cT := fun (W : World) (A : Option Addr) (c : Nat) (hl : Lies W A t c) (hT : Lib.Utf8Tabs 4 5 W) => zzBs_any F hF t A c W hl hT ht
  obtain ⟨R, hR⟩ : ∃ R, padOf F (cutS F t) = R := ⟨_, rfl⟩
  rw [hR] at cT ⊢
  have HR := Lib.hid hr
  have HT := Lib.hid hT
  clear hR hr hT
  go_enter Tryd.func10, Tryd.ntmps10
  go_wp2_with (first | (go_at_call 25; refine (flags_any F _).mono ?_; rintro e w1 ⟨rfl, hb1⟩; have k1 : Below w.heap.size w w1 := Below.trans (by repeat (first | (with_reducible refine Below.drew ?_) | (with_reducible refine below_drewN ?_ _) | (with_reducible refine Below.alloc ?_ (by first | (simp; done) | (simp; omega)) _) | (with_reducible refine Below.setCell ?_ (by first | (simp; done) | (simp; omega)) _) | with_reducible exact Below.refl _ _)) (hb1.mono (by first | (simp; done) | (simp; omega))); have hR1 := Lib.hid (HR.out.below k1)) | (at_builtin; refine wpList_append_bytes _ rfl _ _ 29 29 rfl w1.heap.size 5 5 i0 Tryd.underlying29 Tryd.underlying29 hi hz0 hz1 hz2 (.slice none 0 0) 0 [] rfl (World.ownsRow_nil _ _ _ _) A t.size c t rfl rfl hR1.out (by omega) (Nat.le_refl _) ?_; intro v' w2 ho2 hg2; have k2 : Below w.heap.size w w2 := k1.trans (((Below.refl _ _).grown hg2 (Nat.le_refl _) (by simp [Value.ownBlock])).mono k1.size); obtain ⟨A', c', rfl, hl'⟩ := own_lies ho2; have hL2 := Lib.hid hl'; have HT2 := Lib.hid (Utf8Tabs_below HT.out k2)) | (go_at_call 26; refine (cT _ _ _ hL2.out HT2.out).mono ?_; rintro e w3 ⟨rfl, hb3⟩))
  go_ret
  exact ⟨rfl, k2.trans (hb3.mono k2.size)⟩

set_option maxHeartbeats 2000000 in
set_option maxRecDepth 100000 in
/-- spec.String. -/
theorem specString_any (F : Fl) (hF : F.Ok) (s : ByteArray) (w : World) (hs : s.size ≤ 274877906944) :
    Calls Tryd.prog 8 #[(.agg #[.int .i64 F.wid, .int .i64 F.prec, .bool F.hw, .bool F.hp, .bool F.mi, .bool F.pl, .bool F.sh, .bool F.sp, .bool F.ze]), .string s] w fun e w' => e = .returned (.string (padOf F (cutS F s))) ∧ Below w.heap.size w w' := by
  have hsz := cutS_size F s
  have cP := fun W => specPad_any F (cutS F s) W hF (by omega)
  have p0 := hF.plo
  have p1 := hF.phi
  have cF := fun W => first_any s F.prec.toNat W (by omega) (by omega)
  rw [Int.toNat_of_nonneg p0] at cF
  obtain ⟨R, hR⟩ : ∃ R, padOf F (cutS F s) = R := ⟨_, rfl⟩
  simp only [hR] at cP
  rw [hR]
  clear hR
  obtain ⟨wid, prec, hw, hp, mi, pl, sh, sp, ze⟩ := F
  cases hp
  · have e : cutS ⟨wid, prec, hw, false, mi, pl, sh, sp, ze⟩ s = s := rfl
    rw [e] at cP
    clear e cF hsz
    go_enter Tryd.func8, Tryd.ntmps8
    go_wp2_with (go_at_call 14; refine (cP _).mono ?_; rintro e w2 ⟨rfl, hb2⟩)
    go_ret
    exact ⟨rfl, (Below.alloc (Below.refl _ _) (Nat.le_refl _) _).trans (hb2.mono (by first | (simp; done) | (simp; omega)))⟩
  · have e : cutS ⟨wid, prec, hw, true, mi, pl, sh, sp, ze⟩ s = s.extract 0 (fwd s prec.toNat 0) := rfl
    rw [e] at cP
    obtain ⟨T, hT⟩ : ∃ T, s.extract 0 (fwd s prec.toNat 0) = T := ⟨_, rfl⟩
    simp only [hT] at cP cF
    clear e hsz hT
    go_enter Tryd.func8, Tryd.ntmps8
    go_wp2_with (first | (go_at_call 21; refine (cF _).mono ?_; rintro e w3 ⟨rfl, rfl⟩) | (go_at_call 14; refine (cP _).mono ?_; rintro e w2 ⟨rfl, hb2⟩))
    go_ret
    exact ⟨rfl, (Below.alloc (Below.refl _ _) (Nat.le_refl _) _).trans (hb2.mono (by first | (simp; done) | (simp; omega)))⟩

set_option maxHeartbeats 4000000 in
set_option maxRecDepth 100000 in
theorem fnString_any (F : Fl) (s : ByteArray) (w : World) (h0 : -9223372036854775808 ≤ F.wid) (h1 : F.wid ≤ 9223372036854775807) (h2 : -9223372036854775808 ≤ F.prec) (h3 : F.prec ≤ 9223372036854775807) (hs : s.size ≤ 9223372036854775807) (hT : Lib.Utf8Tabs 4 5 w) :
    Calls Tryd.prog 3 #[(.agg #[.int .i64 F.wid, .int .i64 F.prec, .bool F.hw, .bool F.hp, .bool F.mi, .bool F.pl, .bool F.sh, .bool F.sp, .bool F.ze]), .string s] w fun e w' => e = .returned (.bool true) ∧ Below w.heap.size w w' := by
  have HT := Lib.hid hT
  clear hT
  by_cases hbig : 2147483647 < s.size
  · have hbig' : (2147483647 : Int) < (s.size : Int) := by omega
    go_enter Tryd.func3, Tryd.ntmps3
    go_wp2
    go_ret
    exact ⟨rfl, (by repeat (first | (with_reducible refine Below.drew ?_) | (with_reducible refine below_drewN ?_ _) | (with_reducible refine Below.alloc ?_ (by first | (simp; done) | (simp; omega)) _) | (with_reducible refine Below.setCell ?_ (by first | (simp; done) | (simp; omega)) _) | with_reducible exact Below.refl _ _))⟩
  · have hbig' : (s.size : Int) ≤ 2147483647 := by omega
    have hok := clean_ok F
    have cC := fun W => clean_any F W h0 h1 h2 h3
    obtain ⟨G, hG⟩ : ∃ G, F.clean = G := ⟨_, rfl⟩
    rw [hG] at hok cC
    clear hG h0 h1 h2 h3
    have cP := fun W => specString_any G hok s W (by omega)
    have cS := fun W => string_any G hok s W (by omega)
    have cB := fun W A c (hr : Rd W A s) (hT : Lib.Utf8Tabs 4 5 W) => bytes_any G hok s A c W hr hT (by omega)
    obtain ⟨R, hR⟩ : ∃ R, padOf G (cutS G s) = R := ⟨_, rfl⟩
    rw [hR] at cP cS cB
    clear hR
    go_enter Tryd.func3, Tryd.ntmps3
    go_wp2_with (go_at_call 7; refine (cC _).mono ?_; rintro e w1 ⟨rfl, hb1⟩; obtain ⟨hc1, hf1⟩ := bcell hb1)
    have hBx : Boxed (refilled w1 w.heap.size G) w.heap.size G := Boxed.refill (F := F) (Boxed.below (by unfold Boxed; simp) hb1) G
    have hBl : Below w.heap.size w (refilled w1 w.heap.size G) := below_refilled (Below.trans (by repeat (first | (with_reducible refine Below.drew ?_) | (with_reducible refine below_drewN ?_ _) | (with_reducible refine Below.alloc ?_ (by first | (simp; done) | (simp; omega)) _) | (with_reducible refine Below.setCell ?_ (by first | (simp; done) | (simp; omega)) _) | with_reducible exact Below.refl _ _)) (hb1.mono (by first | (simp; done) | (simp; omega)))) (Nat.le_refl _) G
    change Calls _ _ _ (refilled w1 w.heap.size G) _
    generalize refilled w1 w.heap.size G = W at *
    clear hb1 hc1 hf1
    refine (cP W).mono ?_
    rintro e w2 ⟨rfl, hb2⟩
    have hBx2 : Boxed w2 w.heap.size G := hBx.below hb2
    obtain ⟨y0, y1, y2, y3, y4, y5, y6, y7, y8⟩ := id hBx2
    have q2 : Below w.heap.size w w2 := (by first | exact (hBl).trans ((hb2).mono (hBl).size) | exact (hBl).drew.trans ((hb2).mono (hBl).size) | exact (below_drewN (hBl) _).trans ((hb2).mono (hBl).size))
    clear hBx
    go_wp2_with (first | (go_at_call 9; refine (cS _).mono ?_; rintro e w3 ⟨rfl, hb3⟩; have q3 : Below w.heap.size w w3 := (by first | exact (q2).trans ((hb3).mono (q2).size) | exact (q2).drew.trans ((hb3).mono (q2).size) | exact (below_drewN (q2) _).trans ((hb3).mono (q2).size)); have hBx3 : Boxed w3 w.heap.size G := hBx2.below hb3; obtain ⟨z0, z1, z2, z3, z4, z5, z6, z7, z8⟩ := id hBx3; obtain ⟨c4, w4, hcv4, hc4, hb4, hr4⟩ := conv_bytes w3 s; have q4 : Below w.heap.size w w4 := (by first | exact (q3).trans ((hb4).mono (q3).size) | exact (q3).drew.trans ((hb4).mono (q3).size) | exact (below_drewN (q3) _).trans ((hb4).mono (q3).size)); have HR4 := Lib.hid hr4; clear hr4; have HT4 := Lib.hid (Utf8Tabs_below HT.out q4)) | (go_at_call 10; refine (cB _ _ _ HR4.out HT4.out).mono ?_; rintro e w5 ⟨rfl, hb5⟩; have q5 : Below w.heap.size w w5 := (by first | exact (q4).trans ((hb5).mono (q4).size) | exact (q4).drew.trans ((hb5).mono (q4).size) | exact (below_drewN (q4) _).trans ((hb5).mono (q4).size))))
    go_ret
    exact ⟨rfl, q5⟩

end Go.Proofs.YtdadbfehackfjaaDoor
