/- FnHex: the bytes of a string are written in base 16, bytes the same way: the walk of the law returns true at every flags and every string. No condition. -/
import Derived.Test.YtdadbfehackfjaaHexB
import Derived.Test.YtdadbfehackfjaaPadLaw
set_option linter.unusedVariables false
set_option linter.unusedSimpArgs false
namespace Go.Proofs.Ytdadbfehackfjaa
open Go.RowKit Go.Deep

/-- The package's tables of digits. -/
def tab (U : Bool) : ByteArray := if U then ⟨#[48, 49, 50, 51, 52, 53, 54, 55, 56, 57, 65, 66, 67, 68, 69, 70, 88]⟩ else ⟨#[48, 49, 50, 51, 52, 53, 54, 55, 56, 57, 97, 98, 99, 100, 101, 102, 120]⟩
theorem table_tab (U : Bool) : Table (tab U) U := by
  refine ⟨by cases U <;> rfl, ?_, by cases U <;> rfl⟩
  intro d hd
  have : ∀ (U : Bool) (d : Fin 16), (tab U).get! d.val = hexd U d.val := by decide
  exact this U ⟨d, hd⟩

set_option maxHeartbeats 1000000 in
set_option maxRecDepth 100000 in
theorem zzDigits_any (U : Bool) (w : World) :
    Calls Try.prog 52 #[.bool U] w fun e w' => e = .returned (.string (tab U)) ∧ w = w' := by
  cases U
  · go_enter Try.func52, Try.ntmps52
    go_wp2
    go_ret
    exact ⟨rfl, rfl⟩
  · go_enter Try.func52, Try.ntmps52
    go_wp2
    go_ret
    exact ⟨rfl, rfl⟩

/-- A slice of bytes that is nil, or lies in a block that is there. -/
def Lies (w : World) (A : Option Addr) (t : ByteArray) (c : Nat) : Prop :=
  (A = none ∧ t = ⟨#[]⟩ ∧ c = 0) ∨ ∃ bb off, A = some ⟨bb, off, none⟩ ∧ bb < w.heap.size ∧ ∀ j, j < t.size → w.cell? ⟨bb, off + j, none⟩ = some (.int .u8 ((t.get! j).toNat : Int))
theorem Lies.below {w w' : World} {A : Option Addr} {t : ByteArray} {c : Nat} (h : Lies w A t c) (hb : Below w.heap.size w w') : Lies w' A t c := by
  rcases h with h | ⟨bb, off, rfl, hlt, hc⟩
  · exact .inl h
  · exact .inr ⟨bb, off, rfl, Nat.lt_of_lt_of_le hlt hb.size, fun j hj => (hb.cell (p := ⟨bb, off + j, none⟩) hlt).trans (hc j hj)⟩
theorem own_lies {w : World} {B : Nat} {v : Value} {t : ByteArray} (h : w.ownsRow B 5 1 v (0 + t.size) ([] ++ Lib.strCells t)) : ∃ A c, v = .slice A t.size c ∧ Lies w A t c := by
  rw [Nat.zero_add, List.nil_append] at h
  rcases h.2 with ⟨rfl, h0⟩ | ⟨g, cap, cur, rfl, _, hg, hnc, _⟩
  · exact ⟨none, 0, by rw [h0], .inl ⟨rfl, empty_of_size t h0, rfl⟩⟩
  · exact ⟨some ⟨g, 0, none⟩, cap, rfl, .inr ⟨g, 0, rfl, heap_lt hg, fun j hj => by rw [Nat.zero_add, h.cellAt j (by omega), strCells_get t j hj]⟩⟩

set_option maxHeartbeats 2000000 in
set_option maxRecDepth 100000 in
/-- (*fmt).fmtSx. -/
theorem fmtSx_any {W0 w : World} {o f : Nat} {F : Fl} {I : List Value} (h : St W0 w o f F I ⟨#[]⟩) (hF : F.Ok) (s : ByteArray) (U : Bool) (hs : s.size ≤ 34359738368) :
    Calls Try.prog 51 #[.pointer (some ⟨f, 0, none⟩), .string s, .string (tab U)] w fun e w' => e = .returned (.tuple #[]) ∧ St W0 w' o f F I (padOf F (hexOf F U (cutOf F s))) := by
  have cM := fmtSbx_str h hF s U (tab U) (table_tab U) hs
  obtain ⟨R, hR⟩ : ∃ R, padOf F (hexOf F U (cutOf F s)) = R := ⟨_, rfl⟩
  obtain ⟨D, hD⟩ : ∃ D, tab U = D := ⟨_, rfl⟩
  rw [hR, hD] at cM
  rw [hR, hD]
  clear hR hD h
  go_enter Try.func51, Try.ntmps51
  go_wp2_with (go_at_call 62; refine cM.mono ?_; rintro e w2 ⟨rfl, hS⟩)
  go_end0
  exact ⟨rfl, hS⟩

set_option maxHeartbeats 2000000 in
set_option maxRecDepth 100000 in
/-- (*fmt).fmtBx. -/
theorem fmtBx_any {W0 w : World} {o f : Nat} {F : Fl} {I : List Value} (h : St W0 w o f F I ⟨#[]⟩) (hF : F.Ok) (s : ByteArray) (A : Option Addr) (c : Nat) (U : Bool) (hl : Lies W0 A s c) (hne : ∀ bb off, A = some ⟨bb, off, none⟩ → bb ≠ o ∧ bb ≠ f) (hs : s.size ≤ 34359738368) :
    Calls Try.prog 53 #[.pointer (some ⟨f, 0, none⟩), .slice A s.size c, .string (tab U)] w fun e w' => e = .returned (.tuple #[]) ∧ St W0 w' o f F I (padOf F (hexOf F U (cutOf F s))) := by
  have cM : Calls Try.prog 62 #[.pointer (some ⟨f, 0, none⟩), .string ⟨#[]⟩, .slice A s.size c, .string (tab U)] w fun e w' => e = .returned (.tuple #[]) ∧ St W0 w' o f F I (padOf F (hexOf F U (cutOf F s))) := by
    rcases hl with ⟨rfl, rfl, rfl⟩ | ⟨bb, off, rfl, hlt, hc⟩
    · exact fmtSbx_str h hF ⟨#[]⟩ U (tab U) (table_tab U) (Nat.zero_le _)
    · exact fmtSbx_bytes h bb off c hlt (hne bb off rfl).1 (hne bb off rfl).2 hF s U (tab U) (table_tab U) hs hc
  obtain ⟨R, hR⟩ : ∃ R, padOf F (hexOf F U (cutOf F s)) = R := ⟨_, rfl⟩
  obtain ⟨D, hD⟩ : ∃ D, tab U = D := ⟨_, rfl⟩
  rw [hR, hD] at cM
  rw [hR, hD]
  clear hR hD h hl hne
  go_enter Try.func53, Try.ntmps53
  go_wp2_with (go_at_call 62; refine cM.mono ?_; rintro e w2 ⟨rfl, hS⟩)
  go_end0
  exact ⟨rfl, hS⟩

set_option maxHeartbeats 2000000 in
set_option maxRecDepth 100000 in
theorem zzSx_any (F : Fl) (hF : F.Ok) (s : ByteArray) (U : Bool) (w : World) (hs : s.size ≤ 34359738368) :
    Calls Try.prog 40 #[(.agg #[.int .i64 F.wid, .int .i64 F.prec, .bool F.hw, .bool F.hp, .bool F.mi, .bool F.pl, .bool F.sh, .bool F.sp, .bool F.ze, .bool false, .bool false]), .string s, .bool U] w fun e w' => e = .returned (.string (padOf F (hexOf F U (cutOf F s)))) ∧ Below w.heap.size w w' := by
  obtain ⟨n, hn⟩ : ∃ n, n = w.heap.size + 1 + 1 + 1 := ⟨_, rfl⟩
  have HN := Lib.hid hn
  clear hn
  have cM : ∀ (W0 W : World) o f I, St W0 W o f F I ⟨#[]⟩ → Calls Try.prog 51 #[.pointer (some ⟨f, 0, none⟩), .string s, .string (tab U)] W fun e w' => e = .returned (.tuple #[]) ∧ St W0 w' o f F I (padOf F (hexOf F U (cutOf F s))) := fun W0 W o f I h => fmtSx_any h hF s U hs
  obtain ⟨R, hR⟩ : ∃ R, padOf F (hexOf F U (cutOf F s)) = R := ⟨_, rfl⟩
  rw [hR] at cM ⊢
  have cD := fun W => zzDigits_any U W
  generalize tab U = D at *
  clear hR
  go_enter Try.func40, Try.ntmps40
  go_wp2_with (first | (go_at_call 52; refine (cD _).mono ?_; rintro e w' ⟨rfl, rfl⟩) | (go_at_call 45; refine (zzFmt_any F _ _ n (by rw [HN.out]; simp) (by simp)).mono ?_; rintro e w1 ⟨rfl, hb1, hf1⟩; have hS1 := St.start hf1 ((hb1.block (w.heap.size + 1) (by simp)).trans (heap_second w _ _))) | (go_at_call 51; refine (cM _ _ _ _ _ hS1).mono ?_; rintro e w2 ⟨rfl, hS2⟩; obtain ⟨v2, hv2, hcv2⟩ := hS2.conv))
  go_ret
  have k1 : Below w.heap.size w w1 := Below.trans (by repeat (first | (with_reducible refine Below.drew ?_) | (with_reducible refine below_drewN ?_ _) | (with_reducible refine Below.alloc ?_ (by first | (simp; done) | (simp; omega)) _) | (with_reducible refine Below.setCell ?_ (by first | (simp; done) | (simp; omega)) _) | with_reducible exact Below.refl _ _)) (hb1.mono (by first | (simp; done) | (simp; omega)))
  exact ⟨rfl, hS2.done k1 (by omega) (by rw [HN.out]; omega)⟩

set_option maxHeartbeats 2000000 in
set_option maxRecDepth 100000 in
theorem zzBx_any (F : Fl) (hF : F.Ok) (s : ByteArray) (A : Option Addr) (c : Nat) (U : Bool) (w : World) (hl : Lies w A s c) (hs : s.size ≤ 34359738368) :
    Calls Try.prog 41 #[(.agg #[.int .i64 F.wid, .int .i64 F.prec, .bool F.hw, .bool F.hp, .bool F.mi, .bool F.pl, .bool F.sh, .bool F.sp, .bool F.ze, .bool false, .bool false]), .slice A s.size c, .bool U] w fun e w' => e = .returned (.string (padOf F (hexOf F U (cutOf F s)))) ∧ Below w.heap.size w w' := by
  obtain ⟨n, hn⟩ : ∃ n, n = w.heap.size + 1 + 1 + 1 := ⟨_, rfl⟩
  have HN := Lib.hid hn
  have HL := Lib.hid hl
  have hne : ∀ bb off, A = some ⟨bb, off, none⟩ → bb ≠ w.heap.size + 1 ∧ bb ≠ n := by
    rintro bb off rfl
    rcases hl with ⟨h, _⟩ | ⟨bb', off', h, hlt, _⟩
    · cases h
    · injection h with h; injection h with h1 h2 h3; subst h1; omega
  have HE := Lib.hid hne
  clear hn hl hne
  have cM : ∀ (W0 W : World) o f I, St W0 W o f F I ⟨#[]⟩ → Lies W0 A s c → (∀ bb off, A = some ⟨bb, off, none⟩ → bb ≠ o ∧ bb ≠ f) → Calls Try.prog 53 #[.pointer (some ⟨f, 0, none⟩), .slice A s.size c, .string (tab U)] W fun e w' => e = .returned (.tuple #[]) ∧ St W0 w' o f F I (padOf F (hexOf F U (cutOf F s))) := fun W0 W o f I h hl hne => fmtBx_any h hF s A c U hl hne hs
  obtain ⟨R, hR⟩ : ∃ R, padOf F (hexOf F U (cutOf F s)) = R := ⟨_, rfl⟩
  rw [hR] at cM ⊢
  have cD := fun W => zzDigits_any U W
  generalize tab U = D at *
  clear hR
  go_enter Try.func41, Try.ntmps41
  go_wp2_with (first | (go_at_call 52; refine (cD _).mono ?_; rintro e w' ⟨rfl, rfl⟩) | (go_at_call 45; refine (zzFmt_any F _ _ n (by rw [HN.out]; simp) (by simp)).mono ?_; rintro e w1 ⟨rfl, hb1, hf1⟩; have hS1 := St.start hf1 ((hb1.block (w.heap.size + 1) (by simp)).trans (heap_second w _ _)); have k1 : Below w.heap.size w w1 := Below.trans (by repeat (first | (with_reducible refine Below.drew ?_) | (with_reducible refine below_drewN ?_ _) | (with_reducible refine Below.alloc ?_ (by first | (simp; done) | (simp; omega)) _) | (with_reducible refine Below.setCell ?_ (by first | (simp; done) | (simp; omega)) _) | with_reducible exact Below.refl _ _)) (hb1.mono (by first | (simp; done) | (simp; omega))); have HL1 := Lib.hid (HL.out.below k1)) | (go_at_call 53; refine (cM _ _ _ _ _ hS1 HL1.out HE.out).mono ?_; rintro e w2 ⟨rfl, hS2⟩; obtain ⟨v2, hv2, hcv2⟩ := hS2.conv))
  go_ret
  exact ⟨rfl, hS2.done k1 (by omega) (by rw [HN.out]; omega)⟩

set_option maxHeartbeats 2000000 in
set_option maxRecDepth 100000 in
/-- impl.Hex. -/
theorem hex_any (F : Fl) (hF : F.Ok) (s : ByteArray) (U : Bool) (w : World) (hs : s.size ≤ 34359738368) :
    Calls Try.prog 22 #[(.agg #[.int .i64 F.wid, .int .i64 F.prec, .bool F.hw, .bool F.hp, .bool F.mi, .bool F.pl, .bool F.sh, .bool F.sp, .bool F.ze]), .string s, .bool U] w fun e w' => e = .returned (.string (padOf F (hexOf F U (cutOf F s)))) ∧ Below w.heap.size w w' := by
  have cT := fun (W : World) => zzSx_any F hF s U W hs
  obtain ⟨R, hR⟩ : ∃ R, padOf F (hexOf F U (cutOf F s)) = R := ⟨_, rfl⟩
  rw [hR] at cT ⊢
  clear hR
  go_enter Try.func22, Try.ntmps22
  go_wp2_with (first | (go_at_call 33; refine (flags_any F _).mono ?_; rintro e w1 ⟨rfl, hb1⟩) | (go_at_call 40; refine (cT _).mono ?_; rintro e w2 ⟨rfl, hb2⟩))
  go_ret
  refine ⟨rfl, ?_⟩
  refine Below.trans ?_ (hb2.mono (by have := hb1.size; simp at this; omega))
  exact Below.trans (by repeat (first | (with_reducible refine Below.drew ?_) | (with_reducible refine below_drewN ?_ _) | (with_reducible refine Below.alloc ?_ (by first | (simp; done) | (simp; omega)) _) | (with_reducible refine Below.setCell ?_ (by first | (simp; done) | (simp; omega)) _) | with_reducible exact Below.refl _ _)) (hb1.mono (by first | (simp; done) | (simp; omega)))

set_option maxHeartbeats 2000000 in
set_option maxRecDepth 100000 in
/-- impl.HexBytes. -/
theorem hexBytes_any (F : Fl) (hF : F.Ok) (t : ByteArray) (A : Option Addr) (c : Nat) (U : Bool) (w : World) (hr : Rd w A t) (hc : t.size ≤ c) (ht : t.size ≤ 34359738368) :
    Calls Try.prog 23 #[(.agg #[.int .i64 F.wid, .int .i64 F.prec, .bool F.hw, .bool F.hp, .bool F.mi, .bool F.pl, .bool F.sh, .bool F.sp, .bool F.ze]), .slice A t.size c, .bool U] w fun e w' => e = .returned (.string (padOf F (hexOf F U (cutOf F t)))) ∧ Below w.heap.size w w' := by
  obtain ⟨i0, hi, hz0, hz1, hz2⟩ := info_parts Try.info5
  have cT := fun (W : World) (A : Option Addr) (c : Nat) (hl : Lies W A t c) => zzBx_any F hF t A c U W hl ht
  obtain ⟨R, hR⟩ : ∃ R, padOf F (hexOf F U (cutOf F t)) = R := ⟨_, rfl⟩
  rw [hR] at cT ⊢
  have HR := Lib.hid hr
  clear hR hr
  go_enter Try.func23, Try.ntmps23
  go_wp2_with (first | (go_at_call 33; refine (flags_any F _).mono ?_; rintro e w1 ⟨rfl, hb1⟩; have k1 : Below w.heap.size w w1 := Below.trans (by repeat (first | (with_reducible refine Below.drew ?_) | (with_reducible refine below_drewN ?_ _) | (with_reducible refine Below.alloc ?_ (by first | (simp; done) | (simp; omega)) _) | (with_reducible refine Below.setCell ?_ (by first | (simp; done) | (simp; omega)) _) | with_reducible exact Below.refl _ _)) (hb1.mono (by first | (simp; done) | (simp; omega))); have hR1 := Lib.hid (HR.out.below k1)) | (at_builtin; refine wpList_append_bytes _ rfl _ _ 32 32 rfl w1.heap.size 5 5 i0 Try.underlying32 Try.underlying32 hi hz0 hz1 hz2 (.slice none 0 0) 0 [] rfl (World.ownsRow_nil _ _ _ _) A t.size c t rfl rfl hR1.out (by omega) (Nat.le_refl _) ?_; intro v' w2 ho2 hg2; have k2 : Below w.heap.size w w2 := k1.trans (((Below.refl _ _).grown hg2 (Nat.le_refl _) (by simp [Value.ownBlock])).mono k1.size); obtain ⟨A', c', rfl, hl'⟩ := own_lies ho2; have hL2 := Lib.hid hl') | (go_at_call 41; refine (cT _ _ _ hL2.out).mono ?_; rintro e w3 ⟨rfl, hb3⟩))
  go_ret
  exact ⟨rfl, k2.trans (hb3.mono k2.size)⟩

set_option maxHeartbeats 4000000 in
set_option maxRecDepth 100000 in
theorem fnHex_any (F : Fl) (s : ByteArray) (U : Bool) (w : World) (h0 : -9223372036854775808 ≤ F.wid) (h1 : F.wid ≤ 9223372036854775807) (h2 : -9223372036854775808 ≤ F.prec) (h3 : F.prec ≤ 9223372036854775807) (hs : s.size ≤ 9223372036854775807) :
    Calls Try.prog 7 #[(.agg #[.int .i64 F.wid, .int .i64 F.prec, .bool F.hw, .bool F.hp, .bool F.mi, .bool F.pl, .bool F.sh, .bool F.sp, .bool F.ze]), .string s, .bool U] w fun e w' => e = .returned (.bool true) ∧ Below w.heap.size w w' := by
  by_cases hbig : 2147483647 < s.size
  · have hbig' : (2147483647 : Int) < (s.size : Int) := by omega
    go_enter Try.func7, Try.ntmps7
    go_wp2
    go_ret
    exact ⟨rfl, (by repeat (first | (with_reducible refine Below.drew ?_) | (with_reducible refine below_drewN ?_ _) | (with_reducible refine Below.alloc ?_ (by first | (simp; done) | (simp; omega)) _) | (with_reducible refine Below.setCell ?_ (by first | (simp; done) | (simp; omega)) _) | with_reducible exact Below.refl _ _))⟩
  · have hbig' : (s.size : Int) ≤ 2147483647 := by omega
    have hok := clean_ok F
    have cC := fun W => clean_any F W h0 h1 h2 h3
    obtain ⟨G, hG⟩ : ∃ G, F.clean = G := ⟨_, rfl⟩
    rw [hG] at hok cC
    clear hG h0 h1 h2 h3
    have cS := fun W => hex_any G hok s U W (by omega)
    have cB := fun W A c (hr : Rd W A s) (hc : s.size ≤ c) => hexBytes_any G hok s A c U W hr hc (by omega)
    have hcase : (G.sh = false ∨ (G.sp = false ∧ 0 < (cutOf G s).size)) ∨ (G.sh = true ∧ (G.sp = true ∨ (cutOf G s).size = 0)) := by
      by_cases hsz : (cutOf G s).size = 0
      · cases hsh : G.sh
        · exact .inl (.inl rfl)
        · exact .inr ⟨rfl, .inr hsz⟩
      · cases hsh : G.sh
        · exact .inl (.inl rfl)
        · cases hsp : G.sp
          · exact .inl (.inr ⟨rfl, by omega⟩)
          · exact .inr ⟨rfl, .inl rfl⟩
    rcases hcase with hor | ⟨hsh, hor⟩
    · have cP := fun W => specBytes_right G hok s U W (by omega) hor
      obtain ⟨R, hR⟩ : ∃ R, padOf G (hexOf G U (cutOf G s)) = R := ⟨_, rfl⟩
      rw [hR] at cP cS cB
      clear hR hor
      go_enter Try.func7, Try.ntmps7
      go_wp2_with (go_at_call 11; refine (cC _).mono ?_; rintro e w1 ⟨rfl, hb1⟩; obtain ⟨hc1, hf1⟩ := bcell hb1)
      have hBx : Boxed (refilled w1 w.heap.size G) w.heap.size G := Boxed.refill (F := F) (Boxed.below (by unfold Boxed; simp) hb1) G
      have hBl : Below w.heap.size w (refilled w1 w.heap.size G) := below_refilled (Below.trans (by repeat (first | (with_reducible refine Below.drew ?_) | (with_reducible refine below_drewN ?_ _) | (with_reducible refine Below.alloc ?_ (by first | (simp; done) | (simp; omega)) _) | (with_reducible refine Below.setCell ?_ (by first | (simp; done) | (simp; omega)) _) | with_reducible exact Below.refl _ _)) (hb1.mono (by first | (simp; done) | (simp; omega)))) (Nat.le_refl _) G
      change Calls _ _ _ (refilled w1 w.heap.size G) _
      generalize refilled w1 w.heap.size G = W at *
      clear hb1 hc1 hf1
      obtain ⟨x0, x1, x2, x3, x4, x5, x6, x7, x8⟩ := id hBx
      have HBx := Lib.hid hBx
      clear hBx
      refine (cP W).mono ?_
      rintro e w2 ⟨rfl, hb2⟩
      have hBx2 : Boxed w2 w.heap.size G := HBx.out.below hb2
      obtain ⟨y0, y1, y2, y3, y4, y5, y6, y7, y8⟩ := id hBx2
      have q2 : Below w.heap.size w w2 := (by first | exact (hBl).trans ((hb2).mono (hBl).size) | exact (hBl).drew.trans ((hb2).mono (hBl).size) | exact (below_drewN (hBl) _).trans ((hb2).mono (hBl).size))
      go_wp2_with (first | (go_at_call 22; refine (cS _).mono ?_; rintro e w3 ⟨rfl, hb3⟩; have q3 : Below w.heap.size w w3 := (by first | exact (q2).trans ((hb3).mono (q2).size) | exact (q2).drew.trans ((hb3).mono (q2).size) | exact (below_drewN (q2) _).trans ((hb3).mono (q2).size)); have hBx3 : Boxed w3 w.heap.size G := hBx2.below hb3; obtain ⟨z0, z1, z2, z3, z4, z5, z6, z7, z8⟩ := id hBx3; obtain ⟨c4, w4, hcv4, hc4, hb4, hr4⟩ := conv_bytes w3 s; have q4 : Below w.heap.size w w4 := (by first | exact (q3).trans ((hb4).mono (q3).size) | exact (q3).drew.trans ((hb4).mono (q3).size) | exact (below_drewN (q3) _).trans ((hb4).mono (q3).size)); have HR4 := Lib.hid hr4; clear hr4) | (go_at_call 23; refine (cB _ _ _ HR4.out hc4).mono ?_; rintro e w5 ⟨rfl, hb5⟩; have q5 : Below w.heap.size w w5 := (by first | exact (q4).trans ((hb5).mono (q4).size) | exact (q4).drew.trans ((hb5).mono (q4).size) | exact (below_drewN (q4) _).trans ((hb5).mono (q4).size))))
      go_ret
      exact ⟨rfl, q5⟩
    · have cP := fun W => specBytes_open G hok s U W (by omega) hsh hor
      obtain ⟨R, hR⟩ : ∃ R, padOf G (hexOf G U (cutOf G s)) = R := ⟨_, rfl⟩
      rw [hR] at cS cB
      clear hR hor hsh
      go_enter Try.func7, Try.ntmps7
      go_wp2_with (go_at_call 11; refine (cC _).mono ?_; rintro e w1 ⟨rfl, hb1⟩; obtain ⟨hc1, hf1⟩ := bcell hb1)
      have hBx : Boxed (refilled w1 w.heap.size G) w.heap.size G := Boxed.refill (F := F) (Boxed.below (by unfold Boxed; simp) hb1) G
      have hBl : Below w.heap.size w (refilled w1 w.heap.size G) := below_refilled (Below.trans (by repeat (first | (with_reducible refine Below.drew ?_) | (with_reducible refine below_drewN ?_ _) | (with_reducible refine Below.alloc ?_ (by first | (simp; done) | (simp; omega)) _) | (with_reducible refine Below.setCell ?_ (by first | (simp; done) | (simp; omega)) _) | with_reducible exact Below.refl _ _)) (hb1.mono (by first | (simp; done) | (simp; omega)))) (Nat.le_refl _) G
      change Calls _ _ _ (refilled w1 w.heap.size G) _
      generalize refilled w1 w.heap.size G = W at *
      clear hb1 hc1 hf1
      obtain ⟨x0, x1, x2, x3, x4, x5, x6, x7, x8⟩ := id hBx
      have HBx := Lib.hid hBx
      clear hBx
      refine (cP W).mono ?_
      rintro e w2 ⟨rfl, hb2⟩
      have hBx2 : Boxed w2 w.heap.size G := HBx.out.below hb2
      obtain ⟨y0, y1, y2, y3, y4, y5, y6, y7, y8⟩ := id hBx2
      have q2 : Below w.heap.size w w2 := (by first | exact (hBl).trans ((hb2).mono (hBl).size) | exact (hBl).drew.trans ((hb2).mono (hBl).size) | exact (below_drewN (hBl) _).trans ((hb2).mono (hBl).size))
      go_wp2_with (first | (go_at_call 22; refine (cS _).mono ?_; rintro e w3 ⟨rfl, hb3⟩; have q3 : Below w.heap.size w w3 := (by first | exact (q2).trans ((hb3).mono (q2).size) | exact (q2).drew.trans ((hb3).mono (q2).size) | exact (below_drewN (q2) _).trans ((hb3).mono (q2).size)); have hBx3 : Boxed w3 w.heap.size G := hBx2.below hb3; obtain ⟨z0, z1, z2, z3, z4, z5, z6, z7, z8⟩ := id hBx3; obtain ⟨c4, w4, hcv4, hc4, hb4, hr4⟩ := conv_bytes w3 s; have q4 : Below w.heap.size w w4 := (by first | exact (q3).trans ((hb4).mono (q3).size) | exact (q3).drew.trans ((hb4).mono (q3).size) | exact (below_drewN (q3) _).trans ((hb4).mono (q3).size)); have HR4 := Lib.hid hr4; clear hr4) | (go_at_call 23; refine (cB _ _ _ HR4.out hc4).mono ?_; rintro e w5 ⟨rfl, hb5⟩; have q5 : Below w.heap.size w w5 := (by first | exact (q4).trans ((hb5).mono (q4).size) | exact (q4).drew.trans ((hb5).mono (q4).size) | exact (below_drewN (q4) _).trans ((hb5).mono (q4).size))))
      go_ret
      exact ⟨rfl, q5⟩

end Go.Proofs.Ytdadbfehackfjaa
