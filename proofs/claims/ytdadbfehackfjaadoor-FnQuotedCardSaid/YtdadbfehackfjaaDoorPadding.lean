/- The walk of (*fmt).writePadding: behind the call the buffer holds n bytes more, spaces or noughts as the flags say; n at most 0: it is as it was. Conditions: the text and what is added take no more than 2^40 bytes. -/
import Derived.Test.YtdadbfehackfjaaDoorOwn
import Derived.Laws.CopyOwn
set_option linter.unusedVariables false
set_option linter.unusedSimpArgs false
namespace Go.Proofs.YtdadbfehackfjaaDoor
open Go.RowKit Go.Deep

section
variable {W0 w : World} {o f : Nat} {F : Fl} {I : List Value} {s : ByteArray}

/-- What stays as it is while the buffer's row is written: the old memory, the buffer's cell, the formatter. -/
structure Held (W0 w : World) (o f : Nat) (F : Fl) (I : List Value) (v : Value) : Prop where
  bel : Near W0.heap.size o f W0 w
  ob : w.heap[o]? = some (.cells #[v] 55 (0, 0))
  fm : w.heap[f]? = some (.cells (fmCells o F I) 67 (0, 0))

theorem Held.grown {w' : World} {v : Value} {g : Nat} (h : Held W0 w o f F I v) (hg : w.grownBy w' (some g)) (hB : W0.heap.size ≤ g) (ho : g ≠ o) (hf : g ≠ f) : Held W0 w' o f F I v :=
  ⟨h.bel.grown hg h.bel.size (fun k hk => by injection hk with hk; omega), (hg.block o (heap_lt h.ob) (fun e => ho (by injection e with e; exact e.symm))).trans h.ob, (hg.block f (heap_lt h.fm) (fun e => hf (by injection e with e; exact e.symm))).trans h.fm⟩
theorem Held.alloc {v : Value} (h : Held W0 w o f F I v) (x : Obj) : Held W0 (w.alloc x) o f F I v :=
  ⟨h.bel.alloc h.bel.size x, (Below.heap_alloc w x o (heap_lt h.ob)).trans h.ob, (Below.heap_alloc w x f (heap_lt h.fm)).trans h.fm⟩
theorem Held.fcell {v : Value} (h : Held W0 w o f F I v) (i : Nat) : w.cell? ⟨f, i, none⟩ = (fmCells o F I)[i]? := cell_of_row w f i _ _ (0, 0) h.fm
theorem Held.ocell {v : Value} (h : Held W0 w o f F I v) : w.cell? ⟨o, 0, none⟩ = some v := cell_of_row w o 0 _ _ (0, 0) h.ob
theorem Held.ofree {v : Value} (h : Held W0 w o f F I v) (i : Nat) : w.frozen? ⟨o, i, none⟩ = false := by
  have := h.ob
  simp [World.frozen?, this]
theorem Held.ne {v : Value} (h : Held W0 w o f F I v) : o ≠ f := by
  rintro rfl
  have h1 := h.ob
  rw [h.fm] at h1
  injection h1 with h1; injection h1 with _ ht
  exact absurd ht (by decide)
theorem Held.own {v : Value} {g n cap : Nat} {xs : List Value} (h : Held W0 w o f F I v) (ho : w.ownsRow W0.heap.size 5 1 (.slice (some ⟨g, 0, none⟩) n cap) n xs) : g ≠ o ∧ g ≠ f :=
  ⟨fun e => own_ne ho h.ob (by decide) (by rw [← e]; rfl), fun e => own_ne ho h.fm (by decide) (by rw [← e]; rfl)⟩
/-- The new slice is stored. -/
theorem Held.put {v v' : Value} {t : ByteArray} (h : Held W0 w o f F I v) (ho : w.ownsRow W0.heap.size 5 1 v' t.size (Lib.strCells t)) : St W0 (w.setCell ⟨o, 0, none⟩ v') o f F I t := by
  have hno : some o ≠ v'.ownBlock := own_ne ho h.ob (by decide)
  refine ⟨h.bel.setCell (.inl rfl) _, ?_, v', ?_, ?_⟩
  · rw [Below.heap_setCell _ _ _ _ (fun e => h.ne e.symm)]; exact h.fm
  · have := h.ob
    simp [World.setCell, Array.getElem?_modify, this]
  · obtain ⟨h1, h2⟩ := ho
    refine ⟨h1, ?_⟩
    rcases h2 with h2 | ⟨g, cap, cur, rfl, hB, hh, r⟩
    · exact .inl h2
    · refine .inr ⟨g, cap, cur, rfl, hB, ?_, r⟩
      rw [Below.heap_setCell _ _ _ _ (fun e => hno (congrArg some e.symm))]; exact hh
theorem Held.of (h : St W0 w o f F I s) : ∃ v, Held W0 w o f F I v ∧ w.ownsRow W0.heap.size 5 1 v s.size (Lib.strCells s) := by
  obtain ⟨v, hv, ho⟩ := h.ob
  exact ⟨v, ⟨h.bel, hv, h.fm⟩, ho⟩

/-- One more cell, into the spare of a row that the call owns. -/
theorem own_push {B g n cap : Nat} {xs : List Value} (h : w.ownsRow B 5 1 (.slice (some ⟨g, 0, none⟩) n cap) n xs) (hn : n < cap) (u : Value) :
    (∃ u', w.cell? ⟨g, n, none⟩ = some u') ∧ w.frozen? ⟨g, n, none⟩ = false ∧ (w.setCell ⟨g, n, none⟩ u).ownsRow B 5 1 (.slice (some ⟨g, 0, none⟩) (n + 1) cap) (n + 1) (xs ++ [u]) ∧ w.grownBy (w.setCell ⟨g, n, none⟩ u) (some g) := by
  have hfz := h.frozenAt n
  rcases h.2 with ⟨h', _⟩ | ⟨g', cap', cur, h', hB, hg, hnc, hcm, hcs, htake⟩
  · simp at h'
  · simp only [Value.slice.injEq, Option.some.injEq, Addr.mk.injEq, and_true, true_and] at h'
    obtain ⟨rfl, rfl⟩ := h'
    have hcs' : cur.size = cap := by simpa using hcs
    have htk : cur.toList.take n = xs := by simpa using htake
    have hc : w.cell? ⟨g, n, none⟩ = cur[n]? := cell_of_row w g n cur 5 (0, 0) hg
    have hx : xs.length = n := by simpa using h.1
    have hset : (w.setCell ⟨g, n, none⟩ u).heap[g]? = some (.cells (cur.setIfInBounds n u) 5 (0, 0)) := by
      simp [World.setCell, Array.getElem?_modify, hg]
    refine ⟨⟨cur[n]'(by omega), by rw [hc]; exact Array.getElem?_eq_getElem (by omega)⟩, hfz, ⟨by simp [hx], .inr ⟨g, cap, _, rfl, hB, hset, by omega, hcm, by simpa using hcs, ?_⟩⟩, ⟨rfl, rfl, rfl, by simp [World.setCell], fun k _ hk => Below.heap_setCell _ _ _ _ (fun e => hk (by rw [e]))⟩⟩
    have e1 : (cur.setIfInBounds n u).toList = cur.toList.set n u := by simp
    rw [e1, Nat.mul_one, List.take_succ_eq_append_getElem (by simp; omega)]
    have e2 : (cur.toList.set n u).take n = xs := by rw [List.take_set_of_le (Nat.le_refl n)]; exact htk
    rw [e2]
    simp

/-- A row that has just been made holds noughts; then what the old slice holds is copied to its head. -/
theorem run_copy_buf {P : Program} (dT sT ty : TypeId) (hu : P.underlying dT = some (.slice 5)) (hsz : (P.info? 5).map (·.size) = some 1)
    (g C B : Nat) (v : Value) (n : Nat) (xs : List Value) (hown : w.ownsRow B 5 1 v n xs)
    (cur : Array Value) (hg : w.heap[g]? = some (.cells cur 5 (0, 0))) (hcur : cur.size = C) (hn : n ≤ C) (hC : C ≤ maxLen) (hB : B ≤ g) (hx1 : ∀ x ∈ xs, x.oneCell' = true) :
    ∃ w', (Builtin.copy_ #[dT, sT] ty #[.slice (some ⟨g, 0, none⟩) C C, v]).run P w = .ok (goInt n) w' ∧ w'.ownsRow B 5 1 (.slice (some ⟨g, 0, none⟩) n C) n xs ∧ w.grownBy w' (some g) := by
  rcases hown.2 with ⟨rfl, rfl⟩ | ⟨g', cap, cur', rfl, hb', hg', hnc, hcm, hcs, htake⟩
  · have hx : xs = [] := List.eq_nil_of_length_eq_zero (by simpa using hown.1)
    subst hx
    exact ⟨w, run_copy_none (P := P) w dT sT ty 5 _ _ C C 0 0 hu hsz (by simp), ⟨by simp, .inr ⟨g, C, cur, rfl, hB, hg, by omega, hC, by omega, by simp⟩⟩, World.grownBy.refl w _⟩
  · have hxl : xs.length = n := by simpa using hown.1
    have hrun := run_copy_row (P := P) w dT sT ty 5 g 0 C C ⟨g', 0, none⟩ n cap cur 5 xs hu hsz hg (by rw [hxl]; exact (Nat.min_eq_left hn).symm) (hown.cells (g := g') rfl) (by omega) hx1
    rw [hxl] at hrun
    refine ⟨_, hrun, ⟨by omega, .inr ⟨g, C, _, rfl, hB, setRow_heap w g cur _ 5 _ hg, hn, hC, ?_, ?_⟩⟩, ⟨rfl, rfl, rfl, by simp, fun k _ hk => setRow_other w g k _ (fun e => hk (by rw [e]))⟩⟩
    · simp only [List.take_zero, List.nil_append, List.size_toArray, List.length_append, List.length_drop, Array.length_toList]; omega
    · simp only [List.take_zero, List.nil_append, Nat.mul_one]
      exact List.take_left' hxl

end

theorem strCells_fill (s : ByteArray) (c : UInt8) (n : Nat) : Lib.strCells (s ++ fill c n) = Lib.strCells s ++ List.replicate n (Value.int .u8 (c.toNat : Int)) := by
  rw [strCells_app]; simp [Lib.strCells, fill]
theorem rep_snoc (xs : List Value) (k : Nat) (u : Value) : xs ++ List.replicate k u ++ [u] = xs ++ List.replicate (k + 1) u := by
  rw [List.append_assoc, List.replicate_succ']

def padByte (ze mi : Bool) : UInt8 := if ze && !mi then 48 else 32

set_option maxHeartbeats 1000000 in
set_option maxRecDepth 100000 in
theorem padding_none (w : World) (f : Nat) (n : Int) (hn : n ≤ 0) :
    Calls Tryd.prog 58 #[.pointer (some ⟨f, 0, none⟩), .int .i64 n] w fun e w' => e = .returned (.tuple #[]) ∧ w = w' := by
  go_enter Tryd.func58, Tryd.ntmps58
  go_wp2
  exact bodyPost_ret (results_none rfl _ _ _) rfl ⟨rfl, rfl⟩

set_option maxHeartbeats 2000000 in
set_option maxRecDepth 100000 in
theorem padding_room {W0 w : World} {o f : Nat} {F : Fl} {I : List Value} {s : ByteArray} (n : Nat) (hn : 0 < n) (hsn : s.size + n ≤ 1099511627776) (pb : UInt8) (hpb : padByte F.ze F.mi = pb) {g cap : Nat} (hh : Held W0 w o f F I (.slice (some ⟨g, 0, none⟩) s.size cap)) (ho : w.ownsRow W0.heap.size 5 1 (.slice (some ⟨g, 0, none⟩) s.size cap) s.size (Lib.strCells s)) (hroom : s.size + n ≤ cap) :
    Calls Tryd.prog 58 #[.pointer (some ⟨f, 0, none⟩), .int .i64 (n : Int)] w fun e w' => e = .returned (.tuple #[]) ∧ St W0 w' o f F I (s ++ fill pb n) := by
  have hne := hh.own ho
  have c0 : w.cell? ⟨f, 0, none⟩ = some (.pointer (some ⟨o, 0, none⟩)) := hh.fcell 0
  have c3 : w.cell? ⟨f, 3, none⟩ = some (.bool F.mi) := hh.fcell 3
  have c7 : w.cell? ⟨f, 7, none⟩ = some (.bool F.ze) := hh.fcell 7
  have co := hh.ocell
  obtain ⟨L, hL⟩ : ∃ L, s.size = L := ⟨_, rfl⟩
  obtain ⟨xs, hxs⟩ : ∃ xs, Lib.strCells s = xs := ⟨_, rfl⟩
  have hfin : Hid (Lib.strCells (s ++ fill pb n) = xs ++ List.replicate n (Value.int .u8 (pb.toNat : Int)) ∧ (s ++ fill pb n).size = L + n) := ⟨by rw [strCells_fill, hxs], by rw [size_app, fill_size, hL]⟩
  rw [hL, hxs] at ho
  rw [hL] at co hsn hroom
  have hcap : cap ≤ 9223372036854775807 := by
    rcases ho.2 with ⟨h', _⟩ | ⟨g', cap', cur, h', _, _, _, hcm, _⟩
    · simp at h'
    · simp only [Value.slice.injEq, Option.some.injEq, Addr.mk.injEq, and_true, true_and] at h'
      obtain ⟨_, rfl⟩ := h'
      simpa [maxLen] using hcm
  have hhL : Held W0 w o f F I (.slice (some ⟨g, 0, none⟩) L cap) := by rw [← hL]; exact hh
  have HH := Lib.hid hhL
  have HO := Lib.hid ho
  have HN := Lib.hid hne
  clear hh hhL ho hne hL hxs
  have i1 : (0 : Int) ≤ (L : Int) := by omega
  have i2 : (L : Int) ≤ ((L : Int) + (n : Int)) := by omega
  have i3 : (L : Int) + (n : Int) ≤ (cap : Int) := by omega
  have i4 : (0 : Int) < (n : Int) := by omega
  have i5 : ¬ (cap < L + n) := by omega
  have i6 : ¬ cap = L := by omega
  have i7 : ((L : Int) + (n : Int)).toNat = L + n := by omega
  clear hroom
  rcases hz : F.ze with _ | _
  · have hp0 : pb = 32 := by rw [← hpb, hz]; rfl
    rw [hz] at c7
    clear hz hpb
    subst hp0
    have hfin2 : Hid (Lib.strCells (s ++ fill 32 n) = xs ++ List.replicate n (Value.int .u8 32) ∧ (s ++ fill 32 n).size = L + n) := hfin.out
    clear hfin
    go_enter Tryd.func58, Tryd.ntmps58
    go_wp2
    go_loopw [9, 60] (fun _ vi wr => ∃ k : Nat, k ≤ n ∧ vi = .int .i64 k ∧ Hid (wr.ownsRow W0.heap.size 5 1 (.slice (some ⟨g, 0, none⟩) (L + k) cap) (L + k) (xs ++ List.replicate k (Value.int .u8 32))) ∧ Hid (Held W0 wr o f F I (.slice (some ⟨g, 0, none⟩) L cap))) (fun _ vi _ => n - (intOf vi).toNat)
    case atStart => exact ⟨0, by omega, rfl, by simpa [Hid] using HO.out, HH.out⟩
    case round =>
      obtain ⟨k, hk, rfl, HOr, HHr⟩ := hrel
      clear c0 c3 c7 co
      by_cases hkn : k < n
      · have hkn' : (k : Int) < (n : Int) := by omega
        have hp := own_push HOr.out (by omega) (.int .u8 32)
        obtain ⟨⟨u', hu'⟩, hfz, ho2, hg2⟩ := hp
        have HO2 := Lib.hid ho2
        have HH2 := Lib.hid (HHr.out.grown hg2 (by have := HOr.out.lt g rfl; exact this.1) HN.out.1 HN.out.2)
        clear ho2 hg2
        go_wp2
        go_roundw
        case rel =>
          refine ⟨k + 1, by omega, by go_num, ?_, HH2.out⟩
          have := HO2.out
          rw [rep_snoc] at this
          exact this
        case measure => simp [intOf]; omega
      · obtain rfl : k = n := by omega
        have hkn' : ¬ ((k : Int) < (k : Int)) := by omega
        have c0 : wr.cell? ⟨f, 0, none⟩ = some (.pointer (some ⟨o, 0, none⟩)) := HHr.out.fcell 0
        have co := HHr.out.ocell
        have cz := HHr.out.ofree 0
        go_wp2
        go_region
        all_goals (
          go_wp2
          go_end0
          refine ⟨rfl, ?_⟩
          have hO := HOr.out
          rw [← hfin2.out.1] at hO
          rw [← hfin2.out.2] at hO ⊢
          exact (HHr.out.put hO).drew)
  · rcases hm : F.mi with _ | _
    · have hp0 : pb = 48 := by rw [← hpb, hz, hm]; rfl
      rw [hz] at c7
      rw [hm] at c3
      clear hz hm hpb
      subst hp0
      have hfin2 : Hid (Lib.strCells (s ++ fill 48 n) = xs ++ List.replicate n (Value.int .u8 48) ∧ (s ++ fill 48 n).size = L + n) := hfin.out
      clear hfin
      go_enter Tryd.func58, Tryd.ntmps58
      go_wp2
      go_loopw [9, 60] (fun _ vi wr => ∃ k : Nat, k ≤ n ∧ vi = .int .i64 k ∧ Hid (wr.ownsRow W0.heap.size 5 1 (.slice (some ⟨g, 0, none⟩) (L + k) cap) (L + k) (xs ++ List.replicate k (Value.int .u8 48))) ∧ Hid (Held W0 wr o f F I (.slice (some ⟨g, 0, none⟩) L cap))) (fun _ vi _ => n - (intOf vi).toNat)
      case atStart => exact ⟨0, by omega, rfl, by simpa [Hid] using HO.out, HH.out⟩
      case round =>
        obtain ⟨k, hk, rfl, HOr, HHr⟩ := hrel
        clear c0 c3 c7 co
        by_cases hkn : k < n
        · have hkn' : (k : Int) < (n : Int) := by omega
          have hp := own_push HOr.out (by omega) (.int .u8 48)
          obtain ⟨⟨u', hu'⟩, hfz, ho2, hg2⟩ := hp
          have HO2 := Lib.hid ho2
          have HH2 := Lib.hid (HHr.out.grown hg2 (by have := HOr.out.lt g rfl; exact this.1) HN.out.1 HN.out.2)
          clear ho2 hg2
          go_wp2
          go_roundw
          case rel =>
            refine ⟨k + 1, by omega, by go_num, ?_, HH2.out⟩
            have := HO2.out
            rw [rep_snoc] at this
            exact this
          case measure => simp [intOf]; omega
        · obtain rfl : k = n := by omega
          have hkn' : ¬ ((k : Int) < (k : Int)) := by omega
          have c0 : wr.cell? ⟨f, 0, none⟩ = some (.pointer (some ⟨o, 0, none⟩)) := HHr.out.fcell 0
          have co := HHr.out.ocell
          have cz := HHr.out.ofree 0
          go_wp2
          go_region
          all_goals (
            go_wp2
            go_end0
            refine ⟨rfl, ?_⟩
            have hO := HOr.out
            rw [← hfin2.out.1] at hO
            rw [← hfin2.out.2] at hO ⊢
            exact (HHr.out.put hO).drew)
    · have hp0 : pb = 32 := by rw [← hpb, hz, hm]; rfl
      rw [hz] at c7
      rw [hm] at c3
      clear hz hm hpb
      subst hp0
      have hfin2 : Hid (Lib.strCells (s ++ fill 32 n) = xs ++ List.replicate n (Value.int .u8 32) ∧ (s ++ fill 32 n).size = L + n) := hfin.out
      clear hfin
      go_enter Tryd.func58, Tryd.ntmps58
      go_wp2
      go_loopw [9, 60] (fun _ vi wr => ∃ k : Nat, k ≤ n ∧ vi = .int .i64 k ∧ Hid (wr.ownsRow W0.heap.size 5 1 (.slice (some ⟨g, 0, none⟩) (L + k) cap) (L + k) (xs ++ List.replicate k (Value.int .u8 32))) ∧ Hid (Held W0 wr o f F I (.slice (some ⟨g, 0, none⟩) L cap))) (fun _ vi _ => n - (intOf vi).toNat)
      case atStart => exact ⟨0, by omega, rfl, by simpa [Hid] using HO.out, HH.out⟩
      case round =>
        obtain ⟨k, hk, rfl, HOr, HHr⟩ := hrel
        clear c0 c3 c7 co
        by_cases hkn : k < n
        · have hkn' : (k : Int) < (n : Int) := by omega
          have hp := own_push HOr.out (by omega) (.int .u8 32)
          obtain ⟨⟨u', hu'⟩, hfz, ho2, hg2⟩ := hp
          have HO2 := Lib.hid ho2
          have HH2 := Lib.hid (HHr.out.grown hg2 (by have := HOr.out.lt g rfl; exact this.1) HN.out.1 HN.out.2)
          clear ho2 hg2
          go_wp2
          go_roundw
          case rel =>
            refine ⟨k + 1, by omega, by go_num, ?_, HH2.out⟩
            have := HO2.out
            rw [rep_snoc] at this
            exact this
          case measure => simp [intOf]; omega
        · obtain rfl : k = n := by omega
          have hkn' : ¬ ((k : Int) < (k : Int)) := by omega
          have c0 : wr.cell? ⟨f, 0, none⟩ = some (.pointer (some ⟨o, 0, none⟩)) := HHr.out.fcell 0
          have co := HHr.out.ocell
          have cz := HHr.out.ofree 0
          go_wp2
          go_region
          all_goals (
            go_wp2
            go_end0
            refine ⟨rfl, ?_⟩
            have hO := HOr.out
            rw [← hfin2.out.1] at hO
            rw [← hfin2.out.2] at hO ⊢
            exact (HHr.out.put hO).drew)

set_option maxHeartbeats 2000000 in
set_option maxRecDepth 100000 in
theorem padding_make {W0 w : World} {o f : Nat} {F : Fl} {I : List Value} {s : ByteArray} (n : Nat) (hn : 0 < n) (hsn : s.size + n ≤ 1099511627776) (pb : UInt8) (hpb : padByte F.ze F.mi = pb) {g cap : Nat} (hh : Held W0 w o f F I (.slice (some ⟨g, 0, none⟩) s.size cap)) (ho : w.ownsRow W0.heap.size 5 1 (.slice (some ⟨g, 0, none⟩) s.size cap) s.size (Lib.strCells s)) (hroom : cap < s.size + n) :
    Calls Tryd.prog 58 #[.pointer (some ⟨f, 0, none⟩), .int .i64 (n : Int)] w fun e w' => e = .returned (.tuple #[]) ∧ St W0 w' o f F I (s ++ fill pb n) := by
  have hne := hh.own ho
  have c0 : w.cell? ⟨f, 0, none⟩ = some (.pointer (some ⟨o, 0, none⟩)) := hh.fcell 0
  have c3 : w.cell? ⟨f, 3, none⟩ = some (.bool F.mi) := hh.fcell 3
  have c7 : w.cell? ⟨f, 7, none⟩ = some (.bool F.ze) := hh.fcell 7
  have co := hh.ocell
  have hfw : f < w.heap.size := heap_lt hh.fm
  have how : o < w.heap.size := heap_lt hh.ob
  obtain ⟨L, hL⟩ : ∃ L, s.size = L := ⟨_, rfl⟩
  obtain ⟨xs, hxs⟩ : ∃ xs, Lib.strCells s = xs := ⟨_, rfl⟩
  have hone : Hid (∀ x ∈ xs, x.oneCell' = true) := by rw [← hxs]; exact Lib.strCells_oneCell s
  have hfin : Hid (Lib.strCells (s ++ fill pb n) = xs ++ List.replicate n (Value.int .u8 (pb.toNat : Int)) ∧ (s ++ fill pb n).size = L + n) := ⟨by rw [strCells_fill, hxs], by rw [size_app, fill_size, hL]⟩
  rw [hL, hxs] at ho
  rw [hL] at co hsn hroom
  have HBw := Lib.hid hh.bel.size
  have HN : Hid (w.heap.size ≠ o ∧ w.heap.size ≠ f) := ⟨by omega, by omega⟩
  have HO := Lib.hid ho
  have hcl : L ≤ cap := by
    rcases ho.2 with ⟨h', _⟩ | ⟨g', cap', cur, h', _, _, hnc, _⟩
    · simp at h'
    · simp only [Value.slice.injEq, Option.some.injEq, Addr.mk.injEq, and_true, true_and] at h'
      obtain ⟨_, rfl⟩ := h'
      exact hnc
  have hhL : Held W0 w o f F I (.slice (some ⟨g, 0, none⟩) L cap) := by rw [← hL]; exact hh
  have HH := Lib.hid hhL
  clear hh hhL ho hne hL hxs
  obtain ⟨C, hC⟩ : ∃ C, C = cap * 2 + n := ⟨_, rfl⟩
  have hLC : L ≤ C := by omega
  have hCM : C ≤ maxLen := by unfold maxLen; omega
  have hmk : ∀ W, (Instr.makeSlice 55 (.int .i64 ((cap : Int) * 2 + (n : Int))) (.int .i64 ((cap : Int) * 2 + (n : Int)))).run Tryd.prog W = .ok (.slice (some ⟨W.heap.size, 0, none⟩) C C) (W.alloc (.cells (madeCells #[.int .u8 0] C) 5)) := fun W => by
    rw [show ((cap : Int) * 2 + (n : Int)) = ((C : Nat) : Int) by omega]
    exact run_make_row' (P := Tryd.prog) 55 5 (.int .u8 0) 1 Tryd.underlying55 Tryd.info5 rfl .i64 .i64 C (by omega) (by omega) W
  have i1 : (0 : Int) ≤ (L : Int) := by omega
  have i2 : (L : Int) ≤ ((L : Int) + (n : Int)) := by omega
  have i3 : (L : Int) + (n : Int) ≤ (C : Int) := by omega
  have i4 : (0 : Int) < (n : Int) := by omega
  have i5 : (cap : Int) < (L : Int) + (n : Int) := by omega
  have i6 : ¬ C = L := by omega
  have i7 : ((L : Int) + (n : Int)).toNat = L + n := by omega
  have i8 : (cap : Int) ≤ 1099511627776 := by omega
  have i9 : (C : Int) ≤ 4398046511104 := by omega
  clear hC hroom hcl
  rcases hz : F.ze with _ | _
  · have hp0 : pb = 32 := by rw [← hpb, hz]; rfl
    have Hze := Lib.hid hz
    obtain ⟨mi, hm⟩ : ∃ mi, F.mi = mi := ⟨_, rfl⟩
    have Hmi := Lib.hid hm
    rw [hz] at c7
    rw [hm] at c3
    clear hz hm hpb
    subst hp0
    have hfin2 : Hid (Lib.strCells (s ++ fill 32 n) = xs ++ List.replicate n (Value.int .u8 32) ∧ (s ++ fill 32 n).size = L + n) := hfin.out
    clear hfin
    obtain ⟨w2, hcopy, ho2, hg2⟩ := run_copy_buf (P := Tryd.prog) (w := w.alloc (.cells (madeCells #[.int .u8 0] C) 5)) 55 55 3 Tryd.underlying55 (by kernel_rfl) w.heap.size C W0.heap.size (.slice (some ⟨g, 0, none⟩) L cap) L xs (HO.out.alloc _) (madeCells #[.int .u8 0] C) (heap_alloc_new w _) (size_madeCells _ _) hLC hCM HBw.out hone.out
    have HO2 := Lib.hid ho2
    have HH2 := Lib.hid ((HH.out.alloc (.cells (madeCells #[.int .u8 0] C) 5)).grown hg2 HBw.out HN.out.1 HN.out.2)
    have d0 : w2.cell? ⟨f, 0, none⟩ = some (.pointer (some ⟨o, 0, none⟩)) := HH2.out.fcell 0
    have d3 : w2.cell? ⟨f, 3, none⟩ = some (.bool mi) := by rw [HH2.out.fcell 3]; show some (Value.bool F.mi) = _; rw [Hmi.out]
    have d7 : w2.cell? ⟨f, 7, none⟩ = some (.bool false) := by rw [HH2.out.fcell 7]; show some (Value.bool F.ze) = _; rw [Hze.out]
    clear ho2 hg2
    go_enter Tryd.func58, Tryd.ntmps58
    go_wp2
    go_loopw [9, 60] (fun _ vi wr => ∃ k : Nat, k ≤ n ∧ vi = .int .i64 k ∧ Hid (wr.ownsRow W0.heap.size 5 1 (.slice (some ⟨w.heap.size, 0, none⟩) (L + k) C) (L + k) (xs ++ List.replicate k (Value.int .u8 32))) ∧ Hid (Held W0 wr o f F I (.slice (some ⟨g, 0, none⟩) L cap))) (fun _ vi _ => n - (intOf vi).toNat)
    case atStart => exact ⟨0, by omega, rfl, by simpa [Hid] using HO2.out, HH2.out⟩
    case round =>
      obtain ⟨k, hk, rfl, HOr, HHr⟩ := hrel
      clear c0 c3 c7 co d0 d3 d7 HO2 HH2 hmk hcopy
      by_cases hkn : k < n
      · have hkn' : (k : Int) < (n : Int) := by omega
        have hp := own_push HOr.out (by omega) (.int .u8 32)
        obtain ⟨⟨u', hu'⟩, hfz, ho2, hg2⟩ := hp
        have HO2 := Lib.hid ho2
        have HH2 := Lib.hid (HHr.out.grown hg2 (by have := HOr.out.lt w.heap.size rfl; exact this.1) HN.out.1 HN.out.2)
        clear ho2 hg2
        go_wp2
        go_roundw
        case rel =>
          refine ⟨k + 1, by omega, by go_num, ?_, HH2.out⟩
          have := HO2.out
          rw [rep_snoc] at this
          exact this
        case measure => simp [intOf]; omega
      · obtain rfl : k = n := by omega
        have hkn' : ¬ ((k : Int) < (k : Int)) := by omega
        have c0 : wr.cell? ⟨f, 0, none⟩ = some (.pointer (some ⟨o, 0, none⟩)) := HHr.out.fcell 0
        have co := HHr.out.ocell
        have cz := HHr.out.ofree 0
        go_wp2
        go_region
        all_goals (
          go_wp2
          go_end0
          refine ⟨rfl, ?_⟩
          have hO := HOr.out
          rw [← hfin2.out.1] at hO
          rw [← hfin2.out.2] at hO ⊢
          exact (HHr.out.put hO).drew)
  · rcases hm : F.mi with _ | _
    · have hp0 : pb = 48 := by rw [← hpb, hz, hm]; rfl
      have Hze := Lib.hid hz
      have Hmi := Lib.hid hm
      rw [hz] at c7
      rw [hm] at c3
      clear hz hm hpb
      subst hp0
      have hfin2 : Hid (Lib.strCells (s ++ fill 48 n) = xs ++ List.replicate n (Value.int .u8 48) ∧ (s ++ fill 48 n).size = L + n) := hfin.out
      clear hfin
      obtain ⟨w2, hcopy, ho2, hg2⟩ := run_copy_buf (P := Tryd.prog) (w := w.alloc (.cells (madeCells #[.int .u8 0] C) 5)) 55 55 3 Tryd.underlying55 (by kernel_rfl) w.heap.size C W0.heap.size (.slice (some ⟨g, 0, none⟩) L cap) L xs (HO.out.alloc _) (madeCells #[.int .u8 0] C) (heap_alloc_new w _) (size_madeCells _ _) hLC hCM HBw.out hone.out
      have HO2 := Lib.hid ho2
      have HH2 := Lib.hid ((HH.out.alloc (.cells (madeCells #[.int .u8 0] C) 5)).grown hg2 HBw.out HN.out.1 HN.out.2)
      have d0 : w2.cell? ⟨f, 0, none⟩ = some (.pointer (some ⟨o, 0, none⟩)) := HH2.out.fcell 0
      have d3 : w2.cell? ⟨f, 3, none⟩ = some (.bool false) := by rw [HH2.out.fcell 3]; show some (Value.bool F.mi) = _; rw [Hmi.out]
      have d7 : w2.cell? ⟨f, 7, none⟩ = some (.bool true) := by rw [HH2.out.fcell 7]; show some (Value.bool F.ze) = _; rw [Hze.out]
      clear ho2 hg2
      go_enter Tryd.func58, Tryd.ntmps58
      go_wp2
      go_loopw [9, 60] (fun _ vi wr => ∃ k : Nat, k ≤ n ∧ vi = .int .i64 k ∧ Hid (wr.ownsRow W0.heap.size 5 1 (.slice (some ⟨w.heap.size, 0, none⟩) (L + k) C) (L + k) (xs ++ List.replicate k (Value.int .u8 48))) ∧ Hid (Held W0 wr o f F I (.slice (some ⟨g, 0, none⟩) L cap))) (fun _ vi _ => n - (intOf vi).toNat)
      case atStart => exact ⟨0, by omega, rfl, by simpa [Hid] using HO2.out, HH2.out⟩
      case round =>
        obtain ⟨k, hk, rfl, HOr, HHr⟩ := hrel
        clear c0 c3 c7 co d0 d3 d7 HO2 HH2 hmk hcopy
        by_cases hkn : k < n
        · have hkn' : (k : Int) < (n : Int) := by omega
          have hp := own_push HOr.out (by omega) (.int .u8 48)
          obtain ⟨⟨u', hu'⟩, hfz, ho2, hg2⟩ := hp
          have HO2 := Lib.hid ho2
          have HH2 := Lib.hid (HHr.out.grown hg2 (by have := HOr.out.lt w.heap.size rfl; exact this.1) HN.out.1 HN.out.2)
          clear ho2 hg2
          go_wp2
          go_roundw
          case rel =>
            refine ⟨k + 1, by omega, by go_num, ?_, HH2.out⟩
            have := HO2.out
            rw [rep_snoc] at this
            exact this
          case measure => simp [intOf]; omega
        · obtain rfl : k = n := by omega
          have hkn' : ¬ ((k : Int) < (k : Int)) := by omega
          have c0 : wr.cell? ⟨f, 0, none⟩ = some (.pointer (some ⟨o, 0, none⟩)) := HHr.out.fcell 0
          have co := HHr.out.ocell
          have cz := HHr.out.ofree 0
          go_wp2
          go_region
          all_goals (
            go_wp2
            go_end0
            refine ⟨rfl, ?_⟩
            have hO := HOr.out
            rw [← hfin2.out.1] at hO
            rw [← hfin2.out.2] at hO ⊢
            exact (HHr.out.put hO).drew)
    · have hp0 : pb = 32 := by rw [← hpb, hz, hm]; rfl
      have Hze := Lib.hid hz
      have Hmi := Lib.hid hm
      rw [hz] at c7
      rw [hm] at c3
      clear hz hm hpb
      subst hp0
      have hfin2 : Hid (Lib.strCells (s ++ fill 32 n) = xs ++ List.replicate n (Value.int .u8 32) ∧ (s ++ fill 32 n).size = L + n) := hfin.out
      clear hfin
      obtain ⟨w2, hcopy, ho2, hg2⟩ := run_copy_buf (P := Tryd.prog) (w := w.alloc (.cells (madeCells #[.int .u8 0] C) 5)) 55 55 3 Tryd.underlying55 (by kernel_rfl) w.heap.size C W0.heap.size (.slice (some ⟨g, 0, none⟩) L cap) L xs (HO.out.alloc _) (madeCells #[.int .u8 0] C) (heap_alloc_new w _) (size_madeCells _ _) hLC hCM HBw.out hone.out
      have HO2 := Lib.hid ho2
      have HH2 := Lib.hid ((HH.out.alloc (.cells (madeCells #[.int .u8 0] C) 5)).grown hg2 HBw.out HN.out.1 HN.out.2)
      have d0 : w2.cell? ⟨f, 0, none⟩ = some (.pointer (some ⟨o, 0, none⟩)) := HH2.out.fcell 0
      have d3 : w2.cell? ⟨f, 3, none⟩ = some (.bool true) := by rw [HH2.out.fcell 3]; show some (Value.bool F.mi) = _; rw [Hmi.out]
      have d7 : w2.cell? ⟨f, 7, none⟩ = some (.bool true) := by rw [HH2.out.fcell 7]; show some (Value.bool F.ze) = _; rw [Hze.out]
      clear ho2 hg2
      go_enter Tryd.func58, Tryd.ntmps58
      go_wp2
      go_loopw [9, 60] (fun _ vi wr => ∃ k : Nat, k ≤ n ∧ vi = .int .i64 k ∧ Hid (wr.ownsRow W0.heap.size 5 1 (.slice (some ⟨w.heap.size, 0, none⟩) (L + k) C) (L + k) (xs ++ List.replicate k (Value.int .u8 32))) ∧ Hid (Held W0 wr o f F I (.slice (some ⟨g, 0, none⟩) L cap))) (fun _ vi _ => n - (intOf vi).toNat)
      case atStart => exact ⟨0, by omega, rfl, by simpa [Hid] using HO2.out, HH2.out⟩
      case round =>
        obtain ⟨k, hk, rfl, HOr, HHr⟩ := hrel
        clear c0 c3 c7 co d0 d3 d7 HO2 HH2 hmk hcopy
        by_cases hkn : k < n
        · have hkn' : (k : Int) < (n : Int) := by omega
          have hp := own_push HOr.out (by omega) (.int .u8 32)
          obtain ⟨⟨u', hu'⟩, hfz, ho2, hg2⟩ := hp
          have HO2 := Lib.hid ho2
          have HH2 := Lib.hid (HHr.out.grown hg2 (by have := HOr.out.lt w.heap.size rfl; exact this.1) HN.out.1 HN.out.2)
          clear ho2 hg2
          go_wp2
          go_roundw
          case rel =>
            refine ⟨k + 1, by omega, by go_num, ?_, HH2.out⟩
            have := HO2.out
            rw [rep_snoc] at this
            exact this
          case measure => simp [intOf]; omega
        · obtain rfl : k = n := by omega
          have hkn' : ¬ ((k : Int) < (k : Int)) := by omega
          have c0 : wr.cell? ⟨f, 0, none⟩ = some (.pointer (some ⟨o, 0, none⟩)) := HHr.out.fcell 0
          have co := HHr.out.ocell
          have cz := HHr.out.ofree 0
          go_wp2
          go_region
          all_goals (
            go_wp2
            go_end0
            refine ⟨rfl, ?_⟩
            have hO := HOr.out
            rw [← hfin2.out.1] at hO
            rw [← hfin2.out.2] at hO ⊢
            exact (HHr.out.put hO).drew)

set_option maxHeartbeats 2000000 in
set_option maxRecDepth 100000 in
theorem padding_nil {W0 w : World} {o f : Nat} {F : Fl} {I : List Value} {s : ByteArray} (n : Nat) (hn : 0 < n) (hsn : s.size + n ≤ 1099511627776) (pb : UInt8) (hpb : padByte F.ze F.mi = pb) (hh : Held W0 w o f F I (.slice none 0 0)) (ho : w.ownsRow W0.heap.size 5 1 (.slice none 0 0) s.size (Lib.strCells s)) (hs0 : s.size = 0) :
    Calls Tryd.prog 58 #[.pointer (some ⟨f, 0, none⟩), .int .i64 (n : Int)] w fun e w' => e = .returned (.tuple #[]) ∧ St W0 w' o f F I (s ++ fill pb n) := by
  have c0 : w.cell? ⟨f, 0, none⟩ = some (.pointer (some ⟨o, 0, none⟩)) := hh.fcell 0
  have c3 : w.cell? ⟨f, 3, none⟩ = some (.bool F.mi) := hh.fcell 3
  have c7 : w.cell? ⟨f, 7, none⟩ = some (.bool F.ze) := hh.fcell 7
  have co := hh.ocell
  have hfw : f < w.heap.size := heap_lt hh.fm
  have how : o < w.heap.size := heap_lt hh.ob
  have hxs : Lib.strCells s = [] := List.eq_nil_of_length_eq_zero (by rw [Lib.strCells_length]; exact hs0)
  have hfin : Hid (Lib.strCells (s ++ fill pb n) = [] ++ List.replicate n (Value.int .u8 (pb.toNat : Int)) ∧ (s ++ fill pb n).size = n) := ⟨by rw [strCells_fill, hxs], by rw [size_app, fill_size, hs0, Nat.zero_add]⟩
  rw [hs0, hxs] at ho
  rw [hs0] at hsn
  have HBw := Lib.hid hh.bel.size
  have HN : Hid (w.heap.size ≠ o ∧ w.heap.size ≠ f) := ⟨by omega, by omega⟩
  have HO := Lib.hid ho
  have HH := Lib.hid hh
  have hone : Hid (∀ x ∈ ([] : List Value), x.oneCell' = true) := by intro x hx; simp at hx
  clear hh ho hs0 hxs
  have hLC : 0 ≤ n := by omega
  have hCM : n ≤ maxLen := by unfold maxLen; omega
  have hmk : ∀ W, (Instr.makeSlice 55 (.int .i64 (n : Int)) (.int .i64 (n : Int))).run Tryd.prog W = .ok (.slice (some ⟨W.heap.size, 0, none⟩) n n) (W.alloc (.cells (madeCells #[.int .u8 0] n) 5)) := fun W =>
    run_make_row' (P := Tryd.prog) 55 5 (.int .u8 0) 1 Tryd.underlying55 Tryd.info5 rfl .i64 .i64 n (by omega) (by omega) W
  have i4 : (0 : Int) < (n : Int) := by omega
  have i6 : ¬ n = 0 := by omega
  rcases hz : F.ze with _ | _
  · have hp0 : pb = 32 := by rw [← hpb, hz]; rfl
    have Hze := Lib.hid hz
    obtain ⟨mi, hm⟩ : ∃ mi, F.mi = mi := ⟨_, rfl⟩
    have Hmi := Lib.hid hm
    rw [hz] at c7
    rw [hm] at c3
    clear hz hm hpb
    subst hp0
    have hfin2 : Hid (Lib.strCells (s ++ fill 32 n) = [] ++ List.replicate n (Value.int .u8 32) ∧ (s ++ fill 32 n).size = n) := hfin.out
    clear hfin
    obtain ⟨w2, hcopy, ho2, hg2⟩ := run_copy_buf (P := Tryd.prog) (w := w.alloc (.cells (madeCells #[.int .u8 0] n) 5)) 55 55 3 Tryd.underlying55 (by kernel_rfl) w.heap.size n W0.heap.size (.slice none 0 0) 0 [] (HO.out.alloc _) (madeCells #[.int .u8 0] n) (heap_alloc_new w _) (size_madeCells _ _) hLC hCM HBw.out hone.out
    have HO2 := Lib.hid ho2
    have HH2 := Lib.hid ((HH.out.alloc (.cells (madeCells #[.int .u8 0] n) 5)).grown hg2 HBw.out HN.out.1 HN.out.2)
    have d0 : w2.cell? ⟨f, 0, none⟩ = some (.pointer (some ⟨o, 0, none⟩)) := HH2.out.fcell 0
    have d3 : w2.cell? ⟨f, 3, none⟩ = some (.bool mi) := by rw [HH2.out.fcell 3]; show some (Value.bool F.mi) = _; rw [Hmi.out]
    have d7 : w2.cell? ⟨f, 7, none⟩ = some (.bool false) := by rw [HH2.out.fcell 7]; show some (Value.bool F.ze) = _; rw [Hze.out]
    clear ho2 hg2
    go_enter Tryd.func58, Tryd.ntmps58
    go_wp2
    go_loopw [9, 60] (fun _ vi wr => ∃ k : Nat, k ≤ n ∧ vi = .int .i64 k ∧ Hid (wr.ownsRow W0.heap.size 5 1 (.slice (some ⟨w.heap.size, 0, none⟩) k n) k ([] ++ List.replicate k (Value.int .u8 32))) ∧ Hid (Held W0 wr o f F I (.slice none 0 0))) (fun _ vi _ => n - (intOf vi).toNat)
    case atStart => exact ⟨0, by omega, rfl, by simpa [Hid] using HO2.out, HH2.out⟩
    case round =>
      obtain ⟨k, hk, rfl, HOr, HHr⟩ := hrel
      clear c0 c3 c7 co d0 d3 d7 HO2 HH2 hmk hcopy
      by_cases hkn : k < n
      · have hkn' : (k : Int) < (n : Int) := by omega
        have hp := own_push HOr.out (by omega) (.int .u8 32)
        obtain ⟨⟨u', hu'⟩, hfz, ho2, hg2⟩ := hp
        have HO2 := Lib.hid ho2
        have HH2 := Lib.hid (HHr.out.grown hg2 (by have := HOr.out.lt w.heap.size rfl; exact this.1) HN.out.1 HN.out.2)
        clear ho2 hg2
        go_wp2
        go_roundw
        case rel =>
          refine ⟨k + 1, by omega, by go_num, ?_, HH2.out⟩
          have := HO2.out
          rw [rep_snoc] at this
          exact this
        case measure => simp [intOf]; omega
      · obtain rfl : k = n := by omega
        have hkn' : ¬ ((k : Int) < (k : Int)) := by omega
        have c0 : wr.cell? ⟨f, 0, none⟩ = some (.pointer (some ⟨o, 0, none⟩)) := HHr.out.fcell 0
        have co := HHr.out.ocell
        have cz := HHr.out.ofree 0
        go_wp2
        go_region
        all_goals (
          go_wp2
          go_end0
          refine ⟨rfl, ?_⟩
          have hO := HOr.out
          rw [← hfin2.out.1] at hO
          exact (HHr.out.put (by rw [hfin2.out.2]; exact hO)).drew)
  · rcases hm : F.mi with _ | _
    · have hp0 : pb = 48 := by rw [← hpb, hz, hm]; rfl
      have Hze := Lib.hid hz
      have Hmi := Lib.hid hm
      rw [hz] at c7
      rw [hm] at c3
      clear hz hm hpb
      subst hp0
      have hfin2 : Hid (Lib.strCells (s ++ fill 48 n) = [] ++ List.replicate n (Value.int .u8 48) ∧ (s ++ fill 48 n).size = n) := hfin.out
      clear hfin
      obtain ⟨w2, hcopy, ho2, hg2⟩ := run_copy_buf (P := Tryd.prog) (w := w.alloc (.cells (madeCells #[.int .u8 0] n) 5)) 55 55 3 Tryd.underlying55 (by kernel_rfl) w.heap.size n W0.heap.size (.slice none 0 0) 0 [] (HO.out.alloc _) (madeCells #[.int .u8 0] n) (heap_alloc_new w _) (size_madeCells _ _) hLC hCM HBw.out hone.out
      have HO2 := Lib.hid ho2
      have HH2 := Lib.hid ((HH.out.alloc (.cells (madeCells #[.int .u8 0] n) 5)).grown hg2 HBw.out HN.out.1 HN.out.2)
      have d0 : w2.cell? ⟨f, 0, none⟩ = some (.pointer (some ⟨o, 0, none⟩)) := HH2.out.fcell 0
      have d3 : w2.cell? ⟨f, 3, none⟩ = some (.bool false) := by rw [HH2.out.fcell 3]; show some (Value.bool F.mi) = _; rw [Hmi.out]
      have d7 : w2.cell? ⟨f, 7, none⟩ = some (.bool true) := by rw [HH2.out.fcell 7]; show some (Value.bool F.ze) = _; rw [Hze.out]
      clear ho2 hg2
      go_enter Tryd.func58, Tryd.ntmps58
      go_wp2
      go_loopw [9, 60] (fun _ vi wr => ∃ k : Nat, k ≤ n ∧ vi = .int .i64 k ∧ Hid (wr.ownsRow W0.heap.size 5 1 (.slice (some ⟨w.heap.size, 0, none⟩) k n) k ([] ++ List.replicate k (Value.int .u8 48))) ∧ Hid (Held W0 wr o f F I (.slice none 0 0))) (fun _ vi _ => n - (intOf vi).toNat)
      case atStart => exact ⟨0, by omega, rfl, by simpa [Hid] using HO2.out, HH2.out⟩
      case round =>
        obtain ⟨k, hk, rfl, HOr, HHr⟩ := hrel
        clear c0 c3 c7 co d0 d3 d7 HO2 HH2 hmk hcopy
        by_cases hkn : k < n
        · have hkn' : (k : Int) < (n : Int) := by omega
          have hp := own_push HOr.out (by omega) (.int .u8 48)
          obtain ⟨⟨u', hu'⟩, hfz, ho2, hg2⟩ := hp
          have HO2 := Lib.hid ho2
          have HH2 := Lib.hid (HHr.out.grown hg2 (by have := HOr.out.lt w.heap.size rfl; exact this.1) HN.out.1 HN.out.2)
          clear ho2 hg2
          go_wp2
          go_roundw
          case rel =>
            refine ⟨k + 1, by omega, by go_num, ?_, HH2.out⟩
            have := HO2.out
            rw [rep_snoc] at this
            exact this
          case measure => simp [intOf]; omega
        · obtain rfl : k = n := by omega
          have hkn' : ¬ ((k : Int) < (k : Int)) := by omega
          have c0 : wr.cell? ⟨f, 0, none⟩ = some (.pointer (some ⟨o, 0, none⟩)) := HHr.out.fcell 0
          have co := HHr.out.ocell
          have cz := HHr.out.ofree 0
          go_wp2
          go_region
          all_goals (
            go_wp2
            go_end0
            refine ⟨rfl, ?_⟩
            have hO := HOr.out
            rw [← hfin2.out.1] at hO
            exact (HHr.out.put (by rw [hfin2.out.2]; exact hO)).drew)
    · have hp0 : pb = 32 := by rw [← hpb, hz, hm]; rfl
      have Hze := Lib.hid hz
      have Hmi := Lib.hid hm
      rw [hz] at c7
      rw [hm] at c3
      clear hz hm hpb
      subst hp0
      have hfin2 : Hid (Lib.strCells (s ++ fill 32 n) = [] ++ List.replicate n (Value.int .u8 32) ∧ (s ++ fill 32 n).size = n) := hfin.out
      clear hfin
      obtain ⟨w2, hcopy, ho2, hg2⟩ := run_copy_buf (P := Tryd.prog) (w := w.alloc (.cells (madeCells #[.int .u8 0] n) 5)) 55 55 3 Tryd.underlying55 (by kernel_rfl) w.heap.size n W0.heap.size (.slice none 0 0) 0 [] (HO.out.alloc _) (madeCells #[.int .u8 0] n) (heap_alloc_new w _) (size_madeCells _ _) hLC hCM HBw.out hone.out
      have HO2 := Lib.hid ho2
      have HH2 := Lib.hid ((HH.out.alloc (.cells (madeCells #[.int .u8 0] n) 5)).grown hg2 HBw.out HN.out.1 HN.out.2)
      have d0 : w2.cell? ⟨f, 0, none⟩ = some (.pointer (some ⟨o, 0, none⟩)) := HH2.out.fcell 0
      have d3 : w2.cell? ⟨f, 3, none⟩ = some (.bool true) := by rw [HH2.out.fcell 3]; show some (Value.bool F.mi) = _; rw [Hmi.out]
      have d7 : w2.cell? ⟨f, 7, none⟩ = some (.bool true) := by rw [HH2.out.fcell 7]; show some (Value.bool F.ze) = _; rw [Hze.out]
      clear ho2 hg2
      go_enter Tryd.func58, Tryd.ntmps58
      go_wp2
      go_loopw [9, 60] (fun _ vi wr => ∃ k : Nat, k ≤ n ∧ vi = .int .i64 k ∧ Hid (wr.ownsRow W0.heap.size 5 1 (.slice (some ⟨w.heap.size, 0, none⟩) k n) k ([] ++ List.replicate k (Value.int .u8 32))) ∧ Hid (Held W0 wr o f F I (.slice none 0 0))) (fun _ vi _ => n - (intOf vi).toNat)
      case atStart => exact ⟨0, by omega, rfl, by simpa [Hid] using HO2.out, HH2.out⟩
      case round =>
        obtain ⟨k, hk, rfl, HOr, HHr⟩ := hrel
        clear c0 c3 c7 co d0 d3 d7 HO2 HH2 hmk hcopy
        by_cases hkn : k < n
        · have hkn' : (k : Int) < (n : Int) := by omega
          have hp := own_push HOr.out (by omega) (.int .u8 32)
          obtain ⟨⟨u', hu'⟩, hfz, ho2, hg2⟩ := hp
          have HO2 := Lib.hid ho2
          have HH2 := Lib.hid (HHr.out.grown hg2 (by have := HOr.out.lt w.heap.size rfl; exact this.1) HN.out.1 HN.out.2)
          clear ho2 hg2
          go_wp2
          go_roundw
          case rel =>
            refine ⟨k + 1, by omega, by go_num, ?_, HH2.out⟩
            have := HO2.out
            rw [rep_snoc] at this
            exact this
          case measure => simp [intOf]; omega
        · obtain rfl : k = n := by omega
          have hkn' : ¬ ((k : Int) < (k : Int)) := by omega
          have c0 : wr.cell? ⟨f, 0, none⟩ = some (.pointer (some ⟨o, 0, none⟩)) := HHr.out.fcell 0
          have co := HHr.out.ocell
          have cz := HHr.out.ofree 0
          go_wp2
          go_region
          all_goals (
            go_wp2
            go_end0
            refine ⟨rfl, ?_⟩
            have hO := HOr.out
            rw [← hfin2.out.1] at hO
            exact (HHr.out.put (by rw [hfin2.out.2]; exact hO)).drew)

/-- writePadding at every n. -/
theorem padding_any {W0 w : World} {o f : Nat} {F : Fl} {I : List Value} {s : ByteArray} (h : St W0 w o f F I s) (n : Int) (hn : n ≤ 4096) (hs : s.size ≤ 549755813888) :
    Calls Tryd.prog 58 #[.pointer (some ⟨f, 0, none⟩), .int .i64 n] w fun e w' => e = .returned (.tuple #[]) ∧ St W0 w' o f F I (s ++ fill (padByte F.ze F.mi) n.toNat) := by
  by_cases h0 : n ≤ 0
  · refine (padding_none w f n h0).mono ?_
    rintro e w' ⟨rfl, rfl⟩
    refine ⟨rfl, ?_⟩
    rw [show n.toNat = 0 by omega, fill_zero, app_nil]
    exact h
  · obtain ⟨m, rfl⟩ : ∃ m : Nat, n = m := ⟨n.toNat, by omega⟩
    rw [Int.toNat_natCast]
    obtain ⟨v, hh, ho⟩ := Held.of h
    rcases h.form with ⟨v', hv, ho', rfl, hz⟩ | ⟨g, cap, hv, ho'⟩
    · exact padding_nil m (by omega) (by omega) _ rfl ⟨h.bel, hv, h.fm⟩ ho' hz
    · by_cases hr : s.size + m ≤ cap
      · exact padding_room m (by omega) (by omega) _ rfl ⟨h.bel, hv, h.fm⟩ ho' hr
      · exact padding_make m (by omega) (by omega) _ rfl ⟨h.bel, hv, h.fm⟩ ho' (by omega)

end Go.Proofs.YtdadbfehackfjaaDoor
