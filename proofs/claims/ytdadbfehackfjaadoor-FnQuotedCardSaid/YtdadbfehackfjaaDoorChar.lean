/- The walks under FnChar: a code point is written into the formatter's intbuf and from there, filled up, into its buffer; and what the thin package makes of it. Condition: the number is a code point that may be encoded. -/
import Derived.Test.YtdadbfehackfjaaDoorRune
set_option linter.unusedVariables false
set_option linter.unusedSimpArgs false
namespace Go.Proofs.YtdadbfehackfjaaDoor
open Go.RowKit Go.Deep

/-- A code point as UTF-8. -/
def enc (r : Int) : ByteArray := strOfNums (Lib.encodeRuneZ r)
theorem enc_cells (r : Int) : Lib.strCells (enc r) = Lib.runeCells r := by
  unfold enc strOfNums Lib.strCells Lib.runeCells
  simp only [List.toList_toArray, List.map_map]
  apply List.map_congr_left
  intro x hx
  obtain ⟨h0, h1⟩ := Lib.encodeRuneZ_byte r x hx
  simp only [Function.comp]
  congr 1
  rw [UInt8.toNat_ofNat']
  omega
theorem enc_size (r : Int) : (enc r).size = (Lib.runeCells r).length := by rw [← enc_cells, Lib.strCells_length]
theorem enc_le (r : Int) : 1 ≤ (enc r).size ∧ (enc r).size ≤ 4 := by rw [enc_size]; exact Lib.runeCells_le r

theorem Near.mono {B B' o f : Nat} {a b : World} (h : Near B o f a b) (hB : B' ≤ B) : Near B' o f a b :=
  ⟨h.os, h.tape, h.output, h.size, fun k hk => h.block k (by omega)⟩
theorem Near.weak {B o f : Nat} {a b : World} (h : Near B f f a b) : Near B o f a b :=
  ⟨h.os, h.tape, h.output, h.size, fun k hk _ h2 => h.block k hk h2 h2⟩

/-- What has been built up can be handed to pad; nothing has been written to the buffer yet. -/
theorem Qb.src {w w1 : World} {o f : Nat} {F : Fl} {v : Value} {t : ByteArray} (h : Qb w w1 o f F v (Lib.strCells t)) (ho : w.heap[o]? = some (.cells #[.slice none 0 0] 55 (0, 0))) (hof : o ≠ f) :
    ∃ I A c, v = .slice A t.size c ∧ t.size ≤ c ∧ I.length = 68 ∧ St w1 w1 o f F I ⟨#[]⟩ ∧ Src w1 o f I A t := by
  obtain ⟨I, hI, hf, h2⟩ := h.fm
  have ho1 : w1.heap[o]? = some (.cells #[.slice none 0 0] 55 (0, 0)) := (h.near.block o (heap_lt ho) hof hof).trans ho
  have hlen : (Lib.strCells t).length = t.size := Lib.strCells_length t
  refine ⟨I, ?_⟩
  rcases h2 with ⟨rfl, hl, ht⟩ | h2
  · refine ⟨_, _, by rw [hlen], by omega, hI, St.start hf ho1, .inr (.inr ⟨0, rfl, fun j hj => ?_⟩)⟩
    rw [Nat.zero_add, ← strCells_get t j hj, ← ht, List.getElem?_take, hlen, if_pos hj]
  · rw [hlen] at h2
    obtain ⟨A, c, rfl, hr, hc⟩ := own_rd (t := t) (by rw [Nat.zero_add, List.nil_append]; exact h2)
    refine ⟨A, c, rfl, hc, hI, St.start hf ho1, ?_⟩
    rcases h2.2 with ⟨_, h0⟩ | ⟨g, cap, cur, he, hB, _⟩
    · exact .inl h0
    · injection he with he1 he2 he3
      subst he1
      rcases hr with hr | ⟨b, off, hbo, hcs⟩
      · exact .inl hr
      · injection hbo with hbo; injection hbo with hb1 hb2 hb3
        subst hb1; subst hb2
        rcases Nat.eq_zero_or_pos t.size with h0 | h0
        · exact .inl h0
        · have hlt : g < w1.heap.size := World.block_lt_of_cell? w1 _ (hcs 0 h0)
          exact .inr (.inl ⟨g, 0, rfl, hlt, by have := heap_lt ho; omega, by have := h.flt; omega, hcs⟩)

theorem of_ne {w : World} {o f : Nat} {F : Fl} {I : List Value} {v : Value} (hf : w.heap[f]? = some (.cells (fmCells o F I) 67 (0, 0))) (ho : w.heap[o]? = some (.cells #[v] 55 (0, 0))) : o ≠ f := by
  rintro rfl
  rw [hf] at ho
  injection ho with ho; injection ho with _ ht
  exact absurd ht (by decide)

/-- What a method leaves that has written text to the buffer: whatever row it lies in, it was made behind W0. -/
def Wrote (w w' : World) (o f : Nat) (F : Fl) (s : ByteArray) : Prop := Near w.heap.size o f w w' ∧ ∃ W1 I, w.heap.size ≤ W1.heap.size ∧ St W1 w' o f F I s

theorem Wrote.conv {w w' : World} {o f : Nat} {F : Fl} {s : ByteArray} (h : Wrote w w' o f F s) :
    ∃ v, w'.cell? ⟨o, 0, none⟩ = some v ∧ (convert 55 9 v).run Tryd.prog w' = .ok (.string s) w' := by
  obtain ⟨_, W1, I, _, h⟩ := h
  exact h.conv
theorem Wrote.done {w w1 w2 : World} {o f : Nat} {F : Fl} {s : ByteArray} (h : Wrote w1 w2 o f F s) (hb : Below w.heap.size w w1) (ho : w.heap.size ≤ o) (hf : w.heap.size ≤ f) : Below w.heap.size w w2 :=
  h.1.below hb (Nat.le_refl _) ho hf

theorem wraps_i64 (n : Int) (h₀ : 0 ≤ n) (h₁ : n < 2 ^ 63) : IntKind.i64.wrap n = n := by rw [IntKind.wrap_i64]; omega
theorem low_six (x : Int) (h0 : 0 ≤ x) (h1 : x ≤ 1114111) : bits .and .i64 x 63 = x % 64 := bits_mask .i64 63 (by decide) wraps_i64 6 (by decide) x h0 (by omega)
theorem join_six (k x : Int) (hk : k = 128 ∨ k = 192) (h0 : 0 ≤ x) (h1 : x < 64) : bits .or .i64 k x = k + x := bits_join .i64 63 (by decide) wraps_i64 6 k x (by omega) (by omega) (by omega) h0 h1 (by omega)
theorem join_four (x : Int) (h0 : 0 ≤ x) (h1 : x < 16) : bits .or .i64 224 x = 224 + x := bits_join .i64 63 (by decide) wraps_i64 4 224 x (by omega) (by omega) (by omega) h0 h1 (by omega)
theorem join_three (x : Int) (h0 : 0 ≤ x) (h1 : x < 8) : bits .or .i64 240 x = 240 + x := bits_join .i64 63 (by decide) wraps_i64 3 240 x (by omega) (by omega) (by omega) h0 h1 (by omega)

theorem conv_list (xs : List Int) (w : World) (b : Nat) (n cap : Nat) (hn : xs.length = n) (h : w.heap[b]? = some (.cells (xs.map fun x => Value.int .u8 x).toArray 5 (0, 0))) :
    (convert 29 9 (.slice (some ⟨b, 0, none⟩) n cap)).run Tryd.prog w = .ok (.string (strOfNums xs)) w := by
  refine run_convert_bytes_arg (P := Tryd.prog) w 29 5 Tryd.underlying29 Tryd.underlying5 b 0 n cap xs hn (fun i hi => ?_) 9 Tryd.underlying9
  rw [Nat.zero_add, cell_of_row w b i _ 5 (0, 0) h]
  subst hn
  simp [List.getD, List.getElem?_eq_getElem hi]

set_option maxHeartbeats 2000000 in
set_option maxRecDepth 100000 in
theorem encoded_one (r : Int) (h0 : 0 ≤ r) (h1 : r ≤ 127) (w : World) :
    Calls Tryd.prog 16 #[.int .i64 r] w fun e w' => e = .returned (.string (enc r)) ∧ Below w.heap.size w w' := by
  unfold enc
  rw [Lib.encodeRuneZ_one h0 h1]
  have hcv := conv_list [r] (w.alloc (.cells #[.int .u8 (r)] 5)) w.heap.size 1 1 rfl (heap_alloc_new w _)
  obtain ⟨R, hR⟩ : ∃ R, strOfNums [r] = R := ⟨_, rfl⟩
  rw [hR] at hcv ⊢
  clear hR
  go_enter Tryd.func16, Tryd.ntmps16
  go_wp2
  go_ret
  exact ⟨rfl, (by repeat (first | (with_reducible refine Below.drew ?_) | (with_reducible refine below_drewN ?_ _) | (with_reducible refine Below.alloc ?_ (by first | (simp; done) | (simp; omega)) _) | (with_reducible refine Below.setCell ?_ (by first | (simp; done) | (simp; omega)) _) | with_reducible exact Below.refl _ _))⟩

set_option maxHeartbeats 2000000 in
set_option maxRecDepth 100000 in
theorem encoded_two (r : Int) (h0 : 128 ≤ r) (h1 : r ≤ 2047) (w : World) :
    Calls Tryd.prog 16 #[.int .i64 r] w fun e w' => e = .returned (.string (enc r)) ∧ Below w.heap.size w w' := by
  unfold enc
  rw [Lib.encodeRuneZ_two h0 h1]
  have hcv := conv_list [192 + r / 64, 128 + r % 64] (w.alloc (.cells #[.int .u8 (192 + r / 64), .int .u8 (128 + r % 64)] 5)) w.heap.size 2 2 rfl (heap_alloc_new w _)
  obtain ⟨R, hR⟩ : ∃ R, strOfNums [192 + r / 64, 128 + r % 64] = R := ⟨_, rfl⟩
  rw [hR] at hcv ⊢
  clear hR
  have b0 := join_six 192 (r / 64) (.inr rfl) (by omega) (by omega)
  have b1 := low_six r (by omega) (by omega)
  have b2 := join_six 128 (r % 64) (.inl rfl) (by omega) (by omega)
  have m0 : (192 + r / 64) % 256 = 192 + r / 64 := by omega
  have m1 : (128 + r % 64) % 256 = 128 + r % 64 := by omega
  go_enter Tryd.func16, Tryd.ntmps16
  go_wp2
  go_ret
  exact ⟨rfl, (by repeat (first | (with_reducible refine Below.drew ?_) | (with_reducible refine below_drewN ?_ _) | (with_reducible refine Below.alloc ?_ (by first | (simp; done) | (simp; omega)) _) | (with_reducible refine Below.setCell ?_ (by first | (simp; done) | (simp; omega)) _) | with_reducible exact Below.refl _ _))⟩

set_option maxHeartbeats 2000000 in
set_option maxRecDepth 100000 in
theorem encoded_three (r : Int) (h0 : 2048 ≤ r) (h1 : r ≤ 65535) (h2 : r < 55296 ∨ 57343 < r) (w : World) :
    Calls Tryd.prog 16 #[.int .i64 r] w fun e w' => e = .returned (.string (enc r)) ∧ Below w.heap.size w w' := by
  unfold enc
  rw [Lib.encodeRuneZ_three (by omega)]
  have hcv := conv_list [224 + r / 4096, 128 + r / 64 % 64, 128 + r % 64] (w.alloc (.cells #[.int .u8 (224 + r / 4096), .int .u8 (128 + r / 64 % 64), .int .u8 (128 + r % 64)] 5)) w.heap.size 3 3 rfl (heap_alloc_new w _)
  obtain ⟨R, hR⟩ : ∃ R, strOfNums [224 + r / 4096, 128 + r / 64 % 64, 128 + r % 64] = R := ⟨_, rfl⟩
  rw [hR] at hcv ⊢
  clear hR
  have b0 := join_four (r / 4096) (by omega) (by omega)
  have b1 := low_six (r / 64) (by omega) (by omega)
  have b2 := low_six r (by omega) (by omega)
  have b3 := join_six 128 (r / 64 % 64) (.inl rfl) (by omega) (by omega)
  have b4 := join_six 128 (r % 64) (.inl rfl) (by omega) (by omega)
  have m0 : (224 + r / 4096) % 256 = 224 + r / 4096 := by omega
  have m1 : (128 + r / 64 % 64) % 256 = 128 + r / 64 % 64 := by omega
  have m2 : (128 + r % 64) % 256 = 128 + r % 64 := by omega
  go_enter Tryd.func16, Tryd.ntmps16
  go_wp2
  go_ret
  exact ⟨rfl, (by repeat (first | (with_reducible refine Below.drew ?_) | (with_reducible refine below_drewN ?_ _) | (with_reducible refine Below.alloc ?_ (by first | (simp; done) | (simp; omega)) _) | (with_reducible refine Below.setCell ?_ (by first | (simp; done) | (simp; omega)) _) | with_reducible exact Below.refl _ _))⟩

set_option maxHeartbeats 2000000 in
set_option maxRecDepth 100000 in
theorem encoded_four (r : Int) (h0 : 65536 ≤ r) (h1 : r ≤ 1114111) (w : World) :
    Calls Tryd.prog 16 #[.int .i64 r] w fun e w' => e = .returned (.string (enc r)) ∧ Below w.heap.size w w' := by
  unfold enc
  rw [Lib.encodeRuneZ_four h0 h1]
  have hcv := conv_list [240 + r / 262144, 128 + r / 4096 % 64, 128 + r / 64 % 64, 128 + r % 64] (w.alloc (.cells #[.int .u8 (240 + r / 262144), .int .u8 (128 + r / 4096 % 64), .int .u8 (128 + r / 64 % 64), .int .u8 (128 + r % 64)] 5)) w.heap.size 4 4 rfl (heap_alloc_new w _)
  obtain ⟨R, hR⟩ : ∃ R, strOfNums [240 + r / 262144, 128 + r / 4096 % 64, 128 + r / 64 % 64, 128 + r % 64] = R := ⟨_, rfl⟩
  rw [hR] at hcv ⊢
  clear hR
  have b0 := join_three (r / 262144) (by omega) (by omega)
  have b1 := low_six (r / 4096) (by omega) (by omega)
  have b2 := low_six (r / 64) (by omega) (by omega)
  have b3 := low_six r (by omega) (by omega)
  have b4 := join_six 128 (r / 4096 % 64) (.inl rfl) (by omega) (by omega)
  have b5 := join_six 128 (r / 64 % 64) (.inl rfl) (by omega) (by omega)
  have b6 := join_six 128 (r % 64) (.inl rfl) (by omega) (by omega)
  have m0 : (240 + r / 262144) % 256 = 240 + r / 262144 := by omega
  have m1 : (128 + r / 4096 % 64) % 256 = 128 + r / 4096 % 64 := by omega
  have m2 : (128 + r / 64 % 64) % 256 = 128 + r / 64 % 64 := by omega
  have m3 : (128 + r % 64) % 256 = 128 + r % 64 := by omega
  go_enter Tryd.func16, Tryd.ntmps16
  go_wp2
  go_ret
  exact ⟨rfl, (by repeat (first | (with_reducible refine Below.drew ?_) | (with_reducible refine below_drewN ?_ _) | (with_reducible refine Below.alloc ?_ (by first | (simp; done) | (simp; omega)) _) | (with_reducible refine Below.setCell ?_ (by first | (simp; done) | (simp; omega)) _) | with_reducible exact Below.refl _ _))⟩

/-- spec.Encoded, of a code point that may be encoded. -/
theorem encoded_any (r : Int) (h0 : 0 ≤ r) (h1 : r ≤ 1114111) (h2 : r < 55296 ∨ 57343 < r) (w : World) :
    Calls Tryd.prog 16 #[.int .i64 r] w fun e w' => e = .returned (.string (enc r)) ∧ Below w.heap.size w w' := by
  by_cases a : r ≤ 127
  · exact encoded_one r h0 a w
  by_cases b : r ≤ 2047
  · exact encoded_two r (by omega) b w
  by_cases c : r ≤ 65535
  · exact encoded_three r (by omega) c h2 w
  · exact encoded_four r (by omega) h1 w

/-- spec.Scalar. -/
theorem scalar_any (r : Int) (h0 : 0 ≤ r) (h1 : r ≤ 18446744073709551615) (w : World) :
    Calls Tryd.prog 15 #[.int .u64 r] w fun e w' => e = .returned (.bool (decide (r < 55296 ∨ 57343 < r ∧ r ≤ 1114111))) ∧ w = w' := by
  by_cases a : r < 55296
  · rw [decide_eq_true (Or.inl a)]
    go_enter Tryd.func15, Tryd.ntmps15
    go_wp2
    go_ret
    exact ⟨rfl, rfl⟩
  · by_cases b : 57343 < r
    · by_cases c : r ≤ 1114111
      · rw [decide_eq_true (Or.inr ⟨b, c⟩)]
        go_enter Tryd.func15, Tryd.ntmps15
        go_wp2
        go_ret
        exact ⟨rfl, rfl⟩
      · rw [decide_eq_false (by omega)]
        go_enter Tryd.func15, Tryd.ntmps15
        go_wp2
        go_ret
        exact ⟨rfl, rfl⟩
    · rw [decide_eq_false (by omega)]
      go_enter Tryd.func15, Tryd.ntmps15
      go_wp2
      go_ret
      exact ⟨rfl, rfl⟩

end Go.Proofs.YtdadbfehackfjaaDoor
