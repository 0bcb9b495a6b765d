/- A text that is written from its end to its head into the formatter's intbuf or into a row that has been made for it: the predicate, and what a store of one more byte ahead of it does; a store to the formatter's flag zero. No walk stands here. -/
import Derived.Test.YtdadbfehackfjaaDoorChar
import Derived.Test.YtdadbfehackfjaaDoorDigits
set_option linter.unusedVariables false
set_option linter.unusedSimpArgs false
namespace Go.Proofs.YtdadbfehackfjaaDoor
open Go.RowKit Go.Deep

/-- Text t lies at the end of a slice of N bytes that begins at cell off of block b, from byte p on; the slice is the formatter's intbuf, or a row that was made behind W0; nothing else that was there in W0 has turned. -/
structure Tail (W0 w : World) (o f : Nat) (F : Fl) (b off N p : Nat) (t : ByteArray) : Prop where
  near : Near W0.heap.size f f W0 w
  flt : f < W0.heap.size
  fm : ∃ I : List Value, I.length = 68 ∧ w.heap[f]? = some (.cells (fmCells o F I) 67 (0, 0))
  row : (b = f ∧ off = 12 ∧ N = 68) ∨ (W0.heap.size ≤ b ∧ off = 0 ∧ ∃ C : Array Value, w.heap[b]? = some (.cells C 5 (0, 0)) ∧ C.size = N)
  pos : p + t.size = N
  txt : ∀ j, j < t.size → w.cell? ⟨b, off + p + j, none⟩ = some (.int .u8 ((t.get! j).toNat : Int))

section
variable {W0 w : World} {o f : Nat} {F : Fl} {b off N p : Nat} {t : ByteArray}

theorem fm_size (o : Nat) (F : Fl) (I : List Value) : (fmCells o F I).size = 12 + I.length := by
  rw [← Array.length_toList, fm_split, List.length_append, fm_head_length]
theorem fm_set_ze (o : Nat) (F : Fl) (I : List Value) (z : Bool) : (fmCells o F I).setIfInBounds 7 (.bool z) = fmCells o { F with ze := z } I := by
  apply Array.ext'
  simp [fmCells]
theorem fm_set_buf (o : Nat) (F : Fl) (I : List Value) (q : Nat) (v : Value) : (fmCells o F I).setIfInBounds (12 + q) v = fmCells o F (I.set q v) := by
  apply Array.ext'
  rw [Array.toList_setIfInBounds, fm_split, fm_split o F (I.set q v), List.set_append, fm_head_length, if_neg (by omega)]
  congr 2
  omega
theorem heap_set (w : World) {k i : Nat} {v : Value} {C : Array Value} {T : TypeId} {fr : Nat × Nat} (h : w.heap[k]? = some (.cells C T fr)) : (w.setCell ⟨k, i, none⟩ v).heap[k]? = some (.cells (C.setIfInBounds i v) T fr) := by
  simp [World.setCell, Array.getElem?_modify, h]

theorem Tail.fcell (h : Tail W0 w o f F b off N p t) (i : Nat) (hi : i < 12) : w.cell? ⟨f, i, none⟩ = (fmCells o F [])[i]? := by
  obtain ⟨I, _, hf⟩ := h.fm
  rw [cell_of_row w f i _ _ (0, 0) hf, ← Array.getElem?_toList, ← Array.getElem?_toList, fm_split, List.getElem?_append_left (by rw [fm_head_length]; exact hi)]
theorem Tail.ffree (h : Tail W0 w o f F b off N p t) (i : Nat) : w.frozen? ⟨f, i, none⟩ = false := by
  obtain ⟨I, _, hf⟩ := h.fm
  simp [World.frozen?, hf]
theorem Tail.below {w' : World} (h : Tail W0 w o f F b off N p t) (hb : Below w.heap.size w w') : Tail W0 w' o f F b off N p t := by
  obtain ⟨I, hI, hf⟩ := h.fm
  refine ⟨h.near.trans (.of_below (hb.mono h.near.size)), h.flt, ⟨I, hI, (hb.block f (heap_lt hf)).trans hf⟩, ?_, h.pos, fun j hj => ?_⟩
  · rcases h.row with h2 | ⟨h1, h2, C, h3, h4⟩
    · exact .inl h2
    · exact .inr ⟨h1, h2, C, (hb.block b (heap_lt h3)).trans h3, h4⟩
  · have := h.txt j hj
    rw [hb.cell (World.block_lt_of_cell? w _ this)]; exact this
theorem Tail.drewN (h : Tail W0 w o f F b off N p t) (n : Nat) : Tail W0 (w.drewN n) o f F b off N p t := h.below (below_drewN (Below.refl _ _) n)

/-- The formatter's intbuf, nothing written. -/
theorem Tail.start {I : List Value} (hI : I.length = 68) (hf : w.heap[f]? = some (.cells (fmCells o F I) 67 (0, 0))) : Tail w w o f F f 12 68 68 ⟨#[]⟩ :=
  ⟨.refl _ _ _ _, heap_lt hf, ⟨I, hI, hf⟩, .inl ⟨rfl, rfl, rfl⟩, rfl, fun j hj => absurd hj (Nat.not_lt_zero _)⟩
/-- A row that has just been made. -/
theorem Tail.made (h : Tail W0 w o f F b off N N ⟨#[]⟩) (C : Array Value) (M : Nat) (hM : C.size = M) : Tail W0 (w.alloc (.cells C 5)) o f F w.heap.size 0 M M ⟨#[]⟩ := by
  have h2 := h.below ((Below.refl _ _).alloc (Nat.le_refl _) (.cells C 5))
  exact ⟨h2.near, h2.flt, h2.fm, .inr ⟨h.near.size, rfl, C, heap_alloc_new w _, hM⟩, rfl, fun j hj => absurd hj (Nat.not_lt_zero _)⟩

theorem Tail.bne (h : Tail W0 w o f F b off N p t) : b = f ∨ W0.heap.size ≤ b := by
  rcases h.row with ⟨rfl, _⟩ | ⟨h1, _⟩
  · exact .inl rfl
  · exact .inr h1

theorem Tail.bcell (h : Tail W0 w o f F b off N p t) (q : Nat) (hq : q < N) : (∃ u, w.cell? ⟨b, off + q, none⟩ = some u) ∧ w.frozen? ⟨b, off + q, none⟩ = false := by
  obtain ⟨I, hI, hf⟩ := h.fm
  rcases h.row with ⟨rfl, rfl, rfl⟩ | ⟨h1, rfl, C, h3, h4⟩
  · refine ⟨⟨I[q], ?_⟩, h.ffree _⟩
    rw [fm_cell_some hI hf q hq, List.getElem?_eq_getElem]
  · refine ⟨⟨C[0 + q], ?_⟩, by simp [World.frozen?, h3]⟩
    rw [cell_of_row w b _ _ _ (0, 0) h3, Array.getElem?_eq_getElem]

/-- The byte at place q. -/
theorem get_push (c : UInt8) (t : ByteArray) (j : Nat) (hj : j < t.size + 1) : (one c ++ t).get! j = if j = 0 then c else t.get! (j - 1) := by
  have h1 : j < (one c ++ t).size := by rw [size_app, one_size]; omega
  rw [get_of_lt _ j h1]
  by_cases h0 : j = 0
  · subst h0
    rw [if_pos rfl, ByteArray.getElem_append_left (by rw [one_size]; omega)]
    rfl
  · rw [if_neg h0, get_of_lt t (j - 1) (by omega), ByteArray.getElem_append_right (by rw [one_size]; omega)]
    rfl

/-- One byte more ahead of the text. -/
theorem Tail.push {q : Nat} (h : Tail W0 w o f F b off N (q + 1) t) (c : UInt8) : Tail W0 (w.setCell ⟨b, off + q, none⟩ (.int .u8 (c.toNat : Int))) o f F b off N q (one c ++ t) := by
  obtain ⟨I, hI, hf⟩ := h.fm
  have hpos := h.pos
  have hcell := h.bcell q (by omega)
  have hnear : Near W0.heap.size f f W0 (w.setCell ⟨b, off + q, none⟩ (.int .u8 (c.toNat : Int))) := h.near.setCell (by rcases h.bne with h1 | h1 <;> simp [h1]) _
  have hsz : (one c ++ t).size = t.size + 1 := by rw [size_app, one_size]; omega
  have htxt : ∀ j, j < (one c ++ t).size → (w.setCell ⟨b, off + q, none⟩ (.int .u8 (c.toNat : Int))).cell? ⟨b, off + q + j, none⟩ = some (.int .u8 (((one c ++ t).get! j).toNat : Int)) := by
    intro j hj
    rw [get_push c t j (by omega)]
    by_cases h0 : j = 0
    · subst h0
      obtain ⟨⟨u, hu⟩, _⟩ := hcell
      rw [if_pos rfl, Nat.add_zero]
      exact cell_set_new hu
    · rw [if_neg h0, World.cell?_setCell_other w _ _ _ (by intro e; injection e with _ e; omega)]
      have := h.txt (j - 1) (by omega)
      rw [show off + (q + 1) + (j - 1) = off + q + j by omega] at this
      exact this
  rcases h.row with ⟨rfl, rfl, rfl⟩ | ⟨h1, rfl, C, h3, h4⟩
  · refine ⟨hnear, h.flt, ⟨I.set q (.int .u8 (c.toNat : Int)), by rw [List.length_set]; exact hI, ?_⟩, .inl ⟨rfl, rfl, rfl⟩, by rw [hsz]; omega, htxt⟩
    rw [heap_set w hf, fm_set_buf]
  · have hbf : b ≠ f := by have := h.flt; omega
    refine ⟨hnear, h.flt, ⟨I, hI, ?_⟩, .inr ⟨h1, rfl, C.setIfInBounds (0 + q) _, heap_set w h3, by rw [Array.size_setIfInBounds]; exact h4⟩, by rw [hsz]; omega, htxt⟩
    rw [Below.heap_setCell _ _ _ _ (fun e => hbf e.symm)]; exact hf

/-- A store to the flag zero. -/
theorem Tail.setze (h : Tail W0 w o f F b off N p t) (z : Bool) : Tail W0 (w.setCell ⟨f, 7, none⟩ (.bool z)) o f { F with ze := z } b off N p t := by
  obtain ⟨I, hI, hf⟩ := h.fm
  refine ⟨h.near.setCell (.inl rfl) _, h.flt, ⟨I, hI, ?_⟩, ?_, h.pos, fun j hj => ?_⟩
  · rw [heap_set w hf, fm_set_ze]
  · rcases h.row with h2 | ⟨h1, h2, C, h3, h4⟩
    · exact .inl h2
    · have hbf : b ≠ f := by have := h.flt; omega
      refine .inr ⟨h1, h2, C, ?_, h4⟩
      rw [Below.heap_setCell _ _ _ _ hbf]; exact h3
  · rw [World.cell?_setCell_other w _ _ _ (by
      intro e; injection e with e1 e2
      rcases h.row with ⟨rfl, rfl, rfl⟩ | ⟨h1, _⟩
      · omega
      · have := h.flt; omega)]
    exact h.txt j hj
theorem St.setze {I : List Value} {s : ByteArray} (h : St W0 w o f F I s) (z : Bool) : St W0 (w.setCell ⟨f, 7, none⟩ (.bool z)) o f { F with ze := z } I s := by
  obtain ⟨v, hv, ho⟩ := h.ob
  refine ⟨h.bel.setCell (.inr (.inl rfl)) _, ?_, v, ?_, ?_⟩
  · rw [heap_set w h.fm, fm_set_ze]
  · rw [Below.heap_setCell _ _ _ _ h.ne]; exact hv
  · have hnf : some f ≠ v.ownBlock := own_ne ho h.fm (by decide)
    obtain ⟨h1, h2⟩ := ho
    refine ⟨h1, ?_⟩
    rcases h2 with h2 | ⟨g, cap, cur, rfl, hB, hh, r⟩
    · exact .inl h2
    · refine .inr ⟨g, cap, cur, rfl, hB, ?_, r⟩
      rw [Below.heap_setCell _ _ _ _ (fun e => hnf (congrArg some e.symm))]; exact hh

/-- What has been written can be handed to pad; nothing has been written to the buffer yet. -/
theorem Tail.src (h : Tail W0 w o f F b off N p t) (ho : W0.heap[o]? = some (.cells #[.slice none 0 0] 55 (0, 0))) (hof : o ≠ f) :
    ∃ I, I.length = 68 ∧ St w w o f F I ⟨#[]⟩ ∧ Src w o f I (some ⟨b, off + p, none⟩) t := by
  obtain ⟨I, hI, hf⟩ := h.fm
  have ho1 : w.heap[o]? = some (.cells #[.slice none 0 0] 55 (0, 0)) := (h.near.block o (heap_lt ho) hof hof).trans ho
  have hpos := h.pos
  refine ⟨I, hI, St.start hf ho1, ?_⟩
  rcases h.row with ⟨rfl, rfl, rfl⟩ | ⟨h1, rfl, C, h3, h4⟩
  · refine .inr (.inr ⟨p, rfl, fun j hj => ?_⟩)
    have := h.txt j hj
    rw [Nat.add_assoc, fm_cell_some hI hf (p + j) (by omega)] at this
    exact this
  · exact .inr (.inl ⟨b, 0 + p, rfl, heap_lt h3, by have := heap_lt ho; omega, by have := h.flt; omega, h.txt⟩)
end

end Go.Proofs.YtdadbfehackfjaaDoor
