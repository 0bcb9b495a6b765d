/- Bytes that are laid one behind the other into the head of a formatter's intbuf, and into rows of their own where there is no room: the predicate, and 'append' onto it, of bytes and of a string. No walk stands here. -/
import Derived.Test.YtdadbfehackfjaaDoorPad
import Derived.ArgAppend
import Derived.Lib.RuneBytes
set_option linter.unusedVariables false
set_option linter.unusedSimpArgs false
namespace Go.Proofs.YtdadbfehackfjaaDoor
open Go.RowKit Go.Deep

theorem set_cells_list (L : List Value) (i : Nat) (v : Value) (r : List Value) (h : i < L.length) :
    (L.set i v).take (i + 1) ++ r ++ (L.set i v).drop (i + 1 + r.length) = L.take i ++ (v :: r) ++ L.drop (i + (v :: r).length) := by
  rw [List.set_eq_take_append_cons_drop, if_pos h]
  have h1 : (L.take i).length = i := by rw [List.length_take]; omega
  have e1 : (L.take i ++ v :: L.drop (i + 1)).take (i + 1) = L.take i ++ [v] := by
    rw [List.take_append, h1, List.take_of_length_le (by omega)]
    simp
  have e2 : (L.take i ++ v :: L.drop (i + 1)).drop (i + 1 + r.length) = L.drop (i + (v :: r).length) := by
    rw [List.drop_append, h1, List.drop_of_length_le (by omega)]
    have : i + 1 + r.length - i = r.length + 1 := by omega
    rw [this]
    simp
    congr 1
    omega
  rw [e1, e2]
  simp

theorem setCells_row (f : Nat) (T : TypeId) (fr : Nat × Nat) : ∀ (news : List Value) (i : Nat) (C : Array Value) (w : World), w.heap[f]? = some (.cells C T fr) → i + news.length ≤ C.size →
    (w.setCells f i news).heap[f]? = some (.cells (C.toList.take i ++ news ++ C.toList.drop (i + news.length)).toArray T fr)
  | [], i, C, w, h, _ => by
    rw [World.setCells, h]
    simp
  | v :: r, i, C, w, h, hl => by
    have hi : i < C.size := by simp at hl; omega
    have h1 : (w.setCell ⟨f, i, none⟩ v).heap[f]? = some (.cells (C.setIfInBounds i v) T fr) := by simp [World.setCell, Array.getElem?_modify, h]
    have := setCells_row f T fr r (i + 1) (C.setIfInBounds i v) _ h1 (by simp at hl ⊢; omega)
    rw [World.setCells, this, Array.toList_setIfInBounds, set_cells_list C.toList i v r (by simpa using hi)]

theorem setCells_far (f : Nat) : ∀ (news : List Value) (i : Nat) (w : World), (w.setCells f i news).os = w.os ∧ (w.setCells f i news).tape = w.tape ∧ (w.setCells f i news).output = w.output ∧ (w.setCells f i news).heap.size = w.heap.size ∧ ∀ k, k ≠ f → (w.setCells f i news).heap[k]? = w.heap[k]?
  | [], _, _ => ⟨rfl, rfl, rfl, rfl, fun _ _ => rfl⟩
  | v :: r, i, w => by
    obtain ⟨a, b, c, d, e⟩ := setCells_far f r (i + 1) (w.setCell ⟨f, i, none⟩ v)
    refine ⟨a, b, c, d.trans (by simp [World.setCell]), fun k hk => (e k hk).trans (Below.heap_setCell _ _ _ _ (fun h => hk h))⟩

/-- A slice of bytes xs that is built up: it lies at the head of the formatter's intbuf, or in a row that was made behind W0; nothing else that was there in W0 has turned. -/
structure Qb (W0 w : World) (o f : Nat) (F : Fl) (v : Value) (xs : List Value) : Prop where
  near : Near W0.heap.size f f W0 w
  flt : f < W0.heap.size
  fm : ∃ I : List Value, I.length = 68 ∧ w.heap[f]? = some (.cells (fmCells o F I) 67 (0, 0)) ∧
    ((v = .slice (some ⟨f, 12, none⟩) xs.length 68 ∧ xs.length ≤ 68 ∧ I.take xs.length = xs) ∨ w.ownsRow W0.heap.size 5 1 v xs.length xs)

section
variable {W0 w : World} {o f : Nat} {F : Fl} {v : Value} {xs : List Value}

theorem Qb.start {I : List Value} (hI : I.length = 68) (hf : w.heap[f]? = some (.cells (fmCells o F I) 67 (0, 0))) : Qb w w o f F (.slice (some ⟨f, 12, none⟩) 0 68) [] :=
  ⟨.refl _ _ _ _, heap_lt hf, I, hI, hf, .inl ⟨rfl, by simp, rfl⟩⟩
theorem Qb.below {w' : World} (h : Qb W0 w o f F v xs) (hb : Below w.heap.size w w') : Qb W0 w' o f F v xs := by
  obtain ⟨I, hI, hf, h2⟩ := h.fm
  refine ⟨h.near.trans (.of_below (hb.mono h.near.size)), h.flt, I, hI, (hb.block f (heap_lt hf)).trans hf, ?_⟩
  rcases h2 with h2 | h2
  · exact .inl h2
  · refine .inr (h2.kept (row := none) ⟨hb.os, hb.tape, hb.output, hb.size, fun k hk _ => hb.block k hk⟩ ?_)
    cases v.ownBlock <;> simp
theorem Qb.alloc (h : Qb W0 w o f F v xs) (x : Obj) : Qb W0 (w.alloc x) o f F v xs := h.below ((Below.refl _ _).alloc (Nat.le_refl _) _)
theorem Qb.drewN (h : Qb W0 w o f F v xs) (n : Nat) : Qb W0 (w.drewN n) o f F v xs := h.below (below_drewN (Below.refl _ _) n)
theorem Qb.drew (h : Qb W0 w o f F v xs) : Qb W0 w.drew o f F v xs := h.below (Below.drew (Below.refl _ _))
theorem Qb.base (h : Qb W0 w o f F v xs) : W0.heap.size ≤ w.heap.size := h.near.size

theorem fm_split (o : Nat) (F : Fl) (I : List Value) : (fmCells o F I).toList = (fmCells o F []).toList ++ I := by
  simp [fmCells]
theorem fm_head_length (o : Nat) (F : Fl) : (fmCells o F []).toList.length = 12 := rfl

theorem fm_wrote (I : List Value) (n : Nat) (news : List Value) (h : n + news.length ≤ I.length) :
    ((fmCells o F I).toList.take (12 + n) ++ news ++ (fmCells o F I).toList.drop (12 + n + news.length)).toArray = fmCells o F (I.take n ++ news ++ I.drop (n + news.length)) := by
  apply Array.ext'
  rw [fm_split, fm_split o F (I.take n ++ news ++ I.drop (n + news.length)), List.take_append, List.drop_append, fm_head_length]
  rw [List.take_of_length_le (by rw [fm_head_length]; omega), List.drop_of_length_le (by rw [fm_head_length]; omega)]
  have e1 : 12 + n - 12 = n := by omega
  have e2 : 12 + n + news.length - 12 = n + news.length := by omega
  rw [e1, e2]
  simp

/-- What stands behind the store of more bytes where there is room. -/
theorem Qb.room (h : Qb W0 w o f F v xs) (news : List Value) (I : List Value) (hI : I.length = 68) (hf : w.heap[f]? = some (.cells (fmCells o F I) 67 (0, 0))) (ht : I.take xs.length = xs) (hr : xs.length + news.length ≤ 68) :
    Qb W0 (w.setCells f (12 + xs.length) news) o f F (.slice (some ⟨f, 12, none⟩) (xs ++ news).length 68) (xs ++ news) := by
  have hsz : (fmCells o F I).size = 80 := by
    rw [← Array.length_toList, fm_split, List.length_append, fm_head_length, hI]
  have h1 := setCells_row f 67 (0, 0) news (12 + xs.length) (fmCells o F I) w hf (by omega)
  rw [fm_wrote I xs.length news (by omega)] at h1
  obtain ⟨a, b, c, d, e⟩ := setCells_far f news (12 + xs.length) w
  refine ⟨h.near.trans ⟨a, b, c, by omega, fun k _ hk _ => e k hk⟩, h.flt, _, ?_, h1, .inl ⟨rfl, by rw [List.length_append]; omega, ?_⟩⟩
  · simp only [List.length_append, List.length_take, List.length_drop, hI]
    omega
  · rw [List.take_append_of_le_length (by rw [List.length_append, List.length_append, ht]; omega), ht]
    exact List.take_length

/-- What stands behind an append that has made a new row, or has written its own one. -/
theorem Qb.grew (h : Qb W0 w o f F v xs) {w' : World} {v' : Value} {ys : List Value} {row : Option Nat} (ho : w'.ownsRow W0.heap.size 5 1 v' ys.length ys) (hg : w.grownBy w' row) (hr : ∀ k, row = some k → W0.heap.size ≤ k) : Qb W0 w' o f F v' ys := by
  obtain ⟨I, hI, hf, _⟩ := h.fm
  exact ⟨h.near.grown hg h.base hr, h.flt, I, hI, (hg.block f (heap_lt hf) (fun e => by have := hr f e.symm; have := h.flt; omega)).trans hf, .inr ho⟩

theorem fm_cell_some {I : List Value} (hI : I.length = 68) (hf : w.heap[f]? = some (.cells (fmCells o F I) 67 (0, 0))) (j : Nat) (hj : j < 68) : w.cell? ⟨f, 12 + j, none⟩ = I[j]? := by
  rw [cell_of_row w f (12 + j) _ _ (0, 0) hf]
  have e : 12 + j = j + 12 := by omega
  rw [e]
  unfold fmCells
  rw [List.getElem?_toArray]
  rfl

theorem Qb.cells (h : Qb W0 w o f F v xs) : ∃ A c, v = .slice A xs.length c ∧ (xs.length = 0 ∨ ∃ b off, A = some ⟨b, off, none⟩ ∧ ∀ j u, xs[j]? = some u → w.cell? ⟨b, off + j, none⟩ = some u) ∧ xs.length ≤ c := by
  obtain ⟨I, hI, hf, h2⟩ := h.fm
  rcases h2 with ⟨rfl, hl, ht⟩ | h2
  · refine ⟨_, _, rfl, .inr ⟨f, 12, rfl, fun j u hj => ?_⟩, hl⟩
    have hjl : j < xs.length := (List.getElem?_eq_some_iff.1 hj).1
    rw [fm_cell_some hI hf j (by omega), ← hj, ← ht, List.getElem?_take, if_pos hjl]
  · rcases h2.2 with ⟨rfl, h0⟩ | ⟨g, cap, cur, rfl, _, _, hnc, _⟩
    · exact ⟨none, 0, by rw [h0], .inl h0, by omega⟩
    · refine ⟨some ⟨g, 0, none⟩, cap, rfl, .inr ⟨g, 0, rfl, fun j u hj => ?_⟩, hnc⟩
      have := h2.cells (g := g) rfl j u hj
      rwa [Addr.add_lit] at this

/-- 'append(b, x...)', x a slice of bytes that is not nil. -/
theorem Qb.append (h : Qb W0 w o f F v xs) (t ty : TypeId) (i : TypeInfo) (ht : Tryd.prog.underlying t = some (.slice 5)) (hi : Tryd.prog.info? 5 = some i) (hz : i.zero = some (.int .u8 0)) (hsize : i.size = 1) (hby : i.bytes = 1)
    (a : Addr) (m c : Nat) (news : List Value) (hl : news.length = m) (hnews : ∀ j u, news[j]? = some u → w.cell? (a.add j) = some u) (h1 : ∀ u ∈ news, u.oneCell' = true) (hb : xs.length + m ≤ 140737488355328) :
    ∃ v' w', (Builtin.append_ #[t, t] ty #[v, .slice (some a) m c]).run Tryd.prog w = .ok v' w' ∧ Qb W0 w' o f F v' (xs ++ news) := by
  obtain ⟨I, hI, hf, h2⟩ := h.fm
  have hlen : (xs ++ news).length = xs.length + m := by rw [List.length_append, hl]
  rcases h2 with ⟨rfl, hxl, htk⟩ | hown
  · by_cases hr : xs.length + m ≤ 68
    · have hrun := run_append_room_cells (P := Tryd.prog) w t ty 5 i ht hi f 12 xs.length 68 a m c news (by rw [hsize]; omega) hnews h1 hr
        (fun j hj => by
          rw [hsize, show 12 + xs.length * 1 + j = 12 + (xs.length + j) by omega, fm_cell_some hI hf _ (by omega)]
          simp; omega)
        (fun j hj => by simp [World.frozen?, hf])
      rw [hsize, Nat.mul_one] at hrun
      refine ⟨_, _, hrun, ?_⟩
      have := h.room news I hI hf htk (by omega)
      rwa [hlen] at this
    · obtain ⟨v', w', hrun, ho, hg⟩ := run_append_arg_grows (P := Tryd.prog) w t ty 5 i (.int .u8 0) 1 1 ht hi hz hsize hby rfl (by decide) ⟨f, 12, none⟩ xs.length 68 xs (by omega)
        (fun j u hj => by
          have hjl : j < xs.length := (List.getElem?_eq_some_iff.1 hj).1
          rw [Addr.add_lit, fm_cell_some hI hf j (by omega), ← hj, ← htk, List.getElem?_take, if_pos hjl]) a m c news (by omega) hnews (by omega) (by unfold maxLen; omega) (by omega)
      exact ⟨v', w', hrun, h.grew (by rw [hlen]; exact ho.mono h.base) hg (by simp)⟩
  · obtain ⟨v', w', hrun, ho, hg, _⟩ := run_append_own_at (P := Tryd.prog) w W0.heap.size t ty 5 i (.int .u8 0) 1 1 ht hi hz hsize hby rfl (by decide) v xs.length xs hown a m c news (by omega) hnews h1 (by unfold maxLen; omega) (by omega) h.base
    exact ⟨v', w', hrun, h.grew (by rw [hlen]; exact ho) hg (fun k hk => (hown.lt k hk).1)⟩

/-- 'append(b, s...)', s a string. -/
theorem Qb.append_str (h : Qb W0 w o f F v xs) (t u ty : TypeId) (i : TypeInfo) (ht : Tryd.prog.underlying t = some (.slice 5)) (hu : Tryd.prog.underlying u = some .string) (hi : Tryd.prog.info? 5 = some i) (hz : i.zero = some (.int .u8 0)) (hsize : i.size = 1) (hby : i.bytes = 1)
    (s : ByteArray) (hb : xs.length + s.size ≤ 140737488355328) :
    ∃ v' w', (Builtin.append_ #[t, u] ty #[v, .string s]).run Tryd.prog w = .ok v' w' ∧ Qb W0 w' o f F v' (xs ++ Lib.strCells s) := by
  obtain ⟨I, hI, hf, h2⟩ := h.fm
  have hsl := Lib.strCells_length s
  have hlen : (xs ++ Lib.strCells s).length = xs.length + s.size := by rw [List.length_append, hsl]
  rcases h2 with ⟨rfl, hxl, htk⟩ | hown
  · by_cases hr : xs.length + s.size ≤ 68
    · have hfc := Lib.run_firstCells_string (P := Tryd.prog) w 1 s
      have hst := run_storeCells_cells (P := Tryd.prog) f (12 + xs.length) (Lib.strCells s) 0 w
        (fun j hj => by
          rw [show 12 + xs.length + 0 + j = 12 + (xs.length + j) by omega, fm_cell_some hI hf _ (by omega)]
          simp; omega)
        (fun j hj => by simp [World.frozen?, hf]) (Lib.strCells_oneCell s)
      simp only [Nat.add_zero] at hst
      have hrun : (Builtin.append_ #[t, u] ty #[.slice (some ⟨f, 12, none⟩) xs.length 68, .string s]).run Tryd.prog w = .ok (.slice (some ⟨f, 12, none⟩) (xs.length + s.size) 68) (w.setCells f (12 + xs.length) (Lib.strCells s)) := by
        simp [Builtin.append_, run_underlying ht, run_underlying hu, sizeOf, typeInfo, hi, hsize, Builtin.lenOf, hr, hfc, Addr.add_lit, hst]
      refine ⟨_, _, hrun, ?_⟩
      have := h.room (Lib.strCells s) I hI hf htk (by omega)
      rwa [hlen] at this
    · have holds : ∀ j u, xs[j]? = some u → w.cell? ((⟨f, 12, none⟩ : Addr).add j) = some u := fun j u hj => by
        have hjl : j < xs.length := (List.getElem?_eq_some_iff.1 hj).1
        rw [Addr.add_lit, fm_cell_some hI hf j (by omega), ← hj, ← htk, List.getElem?_take, if_pos hjl]
      have hrun := Lib.run_append_grow_string (P := Tryd.prog) w t u ty 5 i (.int .u8 0) ht hu hi hz ⟨f, 12, none⟩ xs.length 68 xs (by rw [hsize]; omega) holds s (by omega) (by omega) (by rw [hby]; exact growslice_fits (by omega) (by omega))
      have hge := grownCap_ge w (xs.length + s.size) 68 5
      have hcm := grownCap_le_maxLen w (xs.length + s.size) 68 5 (by unfold maxLen; omega)
      refine ⟨_, _, hrun, h.grew (row := none) ?_ ⟨rfl, rfl, rfl, by simp, fun k hk _ => heap_alloc_old w.drew _ hk⟩ (by simp)⟩
      rw [hlen]
      refine ⟨by rw [hlen, Nat.mul_one], .inr ⟨w.heap.size, _, _, rfl, h.base, heap_alloc_new w.drew _, hge, hcm, ?_, ?_⟩⟩
      · have hz1 : (Value.int IntKind.u8 0).cells.size = 1 := rfl
        simp only [Array.size_append, List.size_toArray, size_zeroCells, hz1, hsl]
        omega
      · simp only [Array.toList_append, List.append_assoc]
        rw [← List.append_assoc, ← hlen, Nat.mul_one]
        exact List.take_left
  · obtain ⟨v', w', hrun, ho, hg, _⟩ := Lib.run_append_own_string (P := Tryd.prog) w W0.heap.size t u ty 5 i ht hu hi hz hsize hby v xs.length xs hown s (by unfold maxLen; omega) (by omega) h.base
    exact ⟨v', w', hrun, h.grew (by rw [hlen]; exact ho) hg (fun k hk => (hown.lt k hk).1)⟩

theorem wpList_qb {ops : Array Oper} {rest : List Oper} {op : Oper} {a : Act} {Q : Exit → Act → World → Prop} (hgd : op.guard = none) (sl x : Operand) (t : TypeId)
    (ho : op.op = .call { callee := .builtin .append, args := #[sl, x], argTypes := #[t, t] }) (i : TypeInfo) (ht : Tryd.prog.underlying t = some (.slice 5)) (hi : Tryd.prog.info? 5 = some i) (hz : i.zero = some (.int .u8 0)) (hsize : i.size = 1) (hby : i.bytes = 1)
    (hs : a.eval sl = v) (h : Qb W0 w o f F v xs) (A : Addr) (m c : Nat) (news : List Value) (hx : a.eval x = .slice (some A) m c) (hl : news.length = m) (hnews : ∀ j u, news[j]? = some u → w.cell? (A.add j) = some u) (h1 : ∀ u ∈ news, u.oneCell' = true) (hb : xs.length + m ≤ 140737488355328)
    (k : ∀ v' w', Qb W0 w' o f F v' (xs ++ news) → wpList Tryd.prog ops Q rest (a.put op.dst v') w') : wpList Tryd.prog ops Q (op :: rest) a w := by
  refine wpList_plain hgd fun K hK => ?_
  obtain ⟨v', w', hrun, h2⟩ := h.append t op.type i ht hi hz hsize hby A m c news hl hnews h1 hb
  unfold Oper.wp execOp
  simp only [ho, resolve, invoke, builtin, Sem.run_bind, Sem.run_pure, Result.andThen_ok, List.map_toArray, List.map_cons, List.map_nil, hs, hx, hrun]
  exact hK _ _ (k v' w' h2)

theorem wpList_qb_str {ops : Array Oper} {rest : List Oper} {op : Oper} {a : Act} {Q : Exit → Act → World → Prop} (hgd : op.guard = none) (sl x : Operand) (t u : TypeId)
    (ho : op.op = .call { callee := .builtin .append, args := #[sl, x], argTypes := #[t, u] }) (i : TypeInfo) (ht : Tryd.prog.underlying t = some (.slice 5)) (hu : Tryd.prog.underlying u = some .string) (hi : Tryd.prog.info? 5 = some i) (hz : i.zero = some (.int .u8 0)) (hsize : i.size = 1) (hby : i.bytes = 1)
    (hs : a.eval sl = v) (h : Qb W0 w o f F v xs) (s : ByteArray) (hx : a.eval x = .string s) (hb : xs.length + s.size ≤ 140737488355328)
    (k : ∀ v' w', Qb W0 w' o f F v' (xs ++ Lib.strCells s) → wpList Tryd.prog ops Q rest (a.put op.dst v') w') : wpList Tryd.prog ops Q (op :: rest) a w := by
  refine wpList_plain hgd fun K hK => ?_
  obtain ⟨v', w', hrun, h2⟩ := h.append_str t u op.type i ht hu hi hz hsize hby s hb
  unfold Oper.wp execOp
  simp only [ho, resolve, invoke, builtin, Sem.run_bind, Sem.run_pure, Result.andThen_ok, List.map_toArray, List.map_cons, List.map_nil, hs, hx, hrun]
  exact hK _ _ (k v' w' h2)
end

end Go.Proofs.YtdadbfehackfjaaDoor
