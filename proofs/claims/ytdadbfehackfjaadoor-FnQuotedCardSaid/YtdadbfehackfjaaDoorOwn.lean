/- A formatter over a buffer, as the package lays it: the predicate that every walk over its methods carries on; what an append to the buffer, a store to a flag and a call that only makes memory do to it. No walk stands here. -/
import Derived.Test.YtdadbfehackfjaaDoorFlags
import Derived.Maps.AppendAt
import Derived.Laws.BytesArg
set_option linter.unusedVariables false
set_option linter.unusedSimpArgs false
namespace Go.Proofs.YtdadbfehackfjaaDoor
open Go.RowKit Go.Deep

/-- The cells of a formatter with flags F over the buffer in block o; I: its intbuf. -/
def fmCells (o : Nat) (F : Fl) (I : List Value) : Array Value :=
  (.pointer (some ⟨o, 0, none⟩) :: .bool F.hw :: .bool F.hp :: .bool F.mi :: .bool F.pl :: .bool F.sh :: .bool F.sp :: .bool F.ze :: .bool false :: .bool false :: .int .i64 F.wid :: .int .i64 F.prec :: I : List Value).toArray

/-- But for the blocks o and f the world w' is below block B as w was. -/
structure Near (B o f : Nat) (w w' : World) : Prop where
  os : w'.os = w.os
  tape : w'.tape = w.tape
  output : w'.output = w.output
  size : w.heap.size ≤ w'.heap.size
  block : ∀ k, k < B → k ≠ o → k ≠ f → w'.heap[k]? = w.heap[k]?
theorem Near.refl (B o f : Nat) (w : World) : Near B o f w w := ⟨rfl, rfl, rfl, Nat.le_refl _, fun _ _ _ _ => rfl⟩
theorem Near.trans {B o f : Nat} {a b c : World} (h : Near B o f a b) (k : Near B o f b c) : Near B o f a c :=
  ⟨k.os.trans h.os, k.tape.trans h.tape, k.output.trans h.output, Nat.le_trans h.size k.size, fun i hi h1 h2 => (k.block i hi h1 h2).trans (h.block i hi h1 h2)⟩
theorem Near.of_below {B o f : Nat} {a b : World} (h : Below B a b) : Near B o f a b := ⟨h.os, h.tape, h.output, h.size, fun k hk _ _ => h.block k hk⟩
theorem Near.grown {B o f : Nat} {a w w' : World} {row : Option Nat} (h : Near B o f a w) (hg : w.grownBy w' row) (hB : B ≤ w.heap.size) (hr : ∀ k, row = some k → B ≤ k) : Near B o f a w' :=
  h.trans ⟨hg.os, hg.tape, hg.output, hg.size, fun k hk _ _ => hg.block k (by omega) (fun e => by have := hr k e.symm; omega)⟩
theorem Near.alloc {B o f : Nat} {a w : World} (h : Near B o f a w) (hB : B ≤ w.heap.size) (x : Obj) : Near B o f a (w.alloc x) :=
  h.trans (.of_below ((Below.refl _ _).alloc hB x))
theorem Near.setCell {B o f : Nat} {a w : World} (h : Near B o f a w) {p : Addr} (hp : p.block = o ∨ p.block = f ∨ B ≤ p.block) (u : Value) : Near B o f a (w.setCell p u) :=
  h.trans ⟨rfl, rfl, rfl, by simp [World.setCell], fun k hk h1 h2 => Below.heap_setCell _ _ _ _ (by rintro rfl; rcases hp with hp | hp | hp <;> first | exact h1 hp | exact h2 hp | omega)⟩
/-- What was there before the blocks o and f were made stands. -/
theorem Near.below {B o f : Nat} {a w w' : World} (h : Near B o f w w') (hb : Below a.heap.size a w) (hB : w.heap.size ≤ B) (ho : a.heap.size ≤ o) (hf : a.heap.size ≤ f) : Below a.heap.size a w' :=
  hb.trans ⟨h.os, h.tape, h.output, h.size, fun k hk => h.block k (by have := hb.size; omega) (by omega) (by omega)⟩

/-- In w the formatter in block f has flags F and intbuf I; its buffer, in block o, holds the text s, in a row that was made behind W0; nothing else that was there in W0 has turned. -/
structure St (W0 w : World) (o f : Nat) (F : Fl) (I : List Value) (s : ByteArray) : Prop where
  bel : Near W0.heap.size o f W0 w
  fm : w.heap[f]? = some (.cells (fmCells o F I) 67 (0, 0))
  ob : ∃ v, w.heap[o]? = some (.cells #[v] 55 (0, 0)) ∧ w.ownsRow W0.heap.size 5 1 v s.size (Lib.strCells s)

theorem heap_lt {w : World} {b : Nat} {x : Obj} (h : w.heap[b]? = some x) : b < w.heap.size := (Array.getElem?_eq_some_iff.1 h).1

theorem strCells_app (s t : ByteArray) : Lib.strCells (s ++ t) = Lib.strCells s ++ Lib.strCells t := by
  simp [Lib.strCells, ByteArray.data_append]
theorem strCells_get (t : ByteArray) (j : Nat) (h : j < t.size) : (Lib.strCells t)[j]? = some (.int .u8 ((t.get! j).toNat : Int)) := by
  unfold Lib.strCells
  have hj : j < t.data.toList.length := by rw [Array.length_toList]; exact h
  rw [List.getElem?_map, List.getElem?_eq_getElem hj]
  have : t.get! j = t.data.toList[j] := by
    cases t with
    | mk d => show d[j]! = _; rw [getElem!_pos d j h]; simp
  rw [this]; rfl
theorem strCells_far (t : ByteArray) (j : Nat) (h : ¬ j < t.size) : (Lib.strCells t)[j]? = none := by
  rw [List.getElem?_eq_none]; rw [Lib.strCells_length]; omega

section
variable {W0 w : World} {o f : Nat} {F : Fl} {I : List Value} {s : ByteArray}

theorem St.ne (h : St W0 w o f F I s) : o ≠ f := by
  rintro rfl
  obtain ⟨v, hv, _⟩ := h.ob
  rw [h.fm] at hv
  injection hv with hv; injection hv with _ ht
  exact absurd ht (by decide)
theorem St.fcell (h : St W0 w o f F I s) (i : Nat) : w.cell? ⟨f, i, none⟩ = (fmCells o F I)[i]? := cell_of_row w f i _ _ (0, 0) h.fm
theorem St.ffree (h : St W0 w o f F I s) (i : Nat) : w.frozen? ⟨f, i, none⟩ = false := by
  have := h.fm
  simp [World.frozen?, this]
theorem St.ofree (h : St W0 w o f F I s) (i : Nat) : w.frozen? ⟨o, i, none⟩ = false := by
  obtain ⟨v, hv, _⟩ := h.ob
  simp [World.frozen?, hv]
theorem St.flt (h : St W0 w o f F I s) : f < w.heap.size := heap_lt h.fm
theorem St.olt (h : St W0 w o f F I s) : o < w.heap.size := by obtain ⟨v, hv, _⟩ := h.ob; exact heap_lt hv
theorem St.base (h : St W0 w o f F I s) : W0.heap.size ≤ w.heap.size := h.bel.size

/-- A call that makes memory, and turns nothing of what was there. -/
theorem St.below {w' : World} (h : St W0 w o f F I s) (hb : Below w.heap.size w w') : St W0 w' o f F I s := by
  refine ⟨h.bel.trans (.of_below (hb.mono h.base)), (hb.block f h.flt).trans h.fm, ?_⟩
  obtain ⟨v, hv, ho⟩ := h.ob
  refine ⟨v, (hb.block o h.olt).trans hv, ho.kept (row := none) ⟨hb.os, hb.tape, hb.output, hb.size, fun k hk _ => hb.block k hk⟩ ?_⟩
  cases v.ownBlock <;> simp
theorem St.alloc (h : St W0 w o f F I s) (x : Obj) : St W0 (w.alloc x) o f F I s := h.below ((Below.refl _ _).alloc (Nat.le_refl _) _)
theorem St.drewN (h : St W0 w o f F I s) (n : Nat) : St W0 (w.drewN n) o f F I s := h.below (below_drewN (Below.refl _ _) n)
theorem St.drew (h : St W0 w o f F I s) : St W0 w.drew o f F I s := h.below (Below.drew (Below.refl _ _))

/-- The buffer's slice, written out. -/
theorem St.form (h : St W0 w o f F I s) : (∃ v, w.heap[o]? = some (.cells #[v] 55 (0, 0)) ∧ w.ownsRow W0.heap.size 5 1 v s.size (Lib.strCells s) ∧ v = .slice none 0 0 ∧ s.size = 0) ∨
    ∃ g cap, w.heap[o]? = some (.cells #[.slice (some ⟨g, 0, none⟩) s.size cap] 55 (0, 0)) ∧ w.ownsRow W0.heap.size 5 1 (.slice (some ⟨g, 0, none⟩) s.size cap) s.size (Lib.strCells s) := by
  obtain ⟨v, hv, ho⟩ := h.ob
  rcases ho.2 with ⟨rfl, h0⟩ | ⟨g, cap, cur, rfl, _⟩
  · exact .inl ⟨_, hv, ho, rfl, h0⟩
  · exact .inr ⟨g, cap, hv, ho⟩

theorem own_one {v : Value} {B n : Nat} {xs : List Value} (h : w.ownsRow B 5 1 v n xs) : v.oneCell' = true := by
  rcases h.2 with ⟨rfl, _⟩ | ⟨g, cap, cur, rfl, _⟩ <;> rfl

/-- The row that the buffer owns is no other block of a kind of its own. -/
theorem own_ne {v : Value} {B n : Nat} {xs : List Value} (h : w.ownsRow B 5 1 v n xs) {g : Nat} {c : Array Value} {t : TypeId} (hg : w.heap[g]? = some (.cells c t (0, 0))) (ht : t ≠ 5) : some g ≠ v.ownBlock := by
  rcases h.2 with ⟨rfl, _⟩ | ⟨g', cap, cur, rfl, _, hh, _⟩
  · simp [Value.ownBlock]
  · intro e
    simp only [Value.ownBlock, Option.some.injEq] at e
    subst e
    rw [hh] at hg
    injection hg with hg; injection hg with _ h2
    exact ht h2.symm

/-- Behind 'append' to the buffer's slice, and the store back. -/
theorem St.wrote {w1 : World} {v v' : Value} {t : ByteArray} (h : St W0 w o f F I s) (hv : w.heap[o]? = some (.cells #[v] 55 (0, 0))) (ho : w.ownsRow W0.heap.size 5 1 v s.size (Lib.strCells s))
    (hg : w.grownBy w1 v.ownBlock) (ho' : w1.ownsRow W0.heap.size 5 1 v' (s.size + t.size) (Lib.strCells s ++ Lib.strCells t)) : St W0 (w1.setCell ⟨o, 0, none⟩ v') o f F I (s ++ t) := by
  have hno : some o ≠ v.ownBlock := own_ne ho hv (by decide)
  have hnf : some f ≠ v.ownBlock := own_ne ho h.fm (by decide)
  have ho1 : w1.heap[o]? = some (.cells #[v] 55 (0, 0)) := (hg.block o h.olt hno).trans hv
  have hf1 : w1.heap[f]? = some (.cells (fmCells o F I) 67 (0, 0)) := (hg.block f h.flt hnf).trans h.fm
  have hno' : some o ≠ v'.ownBlock := own_ne ho' ho1 (by decide)
  refine ⟨(h.bel.grown hg h.base (fun k hk => (ho.lt k hk).1)).setCell (.inl rfl) _, ?_, v', ?_, ?_⟩
  · rw [Below.heap_setCell _ _ _ _ (fun e => h.ne e.symm)]; exact hf1
  · simp [World.setCell, Array.getElem?_modify, ho1]
  · rw [size_app, strCells_app]
    obtain ⟨h1, h2⟩ := ho'
    refine ⟨h1, ?_⟩
    rcases h2 with h2 | ⟨g, cap, cur, rfl, hB, hh, r⟩
    · exact .inl h2
    · refine .inr ⟨g, cap, cur, rfl, hB, ?_, r⟩
      rw [Below.heap_setCell _ _ _ _ (fun e => hno' (congrArg some e.symm))]; exact hh

end

section
variable {P : Program} (w : World)

/-- A slice of bytes that reads as a text. -/
def Rd (w : World) (A : Option Addr) (t : ByteArray) : Prop := t.size = 0 ∨ ∃ b off, A = some ⟨b, off, none⟩ ∧ ∀ j, j < t.size → w.cell? ⟨b, off + j, none⟩ = some (.int .u8 ((t.get! j).toNat : Int))

theorem Rd.below {w w' : World} {A : Option Addr} {t : ByteArray} (h : Rd w A t) (hb : Below w.heap.size w w') : Rd w' A t := by
  rcases h with h | ⟨b, off, rfl, h⟩
  · exact .inl h
  · refine .inr ⟨b, off, rfl, fun j hj => ?_⟩
    have hc := h j hj
    rw [hb.cell (World.block_lt_of_cell? w _ hc)]
    exact hc

theorem run_append_two (t u ty e e' : TypeId) (ht : P.underlying t = some (.slice e)) (hu : P.underlying u = some (.slice e')) (v x : Value) : (Builtin.append_ #[t, u] ty #[v, x]).run P w = (Builtin.append_ #[t, t] ty #[v, x]).run P w := by
  cases v <;> simp [Builtin.append_, run_underlying ht, run_underlying hu]

theorem run_append_zero (base : Nat) (t ty e : TypeId) (i : TypeInfo) (ht : P.underlying t = some (.slice e)) (hi : P.info? e = some i)
    (v : Value) (n : Nat) (xs : List Value) (hown : w.ownsRow base e 1 v n xs) (A : Option Addr) (c : Nat) : (Builtin.append_ #[t, t] ty #[v, .slice A 0 c]).run P w = .ok v w := by
  have hf : (Builtin.firstCells i.size 0 (.slice A 0 c)).run P w = .ok #[] w := by
    cases A with
    | none => simp [Builtin.firstCells]
    | some a => exact run_firstCells_some (P := P) w i.size 0 a 0 c [] (by simp) (by simp)
  rcases hown.2 with ⟨rfl, rfl⟩ | ⟨g, cap, cur, rfl, _, _, hnc, _⟩
  · simp [Builtin.append_, run_underlying ht, sizeOf, typeInfo, hi, Builtin.lenOf, hf, storeCells]
  · simp [Builtin.append_, run_underlying ht, sizeOf, typeInfo, hi, Builtin.lenOf, hf, hnc, storeCells]

/-- 'append(buf, p...)': the bytes of a slice, onto a row that the call owns. -/
theorem wpList_append_bytes {ops : Array Oper} {rest : List Oper} {o : Oper} {a : Act} {Q : Exit → Act → World → Prop} (hgd : o.guard = none) (sl x : Operand) (t u : TypeId)
    (ho : o.op = .call { callee := .builtin .append, args := #[sl, x], argTypes := #[t, u] })
    (base : Nat) (e e' : TypeId) (i : TypeInfo) (ht : P.underlying t = some (.slice e)) (hu : P.underlying u = some (.slice e')) (hi : P.info? e = some i) (hz : i.zero = some (.int .u8 0))
    (hsize : i.size = 1) (hby : i.bytes = 1)
    (v : Value) (n : Nat) (xs : List Value) (hs : a.eval sl = v) (hown : w.ownsRow base e 1 v n xs) (A : Option Addr) (m c : Nat) (s : ByteArray) (hm : m = s.size) (hx : a.eval x = .slice A m c) (hr : Rd w A s)
    (hbytes : n + s.size ≤ 140737488355328) (hbase : base ≤ w.heap.size)
    (h : ∀ v' w', w'.ownsRow base e 1 v' (n + s.size) (xs ++ Lib.strCells s) → w.grownBy w' v.ownBlock → wpList P ops Q rest (a.put o.dst v') w') : wpList P ops Q (o :: rest) a w := by
  subst hm
  refine wpList_plain hgd fun K hK => ?_
  have key : ∃ v' w', (Builtin.append_ #[t, u] o.type #[v, .slice A s.size c]).run P w = .ok v' w' ∧ w'.ownsRow base e 1 v' (n + s.size) (xs ++ Lib.strCells s) ∧ w.grownBy w' v.ownBlock := by
    rw [run_append_two w t u o.type e e' ht hu]
    rcases Nat.eq_zero_or_pos s.size with h0 | h0
    · have hn : Lib.strCells s = [] := List.eq_nil_of_length_eq_zero (by rw [Lib.strCells_length]; exact h0)
      rw [h0, hn]
      exact ⟨v, w, run_append_zero w base t o.type e i ht hi v n xs hown A c, by simpa using hown, World.grownBy.refl w _⟩
    · rcases hr with hr | ⟨b, off, rfl, hr⟩
      · omega
      · obtain ⟨v', w', h1, h2, h3, _⟩ := run_append_own_at (P := P) w base t o.type e i (.int .u8 0) 1 1 ht hi hz hsize hby rfl (by decide) v n xs hown ⟨b, off, none⟩ s.size c (Lib.strCells s) (by rw [Lib.strCells_length]; omega)
          (fun j y hj => by
            have hjs : j < s.size := by
              rcases Nat.lt_or_ge j s.size with h | h
              · exact h
              · rw [strCells_far s j (by omega)] at hj; cases hj
            rw [strCells_get s j hjs] at hj
            rw [Addr.add_lit, hr j hjs]; exact hj) (Lib.strCells_oneCell s) (by unfold maxLen; omega) (by omega) hbase
        exact ⟨v', w', h1, h2, h3⟩
  obtain ⟨v', w', hrun, h2, h3⟩ := key
  unfold Oper.wp execOp
  simp only [ho, resolve, invoke, builtin, Sem.run_bind, Sem.run_pure, Result.andThen_ok, List.map_toArray, List.map_cons, List.map_nil, hs, hx, hrun]
  exact hK _ _ (h v' w' h2 h3)
end

end Go.Proofs.YtdadbfehackfjaaDoor
