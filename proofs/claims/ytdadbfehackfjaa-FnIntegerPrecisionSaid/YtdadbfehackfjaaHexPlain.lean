/- Plain facts on what is written in base 16: how long it is, and that it is ASCII; a buffer's row that is built up ahead of the store back, and 'append' onto it. No walk stands here. -/
import Derived.Test.YtdadbfehackfjaaHexText
import Derived.Test.YtdadbfehackfjaaPadding
import Derived.Lib.RuneCountTail
import Derived.Deep.AppendLies
set_option linter.unusedVariables false
set_option linter.unusedSimpArgs false
namespace Go.Proofs.Ytdadbfehackfjaa
open Go.RowKit Go.Deep

/-- All bytes are below 128. -/
def Asc (t : ByteArray) : Prop := ∀ x ∈ t.data.toList, x.toNat < 128
theorem Asc.app {a b : ByteArray} (ha : Asc a) (hb : Asc b) : Asc (a ++ b) := by
  intro x hx
  rw [ByteArray.data_append, Array.toList_append, List.mem_append] at hx
  rcases hx with hx | hx
  · exact ha x hx
  · exact hb x hx
theorem Asc.nil : Asc ⟨#[]⟩ := fun x hx => by cases hx
theorem Asc.at {t : ByteArray} (h : Asc t) (j : Nat) (hj : j < t.size) : (t.get! j).toNat < 128 := by
  rw [get_of_lt t j hj]
  cases t with
  | mk d => exact h _ (by show d[j] ∈ d.toList; simp)
theorem Asc.runes {t : ByteArray} (h : Asc t) : Lib.runeCount t = t.size := by
  rw [Lib.runeCount_split t t.size (Nat.le_refl _) (fun j hj => h.at j hj), count_none _ (by rw [Lib.tail_size]; omega)]
  rfl
theorem Asc.fill (c : UInt8) (n : Nat) (h : c.toNat < 128) : Asc (Go.Proofs.Ytdadbfehackfjaa.fill c n) := by
  intro x hx
  unfold Go.Proofs.Ytdadbfehackfjaa.fill at hx
  simp only [List.toList_toArray] at hx
  rw [List.eq_of_mem_replicate hx]
  exact h
theorem hexd_asc (U : Bool) (d : Nat) (h : d < 16) : (hexd U d).toNat < 128 := by
  have : ∀ (U : Bool) (d : Fin 16), (hexd U d.val).toNat < 128 := by decide
  exact this U ⟨d, h⟩
theorem Asc.one {c : UInt8} (h : c.toNat < 128) : Asc (one c) := by
  intro x hx
  simp only [Go.Proofs.Ytdadbfehackfjaa.one, List.mem_singleton] at hx
  rw [hx]; exact h
theorem preH_asc (U : Bool) : Asc (preH U) := by
  cases U <;> (intro x hx; simp [preH] at hx; rcases hx with rfl | rfl <;> decide)
theorem twoH_asc (U : Bool) (c : UInt8) : Asc (twoH U c) := by
  have hc := c.toNat_lt
  intro x hx
  simp [twoH] at hx
  rcases hx with rfl | rfl
  · exact hexd_asc U _ (by omega)
  · exact hexd_asc U _ (by omega)
theorem gapH_asc (U sh sp : Bool) (i : Nat) : Asc (gapH U sh sp i) := by
  unfold gapH
  split
  · refine Asc.app (Asc.one (by decide)) ?_
    split
    · exact preH_asc U
    · exact Asc.nil
  · exact Asc.nil
theorem hexBody_asc (U sh sp : Bool) (t : ByteArray) : ∀ i, Asc (hexBody U sh sp t i)
  | 0 => Asc.nil
  | i + 1 => ((hexBody_asc U sh sp t i).app (gapH_asc U sh sp i)).app (twoH_asc U _)
theorem hexOf_asc (F : Fl) (U : Bool) (t : ByteArray) : Asc (hexOf F U t) := by
  unfold hexOf
  split
  · exact Asc.nil
  · refine Asc.app ?_ (hexBody_asc _ _ _ _ _)
    split
    · exact preH_asc U
    · exact Asc.nil

/-- How long the text is, as the code reckons it. -/
def hexLen (sh sp : Bool) (n : Nat) : Nat := if sp then (if sh then 2 * n * 2 else 2 * n) + (n - 1) else if sh then 2 * n + 2 else 2 * n
theorem hexBody_len (U sh sp : Bool) (t : ByteArray) : ∀ i, (hexBody U sh sp t (i + 1)).size = 2 * (i + 1) + (if sp then i * (1 + if sh then 2 else 0) else 0)
  | 0 => by
    have h0 : (⟨#[]⟩ : ByteArray).size = 0 := rfl
    have hg : (gapH U sh sp 0).size = 0 := by cases sp <;> rfl
    simp only [hexBody, size_app, twoH_size, hg, h0]
    cases sp <;> simp only [Bool.false_eq_true, if_false, if_true] <;> omega
  | i + 1 => by
    have ih := hexBody_len U sh sp t i
    have hg : (gapH U sh sp (i + 1)).size = if sp then 1 + (if sh then 2 else 0) else 0 := by
      unfold gapH
      cases sp
      · rfl
      · cases sh
        · rfl
        · cases U <;> rfl
    rw [hexBody, size_app, size_app, twoH_size, ih, hg]
    cases sp <;> cases sh <;> simp only [Bool.false_eq_true, if_false, if_true] <;> omega
theorem hexOf_len (F : Fl) (U : Bool) (t : ByteArray) (h : 0 < t.size) : (hexOf F U t).size = hexLen F.sh F.sp t.size := by
  obtain ⟨n, hn⟩ : ∃ n, t.size = n + 1 := ⟨t.size - 1, by omega⟩
  unfold hexOf
  rw [if_neg (by omega), size_app, hn, hexBody_len]
  unfold hexLen
  have h2 := preH_size U
  have h0 : (⟨#[]⟩ : ByteArray).size = 0 := rfl
  cases F.sh <;> cases F.sp <;> simp only [Bool.false_eq_true, if_false, if_true, h2, h0] <;> omega

/-- The text filled up, as the code fills it: to the left, or to the right. -/
theorem padOf_asc (F : Fl) {t : ByteArray} (h : Asc t) : padOf F t = (if F.hw = true ∧ F.mi = false then fill (padByte F.ze F.mi) (F.wid - t.size).toNat else ⟨#[]⟩) ++ t ++ (if F.hw = true ∧ F.mi = true then fill (padByte F.ze F.mi) (F.wid - t.size).toNat else ⟨#[]⟩) := by
  cases hw : F.hw
  · rw [padOf_none F t hw]; simp [nil_app, app_nil]
  · cases hm : F.mi
    · rw [padOf_left F t hw hm, h.runes]; simp [app_nil, hm]
    · rw [padOf_right F t hw hm, h.runes]; simp [nil_app, hm]

/-- A buffer whose new slice v, with text s, has not been stored back yet. -/
def Bd (W0 w : World) (o f : Nat) (F : Fl) (I : List Value) (v : Value) (s : ByteArray) : Prop := (∃ u, Held W0 w o f F I u) ∧ w.ownsRow W0.heap.size 5 1 v s.size (Lib.strCells s)

section
variable {W0 w : World} {o f : Nat} {F : Fl} {I : List Value} {v : Value} {s : ByteArray}

theorem Held.grown' {w' : World} {u : Value} {row : Option Nat} (h : Held W0 w o f F I u) (hg : w.grownBy w' row) (hB : ∀ k, row = some k → W0.heap.size ≤ k) (ho : some o ≠ row) (hf : some f ≠ row) : Held W0 w' o f F I u :=
  ⟨h.bel.grown hg h.bel.size hB, (hg.block o (heap_lt h.ob) ho).trans h.ob, (hg.block f (heap_lt h.fm) hf).trans h.fm⟩
theorem Held.below {w' : World} {u : Value} (h : Held W0 w o f F I u) (hb : Below w.heap.size w w') : Held W0 w' o f F I u :=
  ⟨h.bel.trans (.of_below (hb.mono h.bel.size)), (hb.block o (heap_lt h.ob)).trans h.ob, (hb.block f (heap_lt h.fm)).trans h.fm⟩
theorem Bd.below {w' : World} (h : Bd W0 w o f F I v s) (hb : Below w.heap.size w w') : Bd W0 w' o f F I v s := by
  obtain ⟨⟨u, hu⟩, ho⟩ := h
  refine ⟨⟨u, hu.below hb⟩, ho.kept (row := none) ⟨hb.os, hb.tape, hb.output, hb.size, fun k hk _ => hb.block k hk⟩ ?_⟩
  cases v.ownBlock <;> simp
theorem Bd.alloc (h : Bd W0 w o f F I v s) (x : Obj) : Bd W0 (w.alloc x) o f F I v s := h.below ((Below.refl _ _).alloc (Nat.le_refl _) _)
theorem Bd.drew (h : Bd W0 w o f F I v s) : Bd W0 w.drew o f F I v s := h.below (Below.drew (Below.refl _ _))
theorem Bd.drewN (h : Bd W0 w o f F I v s) (n : Nat) : Bd W0 (w.drewN n) o f F I v s := h.below (below_drewN (Below.refl _ _) n)
theorem Bd.of (h : St W0 w o f F I s) : ∃ v, w.cell? ⟨o, 0, none⟩ = some v ∧ Bd W0 w o f F I v s := by
  obtain ⟨v, hv, ho⟩ := h.ob
  exact ⟨v, cell_of_row w o 0 _ _ (0, 0) hv, ⟨v, ⟨h.bel, hv, h.fm⟩⟩, ho⟩
theorem Bd.put (h : Bd W0 w o f F I v s) : St W0 (w.setCell ⟨o, 0, none⟩ v) o f F I s := by
  obtain ⟨⟨u, hu⟩, ho⟩ := h
  exact hu.put ho
theorem Bd.fcell (h : Bd W0 w o f F I v s) (i : Nat) : w.cell? ⟨f, i, none⟩ = (fmCells o F I)[i]? := by
  obtain ⟨⟨u, hu⟩, _⟩ := h
  exact hu.fcell i
theorem Bd.ocell (h : Bd W0 w o f F I v s) : ∃ u, w.cell? ⟨o, 0, none⟩ = some u := by
  obtain ⟨⟨u, hu⟩, _⟩ := h
  exact ⟨u, hu.ocell⟩
theorem Bd.ofree (h : Bd W0 w o f F I v s) (i : Nat) : w.frozen? ⟨o, i, none⟩ = false := by
  obtain ⟨⟨u, hu⟩, _⟩ := h
  exact hu.ofree i
theorem Bd.near (h : Bd W0 w o f F I v s) : Near W0.heap.size o f W0 w := by
  obtain ⟨⟨u, hu⟩, _⟩ := h
  exact hu.bel

/-- 'append(buf, ..)', of bytes that lie in a block of their own. -/
theorem Bd.append (h : Bd W0 w o f F I v s) (t ty : TypeId) (i : TypeInfo) (ht : Try.prog.underlying t = some (.slice 5)) (hi : Try.prog.info? 5 = some i) (hz : i.zero = some (.int .u8 0)) (hsize : i.size = 1) (hby : i.bytes = 1)
    (a : Addr) (c : Nat) (r : ByteArray) (m : Nat) (hm : m = r.size) (hnews : ∀ j u, (Lib.strCells r)[j]? = some u → w.cell? (a.add j) = some u) (hb : s.size + r.size ≤ 140737488355328) :
    ∃ v' w', (Builtin.append_ #[t, t] ty #[v, .slice (some a) m c]).run Try.prog w = .ok v' w' ∧ Bd W0 w' o f F I v' (s ++ r) := by
  subst hm
  obtain ⟨⟨u, hu⟩, ho⟩ := h
  obtain ⟨v', w', hrun, ho', hg, _⟩ := run_append_own_at (P := Try.prog) w W0.heap.size t ty 5 i (.int .u8 0) 1 1 ht hi hz hsize hby rfl (by decide) v s.size (Lib.strCells s) ho a r.size c (Lib.strCells r) (by rw [Lib.strCells_length]; omega) hnews (Lib.strCells_oneCell r) (by unfold maxLen; omega) (by omega) hu.bel.size
  refine ⟨v', w', hrun, ⟨u, hu.grown' hg (fun k hk => (ho.lt k hk).1) (own_ne ho hu.ob (by decide)) (own_ne ho hu.fm (by decide))⟩, ?_⟩
  rw [size_app, strCells_app]
  exact ho'

theorem wpList_bd {ops : Array Oper} {rest : List Oper} {op : Oper} {a : Act} {Q : Exit → Act → World → Prop} (hgd : op.guard = none) (sl x : Operand) (t : TypeId)
    (ho : op.op = .call { callee := .builtin .append, args := #[sl, x], argTypes := #[t, t] }) (i : TypeInfo) (ht : Try.prog.underlying t = some (.slice 5)) (hi : Try.prog.info? 5 = some i) (hz : i.zero = some (.int .u8 0)) (hsize : i.size = 1) (hby : i.bytes = 1)
    (hs : a.eval sl = v) (h : Bd W0 w o f F I v s) (A : Addr) (m c : Nat) (r : ByteArray) (hx : a.eval x = .slice (some A) m c) (hm : m = r.size) (hnews : ∀ j u, (Lib.strCells r)[j]? = some u → w.cell? (A.add j) = some u) (hb : s.size + r.size ≤ 140737488355328)
    (k : ∀ v' w', Bd W0 w' o f F I v' (s ++ r) → wpList Try.prog ops Q rest (a.put op.dst v') w') : wpList Try.prog ops Q (op :: rest) a w := by
  refine wpList_plain hgd fun K hK => ?_
  obtain ⟨v', w', hrun, h2⟩ := h.append t op.type i ht hi hz hsize hby A c r m hm hnews hb
  unfold Oper.wp execOp
  simp only [ho, resolve, invoke, builtin, Sem.run_bind, Sem.run_pure, Result.andThen_ok, List.map_toArray, List.map_cons, List.map_nil, hs, hx, hrun]
  exact hK _ _ (k v' w' h2)

theorem step_bd {ops : Array Oper} {op : Oper} {a : Act} {K : Act → World → Prop} {Q : Exit → Act → World → Prop} {E : Prop} (hgd : op.guard = none) (sl x : Operand) (t : TypeId)
    (ho : op.op = .call { callee := .builtin .append, args := #[sl, x], argTypes := #[t, t] }) (i : TypeInfo) (ht : Try.prog.underlying t = some (.slice 5)) (hi : Try.prog.info? 5 = some i) (hz : i.zero = some (.int .u8 0)) (hsize : i.size = 1) (hby : i.bytes = 1)
    (hs : a.eval sl = v) (h : Bd W0 w o f F I v s) (A : Addr) (m c : Nat) (r : ByteArray) (hx : a.eval x = .slice (some A) m c) (hm : m = r.size) (hnews : ∀ j u, (Lib.strCells r)[j]? = some u → w.cell? (A.add j) = some u) (hb : s.size + r.size ≤ 140737488355328)
    (k : ∀ v' w', Bd W0 w' o f F I v' (s ++ r) → K (a.put op.dst v') w') : if Region.wanted op (yielded ops a.tmps) = true then Oper.wp Try.prog op a w K Q else E := by
  have hw : Region.wanted op (yielded ops a.tmps) = true := by simp [Region.wanted, hgd]
  rw [if_pos hw]
  obtain ⟨v', w', hrun, h2⟩ := h.append t op.type i ht hi hz hsize hby A c r m hm hnews hb
  unfold Oper.wp execOp
  simp only [ho, resolve, invoke, builtin, Sem.run_bind, Sem.run_pure, Result.andThen_ok, List.map_toArray, List.map_cons, List.map_nil, hs, hx, hrun]
  exact k v' w' h2
end

end Go.Proofs.Ytdadbfehackfjaa
