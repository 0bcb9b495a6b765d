/- The walk of zzFmt: a new formatter with flags over an empty buffer. -/
import Derived.Test.YtdadbfehackfjaaDoorFmt
set_option linter.unusedVariables false
set_option linter.unusedSimpArgs false
namespace Go.Proofs.YtdadbfehackfjaaDoor
open Go.RowKit Go.Deep

def noughts : List Value := List.replicate 68 (.int .u8 0)

theorem heap_two (w : World) (x : Obj) (A : Array Value) (T : TypeId) : ((w.alloc x).alloc (.cells A T)).drew.heap[w.heap.size + 1]? = some (.cells A T) := by
  have h := heap_alloc_new (w.alloc x) (.cells A T)
  have e : (w.alloc x).heap.size = w.heap.size + 1 := by simp
  rw [e] at h
  exact h

theorem heap_second (w : World) (x y : Obj) : ((w.alloc x).alloc y).heap[w.heap.size + 1]? = some y := by
  have h := heap_alloc_new (w.alloc x) y
  have e : (w.alloc x).heap.size = w.heap.size + 1 := by simp
  rwa [e] at h

set_option maxHeartbeats 4000000 in
set_option maxRecDepth 1000000 in
theorem zzFmt_any (F : Fl) (o : Nat) (w : World) (n : Nat) (hn : n = w.heap.size + 1) (ho : o < w.heap.size) :
    Calls Tryd.prog 35 #[(.agg #[.int .i64 F.wid, .int .i64 F.prec, .bool F.hw, .bool F.hp, .bool F.mi, .bool F.pl, .bool F.sh, .bool F.sp, .bool F.ze, .bool false, .bool false]), .pointer (some ⟨o, 0, none⟩)] w fun e w' => e = .returned (.pointer (some ⟨n, 0, none⟩)) ∧ Below w.heap.size w w' ∧ w'.heap[n]? = some (.cells (fmCells o F noughts) 67 (0, 0)) := by
  subst hn
  go_enter Tryd.func35, Tryd.ntmps35
  go_wp2
  go_end0
  go_wp2
  go_end0
  go_wp2
  go_region
  all_goals (
    go_wp2
    go_ret
    refine ⟨rfl, (by repeat (first | (with_reducible refine Below.drew ?_) | (with_reducible refine below_drewN ?_ _) | (with_reducible refine Below.alloc ?_ (by first | (simp; done) | (simp; omega)) _) | (with_reducible refine Below.setCell ?_ (by first | (simp; done) | (simp; omega)) _) | with_reducible exact Below.refl _ _)), ?_⟩
    refine (heap_two _ _ _ _).trans ?_
    exact congrArg (fun c => some (Obj.cells c 67)) (by kernel_rfl))

/-- A formatter that has just been made: in the world that it was made in nothing has been written to its buffer yet. -/
theorem St.start {w : World} {o f : Nat} {F : Fl} {I : List Value} (hf : w.heap[f]? = some (.cells (fmCells o F I) 67 (0, 0))) (ho : w.heap[o]? = some (.cells #[.slice none 0 0] 55 (0, 0))) : St w w o f F I ⟨#[]⟩ :=
  ⟨.refl _ _ _ _, hf, _, ho, World.ownsRow_nil _ _ _ _⟩

set_option maxHeartbeats 1000000 in
set_option maxRecDepth 100000 in
/-- (*fmt).truncateString. -/
theorem ts_any {w : World} {o f : Nat} {F : Fl} {I : List Value} (hfm : w.heap[f]? = some (.cells (fmCells o F I) 67 (0, 0))) (hF : F.Ok) (t : ByteArray) (ht : t.size ≤ 140737488355328) :
    Calls Tryd.prog 43 #[.pointer (some ⟨f, 0, none⟩), .string t] w fun e w' => e = .returned (.string (if F.hp then t.extract 0 (fwd t F.prec.toNat 0) else t)) ∧ Below w.heap.size w w' := by
  have hc := fun i => cell_of_row w f i _ _ (0, 0) hfm
  have c2 : w.cell? ⟨f, 2, none⟩ = some (.bool F.hp) := hc 2
  have c11 : w.cell? ⟨f, 11, none⟩ = some (.int .i64 F.prec) := hc 11
  have p0 := hF.plo
  have p1 := hF.phi
  clear hc hfm hF
  rcases hz : F.hp with _ | _
  · rw [hz] at c2
    clear hz
    go_enter Tryd.func43, Tryd.ntmps43
    go_wp2
    go_ret
    exact ⟨rfl, Below.refl _ _⟩
  · rw [hz] at c2
    clear hz
    obtain ⟨n, hn⟩ : ∃ n : Nat, F.prec = n := ⟨F.prec.toNat, by omega⟩
    rw [hn, Int.toNat_natCast]
    rw [hn] at c11 p1
    clear hn p0
    go_enter Tryd.func43, Tryd.ntmps43
    go_wp2
    go_loopw [5, 6] (fun vn _ w' => ∃ (pos k : Nat), w' = w.iter t pos ∧ vn = .int .i64 ((n : Int) - k) ∧ k ≤ n ∧ pos ≤ t.size ∧ Hid (fwd t k 0 = pos)) (fun _ _ w' => t.size - w'.iterPos w.heap.size)
    case atStart => exact ⟨0, 0, rfl, by simp, by omega, by omega, rfl⟩
    case round =>
      obtain ⟨pos, k, rfl, rfl, hk, hpos, hf⟩ := hrel
      by_cases hp : pos < t.size
      · have hnx : ∀ ty, (Instr.next (.pointer (some ⟨w.heap.size, 0, none⟩)) true ty).run Tryd.prog (w.iter t pos) = _ := fun ty => run_next_any w t pos ty hp
        have hwd := dec_le t pos hp
        by_cases hkn : k < n
        · have hkn' : ¬ ((n : Int) - k - 1 < 0) := by omega
          go_wp2
          go_roundw
          case rel =>
            refine ⟨pos + (Utf8.decode t pos).2, k + 1, rfl, by go_num, by omega, by omega, ?_⟩
            show fwd t (k + 1) 0 = _
            rw [fwd_snoc, hf.out, if_pos hp]
          case measure =>
            simp
            omega
        · obtain rfl : k = n := by omega
          have hkn' : (k : Int) - k - 1 < 0 := by omega
          have hpl : (pos : Int) ≤ (t.size : Int) := by omega
          go_wp2
          go_ret
          exact ⟨ret_str (by rw [hf.out]), below_iter _ _ _⟩
      · have hnx : ∀ ty, (Instr.next (.pointer (some ⟨w.heap.size, 0, none⟩)) true ty).run Tryd.prog (w.iter t pos) = _ := fun ty => run_next_end w t pos ty hp
        have hend : Hid (t.extract 0 (fwd t n 0) = t) := by
          have h1 := (fwd_le t n 0 (by omega)).1
          have h2 : t.size ≤ fwd t n 0 := by
            have : ∀ j, fwd t (k + j) 0 = pos := by
              intro j
              induction j with
              | zero => exact hf.out
              | succ j ih => rw [← Nat.add_assoc, fwd_snoc, ih, if_neg hp]
            have := this (n - k)
            rw [show k + (n - k) = n by omega] at this
            omega
          rw [show fwd t n 0 = t.size by omega]
          exact ByteArray.extract_zero_size
        go_wp2
        go_ret
        exact ⟨ret_str hend.out.symm, below_iter _ _ _⟩

end Go.Proofs.YtdadbfehackfjaaDoor
