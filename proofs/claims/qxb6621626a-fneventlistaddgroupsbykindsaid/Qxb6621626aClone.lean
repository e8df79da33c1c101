/-
  THE CLONES: cloneI64, cloneInt, cloneEvents, cloneInts2: each gives a row of its own with the same elements.
-/
import Derived.Test.Qxb6621626aHeap
import Derived.LoopTactic
import Derived.Outline
import Derived.Lib.SliceRun
namespace Go.Proofs.Qxb6621626a
open Go.RowKit

theorem Try.info3 : (Try.prog.info? 3).map (fun i => (i.zero, i.size, i.bytes)) = some (some (.int .i64 0), 1, 8) := by kernel_rfl
theorem Try.info2 : (Try.prog.info? 2).map (fun i => (i.zero, i.size, i.bytes)) = some (some (.int .i64 0), 1, 8) := by kernel_rfl
theorem Try.info39 : (Try.prog.info? 39).map (fun i => (i.zero, i.size, i.bytes)) = some (some (.pointer none), 1, 8) := by kernel_rfl
theorem Try.info52 : (Try.prog.info? 52).map (fun i => (i.zero, i.size, i.bytes)) = some (some (.slice none 0 0), 1, 24) := by kernel_rfl

/-- What is in the new row after k rounds. -/
def part (z : Value) (xs : List Value) (k : Nat) : List Value := xs.take k ++ List.replicate (xs.length - k) z
theorem part_zero (z : Value) (xs : List Value) : part z xs 0 = List.replicate xs.length z := by simp [part]
theorem part_all (z : Value) (xs : List Value) : part z xs xs.length = xs := by simp [part]
theorem part_length (z : Value) (xs : List Value) (k : Nat) (hk : k ≤ xs.length) : (part z xs k).length = xs.length := by simp [part]; omega
theorem part_set (z : Value) (xs : List Value) (k : Nat) (x : Value) (hx : xs[k]? = some x) : (part z xs k).set k x = part z xs (k + 1) := by
  obtain ⟨hk, rfl⟩ := List.getElem?_eq_some_iff.1 hx
  unfold part
  have hl : (xs.take k).length = k := by simp; omega
  rw [List.set_append_right _ _ (by omega), hl, Nat.sub_self, show xs.length - k = (xs.length - (k + 1)) + 1 by omega, List.replicate_succ, List.set_cons_zero, List.take_succ_eq_append_getElem hk]
  rw [List.append_assoc, List.singleton_append]

/-- A row whose block is known whole: 'make' and stores into it. -/
def Blk (w : World) (g : Nat) (e : TypeId) (xs : List Value) : Prop := w.heap[g]? = some (.cells xs.toArray e (0, 0))
theorem Blk.cell {w : World} {g : Nat} {e : TypeId} {xs : List Value} (h : Blk w g e xs) (i : Nat) : w.cell? ⟨g, i, none⟩ = xs[i]? := by
  rw [cell_of_row w g i _ e (0, 0) h]; simp
theorem Blk.free {w : World} {g : Nat} {e : TypeId} {xs : List Value} (h : Blk w g e xs) (i : Nat) : w.frozen? ⟨g, i, none⟩ = false := frozen_of_row w g i _ e h
theorem Blk.set {w : World} {g : Nat} {e : TypeId} {xs : List Value} (h : Blk w g e xs) (i : Nat) (v : Value) : Blk (w.setCell ⟨g, i, none⟩ v) g e (xs.set i v) := by
  have := heap_setCell_same w g i _ e v h
  simpa [Blk] using this
theorem Blk.own {w : World} {g B : Nat} {e : TypeId} {xs : List Value} (h : Blk w g e xs) (hB : B ≤ g) (hm : xs.length ≤ maxLen) (z : Value) : Own w B e z (.slice (some ⟨g, 0, none⟩) xs.length xs.length) xs :=
  .inr ⟨g, 0, by simp, hB, by simpa using hm, by simpa [Blk] using h⟩
theorem Blk.below {w w' : World} {g N : Nat} {e : TypeId} {xs : List Value} (h : Blk w g e xs) (hb : Below N w w') (hg : g < N) : Blk w' g e xs := by
  unfold Blk; rw [hb.block g hg]; exact h
theorem Blk.lt {w : World} {g : Nat} {e : TypeId} {xs : List Value} (h : Blk w g e xs) : g < w.heap.size := (Array.getElem?_eq_some_iff.1 h).1

/-- 'make([]T, l, n)'. -/
theorem wpList_make_Blk {P : Program} (w : World) {ops : Array Oper} {rest : List Oper} {o : Oper} {a : Act} {Q : Exit → Act → World → Prop}
    (hg : o.guard = none) (lo co : Operand) (t : TypeId) (hop : o.op = Op.makeSlice t lo co)
    (e : TypeId) (i : TypeInfo) (z : Value) (bytes : Nat) (h1 : P.underlying t = some (.slice e)) (h2 : P.info? e = some i) (h3 : i.zero = some z) (h4 : i.size = 1) (h5 : i.bytes = bytes) (hz : z.cells = #[z])
    (l n : Nat) (hln : l ≤ n) (hl : a.eval lo = .int .i64 (l : Int)) (hc : a.eval co = .int .i64 (n : Int)) (b2 : bytes ≤ 64) (b3 : n ≤ 1048576)
    (hK : ∀ w', Blk w' w.heap.size e (List.replicate n z) → Below w.heap.size w w' → w'.heap.size = w.heap.size + 1 → wpList P ops Q rest (a.put o.dst (.slice (some ⟨w.heap.size, 0, none⟩) l n)) w') :
    wpList P ops Q (o :: rest) a w := by
  refine wpList_plain hg fun K hK' => ?_
  have hb : (i.bytes : Int) * (n : Int) ≤ 281474976710656 := by
    rw [h5]
    have : ((bytes * n : Nat) : Int) ≤ 281474976710656 := by
      have := Nat.mul_le_mul b2 b3
      omega
    rwa [Int.natCast_mul] at this
  have hr := run_make (P := P) w t e i z h1 h2 h3 .i64 .i64 (l : Int) (n : Int) (by omega) (by omega) hb (by omega)
  simp only [Int.toNat_natCast] at hr
  unfold Oper.wp
  simp only [execOp, hop, hl, hc, hr, Sem.run_bind, Sem.run_pure, Result.andThen]
  refine hK' _ _ (hK _ ?_ ((Below.refl _ w).alloc (Nat.le_refl _) _) (by simp))
  unfold Blk
  rw [show (w.alloc (.cells (madeCells z.cells (n * i.size)) e)).heap[w.heap.size]? = some (.cells (madeCells z.cells (n * i.size)) e) from Go.heap_alloc_new w _, h4, Nat.mul_one, hz, ← toList_madeCells_one z n]

theorem Blk.setBelow {w w0 : World} {g N : Nat} (hb : Below N w0 w) (hg : N ≤ g) (i : Nat) (v : Value) : Below N w0 (w.setCell ⟨g, i, none⟩ v) := hb.setCell (p := ⟨g, i, none⟩) hg v

set_option maxHeartbeats 1000000 in
/-- cloneInt. -/
theorem cloneInt_any (v : Value) (zs : List Int) (w : World) (h : Ints w v zs) (hz : zs.length ≤ 1048576) :
    Calls Try.prog 27 #[v] w fun e w' => ∃ v', e = .returned v' ∧ Own w' w.heap.size 3 (.int .i64 0) v' (nums zs) ∧ Below w.heap.size w w' := by
  obtain ⟨a, cap, rfl, hc1, hc2, h3⟩ := h
  unfold maxLen at hc2
  have qn := fun a l c l' c' (w : World) => Lib.run_eql_slice_nil (P := Try.prog) w 52 3 a l c l' c' Try.underlying52
  cases a with
  | none =>
    have hzs : zs = [] := by
      rcases h3 with h | ⟨b, off, h, _⟩
      · exact h
      · cases h
    subst hzs
    go_enter Try.func27, Try.ntmps27
    go_wp2
    go_ret
    exact ⟨_, rfl, Own.nil _ _ _ _, Below.refl _ _⟩
  | some ad =>
    obtain ⟨i0, hi, hz0, hz1, hz2⟩ := info_parts Try.info3
    rcases h3 with rfl | ⟨b, off, had, hcell⟩
    · go_enter Try.func27, Try.ntmps27
      go_wp2_with (at_make; refine wpList_make_Blk _ rfl _ _ 52 rfl 3 i0 (.int .i64 0) 8 Try.underlying52 hi hz0 hz1 hz2 rfl 0 0 (Nat.le_refl _) rfl rfl (by decide) (by omega) ?_; intro w1 hb1 bel1 hs1)
      go_loopw [4] (fun i wr => i = .int .i64 0 ∧ wr = w1) (fun _ _ => 0)
      case atStart => exact ⟨rfl, rfl⟩
      case round =>
        obtain ⟨rfl, rfl⟩ := hrel
        go_wp2
        go_ret
        exact ⟨_, rfl, hb1.own (Nat.le_refl _) (by simp) _, bel1⟩
    · simp only [Option.some.injEq] at had
      subst had
      go_enter Try.func27, Try.ntmps27
      go_wp2_with (at_make; refine wpList_make_Blk _ rfl _ _ 52 rfl 3 i0 (.int .i64 0) 8 Try.underlying52 hi hz0 hz1 hz2 rfl zs.length zs.length (Nat.le_refl _) rfl rfl (by decide) hz ?_; intro w1 hb1 bel1 hs1)
      go_loopw [4] (fun i wr => ∃ k : Nat, k ≤ zs.length ∧ i = .int .i64 k ∧ Blk wr w.heap.size 3 (part (.int .i64 0) (nums zs) k) ∧ Below w.heap.size w wr) (fun i _ => zs.length - (intOf i).toNat)
      case atStart => exact ⟨0, Nat.zero_le _, rfl, by rw [part_zero]; simpa using hb1, bel1⟩
      case round =>
        obtain ⟨k, hk, rfl, hbk, bel⟩ := hrel
        by_cases hlt : k < zs.length
        · have hg : zs[k]? = some zs[k] := List.getElem?_eq_getElem hlt
          have hl := World.block_lt_of_cell? _ _ (hcell k _ hg)
          have hcx : wr.cell? ⟨b, off + k, none⟩ = some (.int .i64 zs[k]) := (bel.cell (p := ⟨b, off + k, none⟩) hl).trans (hcell k _ hg)
          have hpl : (part (.int .i64 0) (nums zs) k).length = zs.length := by rw [part_length _ _ _ (by simpa using hk)]; simp
          have hco : wr.cell? ⟨w.heap.size, k, none⟩ = some ((part (.int .i64 0) (nums zs) k)[k]'(by omega)) := by rw [hbk.cell]; exact List.getElem?_eq_getElem _
          have hfo : wr.frozen? ⟨w.heap.size, k, none⟩ = false := hbk.free k
          generalize (part (.int .i64 0) (nums zs) k)[k]'(by omega) = old at hco
          have R := hbk.set k (.int .i64 zs[k])
          rw [part_set _ _ _ _ (by simp [nums, hg])] at R
          have RB := Blk.setBelow bel (Nat.le_refl w.heap.size) k (.int .i64 zs[k])
          clear hbk hpl hg hl
          go_wp2
          go_roundw
          case rel => exact ⟨k + 1, by omega, by go_num, R, RB⟩
          case measure => simp [intOf]; omega
        · have hk' : k = (nums zs).length := by simp; omega
          rw [hk', part_all] at hbk
          go_wp2
          go_ret
          exact ⟨_, rfl, by simpa using hbk.own (Nat.le_refl _) (by simp [maxLen]; omega) _, bel⟩

set_option maxHeartbeats 1000000 in
/-- cloneI64. -/
theorem cloneI64_any (v : Value) (zs : List Int) (w : World) (h : Ints w v zs) (hz : zs.length ≤ 1048576) :
    Calls Try.prog 11 #[v] w fun e w' => ∃ v', e = .returned v' ∧ Own w' w.heap.size 2 (.int .i64 0) v' (nums zs) ∧ Below w.heap.size w w' := by
  obtain ⟨a, cap, rfl, hc1, hc2, h3⟩ := h
  unfold maxLen at hc2
  have qn := fun a l c l' c' (w : World) => Lib.run_eql_slice_nil (P := Try.prog) w 22 2 a l c l' c' Try.underlying22
  cases a with
  | none =>
    have hzs : zs = [] := by
      rcases h3 with h | ⟨b, off, h, _⟩
      · exact h
      · cases h
    subst hzs
    go_enter Try.func11, Try.ntmps11
    go_wp2
    go_ret
    exact ⟨_, rfl, Own.nil _ _ _ _, Below.refl _ _⟩
  | some ad =>
    obtain ⟨i0, hi, hz0, hz1, hz2⟩ := info_parts Try.info2
    rcases h3 with rfl | ⟨b, off, had, hcell⟩
    · go_enter Try.func11, Try.ntmps11
      go_wp2_with (at_make; refine wpList_make_Blk _ rfl _ _ 22 rfl 2 i0 (.int .i64 0) 8 Try.underlying22 hi hz0 hz1 hz2 rfl 0 0 (Nat.le_refl _) rfl rfl (by decide) (by omega) ?_; intro w1 hb1 bel1 hs1)
      go_loopw [4] (fun i wr => i = .int .i64 0 ∧ wr = w1) (fun _ _ => 0)
      case atStart => exact ⟨rfl, rfl⟩
      case round =>
        obtain ⟨rfl, rfl⟩ := hrel
        go_wp2
        go_ret
        exact ⟨_, rfl, hb1.own (Nat.le_refl _) (by simp) _, bel1⟩
    · simp only [Option.some.injEq] at had
      subst had
      go_enter Try.func11, Try.ntmps11
      go_wp2_with (at_make; refine wpList_make_Blk _ rfl _ _ 22 rfl 2 i0 (.int .i64 0) 8 Try.underlying22 hi hz0 hz1 hz2 rfl zs.length zs.length (Nat.le_refl _) rfl rfl (by decide) hz ?_; intro w1 hb1 bel1 hs1)
      go_loopw [4] (fun i wr => ∃ k : Nat, k ≤ zs.length ∧ i = .int .i64 k ∧ Blk wr w.heap.size 2 (part (.int .i64 0) (nums zs) k) ∧ Below w.heap.size w wr) (fun i _ => zs.length - (intOf i).toNat)
      case atStart => exact ⟨0, Nat.zero_le _, rfl, by rw [part_zero]; simpa using hb1, bel1⟩
      case round =>
        obtain ⟨k, hk, rfl, hbk, bel⟩ := hrel
        by_cases hlt : k < zs.length
        · have hg : zs[k]? = some zs[k] := List.getElem?_eq_getElem hlt
          have hl := World.block_lt_of_cell? _ _ (hcell k _ hg)
          have hcx : wr.cell? ⟨b, off + k, none⟩ = some (.int .i64 zs[k]) := (bel.cell (p := ⟨b, off + k, none⟩) hl).trans (hcell k _ hg)
          have hpl : (part (.int .i64 0) (nums zs) k).length = zs.length := by rw [part_length _ _ _ (by simpa using hk)]; simp
          have hco : wr.cell? ⟨w.heap.size, k, none⟩ = some ((part (.int .i64 0) (nums zs) k)[k]'(by omega)) := by rw [hbk.cell]; exact List.getElem?_eq_getElem _
          have hfo : wr.frozen? ⟨w.heap.size, k, none⟩ = false := hbk.free k
          generalize (part (.int .i64 0) (nums zs) k)[k]'(by omega) = old at hco
          have R := hbk.set k (.int .i64 zs[k])
          rw [part_set _ _ _ _ (by simp [nums, hg])] at R
          have RB := Blk.setBelow bel (Nat.le_refl w.heap.size) k (.int .i64 zs[k])
          clear hbk hpl hg hl
          go_wp2
          go_roundw
          case rel => exact ⟨k + 1, by omega, by go_num, R, RB⟩
          case measure => simp [intOf]; omega
        · have hk' : k = (nums zs).length := by simp; omega
          rw [hk', part_all] at hbk
          go_wp2
          go_ret
          exact ⟨_, rfl, by simpa using hbk.own (Nat.le_refl _) (by simp [maxLen]; omega) _, bel⟩

end Go.Proofs.Qxb6621626a
