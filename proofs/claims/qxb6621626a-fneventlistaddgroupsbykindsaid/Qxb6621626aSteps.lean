/-
  WHAT EACH STATEMENT OF add DOES TO THE LIST (no walk here).
-/
import Derived.Test.Qxb6621626aList
namespace Go.Proofs.Qxb6621626a
open Go.RowKit
set_option linter.unusedVariables false

/-- From w new blocks are laid (w1), then one row of type e0, or a new block, is written (w2): a row of another type is as it was. -/
theorem kept_row {w w1 w2 : World} {row : Option Nat} {e0 e : TypeId} {k : Nat} {cs : Array Value} (hb : Below w.heap.size w w1) (hg : w1.grownBy w2 row)
    (hrow : ∀ k, row = some k → ∃ cs, w.heap[k]? = some (.cells cs e0 (0, 0))) (hk : w.heap[k]? = some (.cells cs e (0, 0))) (hne : e ≠ e0) : w2.heap[k]? = w.heap[k]? := by
  have hlt : k < w.heap.size := (Array.getElem?_eq_some_iff.1 hk).1
  rw [hg.block k (Nat.lt_of_lt_of_le hlt hb.size) (fun e => ?_), hb.block k hlt]
  obtain ⟨c, hc⟩ := hrow k e.symm
  rw [hk] at hc
  simp at hc
  exact hne hc.2
theorem kept_map {w w1 w2 : World} {row : Option Nat} {e0 : TypeId} {B b : Nat} {ids : List Int} (hb : Below w.heap.size w w1) (hg : w1.grownBy w2 row)
    (hrow : ∀ k, row = some k → ∃ cs, w.heap[k]? = some (.cells cs e0 (0, 0))) (hm : MapAt w B b ids) : w2.heap[b]? = w.heap[b]? := by
  rw [hg.block b (Nat.lt_of_lt_of_le hm.lt hb.size) (fun e => ?_), hb.block b hm.lt]
  obtain ⟨c, hc⟩ := hrow b e.symm
  obtain ⟨es, cl, hx⟩ := hm.isMap
  rw [hc] at hx
  cases hx

theorem MapIs.kept {w w' : World} {B : Nat} {v : Value} {ids : List Int} (h : MapIs w B v ids) (hk : ∀ b, MapAt w B b ids → w'.heap[b]? = w.heap[b]?) : MapIs w' B v ids := by
  rcases h with h | ⟨b, hv, h⟩
  · exact .inl h
  · exact .inr ⟨b, hv, h.keep (hk b h)⟩

section
variable {w w1 w2 : World} {B bl : Nat} {evs evs' : List Value} {tms tms' : List Int} {gs : List (List Int)} {ids near : List Int} {vE vT vK vM vN vE' vT' : Value} {vs : List Value}

/-- 'l.events = append(l.events, ev)'. -/
theorem LS.setE (h : LS w B bl evs tms gs ids near vE vT vK vM vN vs) (hb : Below w.heap.size w w1) (hg : w1.grownBy w2 vE.ownBlock) (ho : Own w2 B 39 (.pointer none) vE' evs') :
    LS (w2.setCell ⟨bl, 0, none⟩ vE') B bl evs' tms gs ids near vE' vT vK vM vN vs := by
  have hrow := h.ev.row
  have st2 : S5 w2 bl vE vT vK vM vN := h.st.keep (kept_row hb hg hrow h.st (by decide))
  have kp : ∀ (k : Nat) (cs : Array Value) (e : TypeId), w.heap[k]? = some (.cells cs e (0, 0)) → e ≠ 39 → e ≠ 81 → (w2.setCell ⟨bl, 0, none⟩ vE').heap[k]? = w.heap[k]? := fun k cs e hk h1 h2 => by
    rw [Below.heap_setCell _ _ _ _ (fun e => h.st.ne_row hk h2 e.symm)]; exact kept_row hb hg hrow hk h1
  refine ⟨h.base, st2.set0 vE', ?_, ?_, ?_, ?_, ?_⟩
  · exact ho.keep fun k hk => by
      obtain ⟨c, hc⟩ := ho.row k hk
      exact Below.heap_setCell _ _ _ _ (fun e => st2.ne_row hc (by decide) e.symm)
  · exact h.tm.keep fun k hk => by obtain ⟨c, hc⟩ := h.tm.row k hk; exact kp k c _ hc (by decide) (by decide)
  · exact h.ki.keep fun k hk => by obtain ⟨c, hc⟩ := h.ki.row k hk; exact kp k c _ hc (by decide) (by decide)
  · exact h.gr.keep fun i x k hx hk => by obtain ⟨c, hc⟩ := h.gr.row hx hk; exact kp k c _ hc (by decide) (by decide)
  · exact h.mp.kept fun b hm => by rw [Below.heap_setCell _ _ _ _ (fun e => h.st.ne_map hm e.symm)]; exact kept_map hb hg hrow hm

/-- 'l.times = append(l.times, ev.Time)'. -/
theorem LS.setT (h : LS w B bl evs tms gs ids near vE vT vK vM vN vs) (hb : Below w.heap.size w w1) (hg : w1.grownBy w2 vT.ownBlock) (ho : Own w2 B 2 (.int .i64 0) vT' (nums tms')) :
    LS (w2.setCell ⟨bl, 1, none⟩ vT') B bl evs tms' gs ids near vE vT' vK vM vN vs := by
  have hrow := h.tm.row
  have st2 : S5 w2 bl vE vT vK vM vN := h.st.keep (kept_row hb hg hrow h.st (by decide))
  have kp : ∀ (k : Nat) (cs : Array Value) (e : TypeId), w.heap[k]? = some (.cells cs e (0, 0)) → e ≠ 2 → e ≠ 81 → (w2.setCell ⟨bl, 1, none⟩ vT').heap[k]? = w.heap[k]? := fun k cs e hk h1 h2 => by
    rw [Below.heap_setCell _ _ _ _ (fun e => h.st.ne_row hk h2 e.symm)]; exact kept_row hb hg hrow hk h1
  refine ⟨h.base, st2.set1 vT', ?_, ?_, ?_, ?_, ?_⟩
  · exact h.ev.keep fun k hk => by obtain ⟨c, hc⟩ := h.ev.row k hk; exact kp k c _ hc (by decide) (by decide)
  · exact ho.keep fun k hk => by
      obtain ⟨c, hc⟩ := ho.row k hk
      exact Below.heap_setCell _ _ _ _ (fun e => st2.ne_row hc (by decide) e.symm)
  · exact h.ki.keep fun k hk => by obtain ⟨c, hc⟩ := h.ki.row k hk; exact kp k c _ hc (by decide) (by decide)
  · exact h.gr.keep fun i x k hx hk => by obtain ⟨c, hc⟩ := h.gr.row hx hk; exact kp k c _ hc (by decide) (by decide)
  · exact h.mp.kept fun b hm => by rw [Below.heap_setCell _ _ _ _ (fun e => h.st.ne_map hm e.symm)]; exact kept_map hb hg hrow hm

/-- The row of rows, an element stored. -/
theorem Own.store {w : World} {B g n c : Nat} {e : TypeId} {z : Value} {xs : List Value} (h : Own w B e z (.slice (some ⟨g, 0, none⟩) n c) xs) (j : Nat) (hj : j < xs.length) (u : Value) : Own (w.setCell ⟨g, j, none⟩ u) B e z (.slice (some ⟨g, 0, none⟩) n c) (xs.set j u) := by
  rcases h with ⟨h, _⟩ | ⟨g', r, hv, h1, h2, h3⟩
  · cases h
  · simp only [Value.slice.injEq, Option.some.injEq, Addr.mk.injEq, and_true] at hv
    obtain ⟨rfl, rfl, rfl⟩ := hv
    refine .inr ⟨g, r, by simp, h1, by simpa using h2, ?_⟩
    rw [heap_setCell_same w g j _ e u h3]
    simp [List.set_append_left _ _ hj]

/-- 'l.kinds[j] = append(l.kinds[j], p)'. -/
theorem LS.setK {gk m ck j xn xc g c' : Nat} {xa : Option Addr} {zs zs' : List Int} (h : LS w B bl evs tms gs ids near vE vT (.slice (some ⟨gk, 0, none⟩) m ck) vM vN vs)
    (hx : vs[j]? = some (.slice xa xn xc)) (hz : gs[j]? = some zs) (hb : Below w.heap.size w w1) (hg : w1.grownBy w2 (Value.slice xa xn xc).ownBlock)
    (ho : Own w2 B 3 (.int .i64 0) (.slice (some ⟨g, 0, none⟩) (xn + 1) c') (nums zs')) (hloc : (Value.slice xa xn xc).ownBlock = some g ∨ g = w1.heap.size) :
    LS (w2.setCell ⟨gk, j, none⟩ (.slice (some ⟨g, 0, none⟩) (xn + 1) c')) B bl evs tms (gs.set j zs') ids near vE vT (.slice (some ⟨gk, 0, none⟩) m ck) vM vN (vs.set j (.slice (some ⟨g, 0, none⟩) (xn + 1) c')) := by
  have hx1 : (vN :: vs)[j + 1]? = some (.slice xa xn xc) := by simpa using hx
  have hz1 : (near :: gs)[j + 1]? = some zs := by simpa using hz
  have hrow : ∀ k, (Value.slice xa xn xc).ownBlock = some k → ∃ cs, w.heap[k]? = some (.cells cs 3 (0, 0)) := fun k hk => h.gr.row hx1 hk
  obtain ⟨ck0, hck0⟩ := h.ki.row gk rfl
  have st2 : S5 w2 bl vE vT (.slice (some ⟨gk, 0, none⟩) m ck) vM vN := h.st.keep (kept_row hb hg hrow h.st (by decide))
  have ki2 : Own w2 B 52 (.slice none 0 0) (.slice (some ⟨gk, 0, none⟩) m ck) vs := h.ki.keep fun k hk => by obtain ⟨c, hc⟩ := h.ki.row k hk; exact kept_row hb hg hrow hc (by decide)
  obtain ⟨ck2, hck2⟩ := ki2.row gk rfl
  have kp : ∀ (k : Nat) (cs : Array Value) (e : TypeId), w.heap[k]? = some (.cells cs e (0, 0)) → e ≠ 3 → e ≠ 52 → (w2.setCell ⟨gk, j, none⟩ (.slice (some ⟨g, 0, none⟩) (xn + 1) c')).heap[k]? = w.heap[k]? := fun k cs e hk h1 h2 => by
    rw [Below.heap_setCell _ _ _ _ (fun e' => by subst e'; rw [hck0] at hk; simp at hk; exact h2 hk.2.symm)]; exact kept_row hb hg hrow hk h1
  have hjl : j < vs.length := (List.getElem?_eq_some_iff.1 hx).1
  have gr1 : Groups w1 B (vN :: vs) (near :: gs) := h.gr.below hb (Nat.le_refl _)
  have gr2 := gr1.grow hx1 hz1 hg ho (hloc.imp (fun e => e.symm) (fun e => ⟨g, rfl, by omega⟩))
  refine ⟨h.base, ?_, ?_, ?_, ?_, ?_, ?_⟩
  · exact st2.keep (Below.heap_setCell _ _ _ _ (fun e => st2.ne_row hck2 (by decide) e))
  · exact h.ev.keep fun k hk => by obtain ⟨c, hc⟩ := h.ev.row k hk; exact kp k c _ hc (by decide) (by decide)
  · exact h.tm.keep fun k hk => by obtain ⟨c, hc⟩ := h.tm.row k hk; exact kp k c _ hc (by decide) (by decide)
  · exact ki2.store j hjl _
  · have := gr2.other (setCell_grown w2 gk j (.slice (some ⟨g, 0, none⟩) (xn + 1) c')) hck2 (by decide)
    simpa using this
  · exact h.mp.kept fun b hm => by
      rw [Below.heap_setCell _ _ _ _ (fun e => by subst e; obtain ⟨es, cl, hmm⟩ := hm.isMap; rw [hck0] at hmm; cases hmm)]; exact kept_map hb hg hrow hm

/-- 'l.kindAt[k] = n' (the map is there). -/
theorem LS.setM {b : Nat} {ids' : List Int} (h : LS w B bl evs tms gs ids near vE vT vK (.map (some b)) vN vs) (hg : w.grownBy w2 (some b)) (hm : MapAt w B b ids) (hm' : MapAt w2 B b ids') :
    LS w2 B bl evs tms gs ids' near vE vT vK (.map (some b)) vN vs := by
  have kp : ∀ (k : Nat) (cs : Array Value) (e : TypeId), w.heap[k]? = some (.cells cs e (0, 0)) → w2.heap[k]? = w.heap[k]? := fun k cs e hk =>
    hg.block k (Array.getElem?_eq_some_iff.1 hk).1 (fun e' => by simp at e'; subst e'; obtain ⟨es, cl, hmm⟩ := hm.isMap; rw [hk] at hmm; cases hmm)
  exact ⟨h.base, h.st.keep (kp _ _ _ h.st), h.ev.keep fun k hk => by obtain ⟨c, hc⟩ := h.ev.row k hk; exact kp k c _ hc,
    h.tm.keep fun k hk => by obtain ⟨c, hc⟩ := h.tm.row k hk; exact kp k c _ hc,
    h.ki.keep fun k hk => by obtain ⟨c, hc⟩ := h.ki.row k hk; exact kp k c _ hc,
    h.gr.keep fun i x k hx hk => by obtain ⟨c, hc⟩ := h.gr.row hx hk; exact kp k c _ hc, .inr ⟨b, rfl, hm'⟩⟩

/-- 'l.kindAt = make(map[int]int)'. -/
theorem LS.newM (h : LS w B bl evs tms gs [] near vE vT vK vM vN vs) (hB : B ≤ w.heap.size) :
    LS ((w.alloc (.map #[] 0)).setCell ⟨bl, 3, none⟩ (.map (some w.heap.size))) B bl evs tms gs [] near vE vT vK (.map (some w.heap.size)) vN vs := by
  have h1 := h.alloc (.map #[] 0)
  have kp : ∀ (k : Nat) (cs : Array Value) (e : TypeId), (w.alloc (.map #[] 0)).heap[k]? = some (.cells cs e (0, 0)) → e ≠ 81 → ((w.alloc (.map #[] 0)).setCell ⟨bl, 3, none⟩ (.map (some w.heap.size))).heap[k]? = (w.alloc (.map #[] 0)).heap[k]? := fun k cs e hk h2 =>
    Below.heap_setCell _ _ _ _ (fun e => h1.st.ne_row hk h2 e.symm)
  refine ⟨h.base, h1.st.set3 _, ?_, ?_, ?_, ?_, .inr ⟨_, rfl, (MapAt.made w B hB).keep (Below.heap_setCell _ _ _ _ (fun e => by have := h.st.lt; simp at e; omega))⟩⟩
  · exact h1.ev.keep fun k hk => by obtain ⟨c, hc⟩ := h1.ev.row k hk; exact kp k c _ hc (by decide)
  · exact h1.tm.keep fun k hk => by obtain ⟨c, hc⟩ := h1.tm.row k hk; exact kp k c _ hc (by decide)
  · exact h1.ki.keep fun k hk => by obtain ⟨c, hc⟩ := h1.ki.row k hk; exact kp k c _ hc (by decide)
  · exact h1.gr.keep fun i x k hx hk => by obtain ⟨c, hc⟩ := h1.gr.row hx hk; exact kp k c _ hc (by decide)

/-- The kinds' row with one nil group more, by room: 'l.kinds = l.kinds[:k+1]; l.kinds[k] = nil'; or by append. -/
theorem LS.moreK {vK' : Value} (h : LS w B bl evs tms gs ids near vE vT vK vM vN vs) (hb : Below w.heap.size w w1) (hg : w1.grownBy w2 vK.ownBlock) (ho : Own w2 B 52 (.slice none 0 0) vK' (vs ++ [.slice none 0 0])) :
    LS (w2.setCell ⟨bl, 2, none⟩ vK') B bl evs tms (gs ++ [[]]) ids near vE vT vK' vM vN (vs ++ [.slice none 0 0]) := by
  have hrow := h.ki.row
  have st2 : S5 w2 bl vE vT vK vM vN := h.st.keep (kept_row hb hg hrow h.st (by decide))
  have kp : ∀ (k : Nat) (cs : Array Value) (e : TypeId), w.heap[k]? = some (.cells cs e (0, 0)) → e ≠ 52 → e ≠ 81 → (w2.setCell ⟨bl, 2, none⟩ vK').heap[k]? = w.heap[k]? := fun k cs e hk h1 h2 => by
    rw [Below.heap_setCell _ _ _ _ (fun e => h.st.ne_row hk h2 e.symm)]; exact kept_row hb hg hrow hk h1
  refine ⟨h.base, st2.set2 vK', ?_, ?_, ?_, ?_, ?_⟩
  · exact h.ev.keep fun k hk => by obtain ⟨c, hc⟩ := h.ev.row k hk; exact kp k c _ hc (by decide) (by decide)
  · exact h.tm.keep fun k hk => by obtain ⟨c, hc⟩ := h.tm.row k hk; exact kp k c _ hc (by decide) (by decide)
  · exact ho.keep fun k hk => by
      obtain ⟨c, hc⟩ := ho.row k hk
      exact Below.heap_setCell _ _ _ _ (fun e => st2.ne_row hc (by decide) e.symm)
  · have := h.gr.keep (w' := w2.setCell ⟨bl, 2, none⟩ vK') fun i x k hx hk => by obtain ⟨c, hc⟩ := h.gr.row hx hk; exact kp k c _ hc (by decide) (by decide)
    simpa using this.snocNil
  · exact h.mp.kept fun b hm => by rw [Below.heap_setCell _ _ _ _ (fun e => h.st.ne_map hm e.symm)]; exact kept_map hb hg hrow hm
end
end Go.Proofs.Qxb6621626a
