/-
  THE LIST IN MEMORY: its struct, its rows, its map; what turns none of it.
-/
import Derived.Test.Qxb6621626aBytes
namespace Go.Proofs.Qxb6621626a
open Go.RowKit Go.Maps
set_option linter.unusedVariables false

theorem keyed3 : Keyed Try.prog 3 := int_keyed Try.underlying3
theorem zero3 (w : World) : (zeroValue 3).run Try.prog w = .ok (.int .i64 0) w := by kernel_rfl

/-- Block b is a map that sends the j-th of ids to j, and nothing else. -/
def MapAt (w : World) (B b : Nat) (ids : List Int) : Prop :=
  B ≤ b ∧ ∃ D : DataW Unit, w.ownsMap Try.prog 3 (plainElem Try.prog 3) b ids.length D ∧ Maps.size D = ids.length ∧
    (∀ x : Int, Maps.has D (.int .i64 x) = true ↔ x ∈ ids) ∧ (∀ (j : Nat) (x : Int), ids[j]? = some x → D.atKey (.int .i64 x) (.lit (.int .i64 0)) = .lit (.int .i64 (j : Int)))

/-- The map value in the list: nil where there is no kind, or such a block. -/
def MapIs (w : World) (B : Nat) (v : Value) (ids : List Int) : Prop := (v = .map none ∧ ids = []) ∨ ∃ b, v = .map (some b) ∧ MapAt w B b ids

theorem wf_of {x : Int} (h0 : -9223372036854775808 ≤ x) (h1 : x ≤ 9223372036854775807) : (Lit.int .i64 x).wf = true := by
  simp [Lit.wf, IntKind.min, IntKind.max, IntKind.signed, IntKind.bits]; omega

theorem MapAt.lt {w : World} {B b : Nat} {ids : List Int} (h : MapAt w B b ids) : b < w.heap.size := by
  obtain ⟨_, D, h1, _⟩ := h; exact h1.lt
theorem MapAt.isMap {w : World} {B b : Nat} {ids : List Int} (h : MapAt w B b ids) : ∃ es clock, w.heap[b]? = some (.map es clock) := by
  obtain ⟨_, D, ⟨es, clock, h1, _⟩, _⟩ := h; exact ⟨es, clock, h1⟩
theorem MapAt.keep {w w' : World} {B b : Nat} {ids : List Int} (h : MapAt w B b ids) (hb : w'.heap[b]? = w.heap[b]?) : MapAt w' B b ids := by
  obtain ⟨h0, D, ⟨es, clock, h1, h2⟩, h3⟩ := h
  exact ⟨h0, D, ⟨es, clock, by rw [hb]; exact h1, h2⟩, h3⟩
theorem MapAt.made (w : World) (B : Nat) (hB : B ≤ w.heap.size) : MapAt (w.alloc (.map #[] 0)) B w.heap.size [] :=
  ⟨hB, .map [], World.ownsMap_made _ _ _ _, rfl, fun x => by simp [Maps.has], fun j x h => by simp at h⟩

/-- What a look-up gives. -/
theorem MapAt.look {w : World} {B b : Nat} {ids : List Int} (h : MapAt w B b ids) {x : Int} (hx : (Lit.int .i64 x).wf = true) :
    ∃ c : Int, (Instr.lookup 57 (.map (some b)) (.int .i64 x) true).run Try.prog w = .ok (.tuple #[.int .i64 c, .bool (decide (x ∈ ids))]) w ∧ ∀ j : Nat, ids[j]? = some x → c = j := by
  obtain ⟨_, D, h1, h2, h3, h4⟩ := h
  obtain ⟨v, ps, hrun, hv⟩ := h1.look_ok keyed3 Try.underlying57 (zero3 w) (plainElem_int Try.underlying3 (by decide)) (keyOf_int_mk Try.underlying3 hx)
  obtain ⟨c, rfl, hc, _⟩ := plainElem_int_inv Try.underlying3 hv
  refine ⟨c, ?_, fun j hj => ?_⟩
  · rw [hrun]
    have : Maps.has D (.int .i64 x) = decide (x ∈ ids) := by rw [Bool.eq_iff_iff, h3]; simp
    rw [this]
  · have := h4 j x hj
    have e := congrArg Prod.fst hc
    simp only at e
    rw [this] at e
    simp at e
    exact e.symm

theorem look_none (w : World) {x : Int} (hx : (Lit.int .i64 x).wf = true) : (Instr.lookup 57 (.map none) (.int .i64 x) true).run Try.prog w = .ok (.tuple #[.int .i64 0, .bool false]) w :=
  Maps.look_nil true keyed3 Try.underlying57 (zero3 w) (keyOf_int_mk Try.underlying3 hx)

/-- A store at a key that is not there yet, of the next number. -/
theorem MapAt.put {w : World} {B b : Nat} {ids : List Int} (h : MapAt w B b ids) {x : Int} (hx : (Lit.int .i64 x).wf = true) (hno : x ∉ ids) (hl : ids.length ≤ 1048576) :
    ∃ w', (Instr.mapUpdate 57 (.map (some b)) (.int .i64 x) (.int .i64 (ids.length : Int))).run Try.prog w = .ok () w' ∧ MapAt w' B b (ids ++ [x]) ∧ w.grownBy w' (some b) := by
  obtain ⟨h0, D, h1, h2, h3, h4⟩ := h
  obtain ⟨w', hr, ho, hg⟩ := h1.update keyed3 Try.underlying57 (by unfold maxLen; omega) (keyOf_int_mk Try.underlying3 hx) (plainElem_int Try.underlying3 (wf_of (x := (ids.length : Int)) (by omega) (by omega)))
  have hD : IsMap D := h1.isMap
  have hkl : WideAt.IsKeyLit (.int .i64 x) := trivial
  have ne : ∀ y : Int, y ≠ x → (Lit.int .i64 y) ≠ .int .i64 x := fun y hy e => hy (by simpa using e)
  refine ⟨w', hr, ⟨h0, _, by simpa using ho, ?_, ?_, ?_⟩, hg⟩
  · rw [Maps.size_put (h1.tidy keyed3)]
    have : Maps.has D (.int .i64 x) = false := by
      cases hh : Maps.has D (.int .i64 x) with
      | false => rfl
      | true => exact absurd ((h3 x).1 hh) hno
    rw [this]
    simp [h2]
  · intro y
    by_cases hy : y = x
    · subst hy
      rw [Maps.has_put_same hD hkl]
      simp
    · rw [Maps.has_put_other (ne y hy), h3]
      simp [hy]
  · intro j y hj
    by_cases hjl : j < ids.length
    · rw [List.getElem?_append_left hjl] at hj
      have hy : y ≠ x := fun e => hno (e ▸ List.mem_of_getElem? hj)
      rw [Maps.atKey_put_other (ne y hy)]
      exact h4 j y hj
    · rw [List.getElem?_append_right (by omega)] at hj
      cases hd : j - ids.length with
      | succ q => rw [hd] at hj; simp at hj
      | zero =>
        rw [hd] at hj
        simp at hj
        subst hj
        rw [Maps.atKey_put_same hD hkl]
        have : j = ids.length := by omega
        rw [this]

theorem MapIs.keep {w w' : World} {B : Nat} {v : Value} {ids : List Int} (h : MapIs w B v ids) (hk : ∀ b, v = .map (some b) → w'.heap[b]? = w.heap[b]?) : MapIs w' B v ids := by
  rcases h with h | ⟨b, hv, h⟩
  · exact .inl h
  · exact .inr ⟨b, hv, h.keep (hk b hv)⟩
/-- A map stays while a row of cells is written. -/
theorem MapIs.row {w w' : World} {B : Nat} {v : Value} {ids : List Int} {row : Option Nat} (h : MapIs w B v ids) (hg : w.grownBy w' row) (hr : ∀ k, row = some k → ∃ cs e, w.heap[k]? = some (.cells cs e (0, 0))) : MapIs w' B v ids := by
  rcases h with h | ⟨b, hv, h⟩
  · exact .inl h
  · refine .inr ⟨b, hv, h.keep (hg.block b h.lt fun e => ?_)⟩
    obtain ⟨cs, t, hc⟩ := hr b e.symm
    obtain ⟨es, cl, hm⟩ := h.isMap
    rw [hc] at hm
    cases hm

/-- The list's struct. -/
def S5 (w : World) (bl : Nat) (vE vT vK vM vN : Value) : Prop := w.heap[bl]? = some (.cells #[vE, vT, vK, vM, vN] 81 (0, 0))
theorem S5.lt {w : World} {bl : Nat} {vE vT vK vM vN : Value} (h : S5 w bl vE vT vK vM vN) : bl < w.heap.size := (Array.getElem?_eq_some_iff.1 h).1
theorem S5.cells {w : World} {bl : Nat} {vE vT vK vM vN : Value} (h : S5 w bl vE vT vK vM vN) :
    w.cell? ⟨bl, 0, none⟩ = some vE ∧ w.cell? ⟨bl, 1, none⟩ = some vT ∧ w.cell? ⟨bl, 2, none⟩ = some vK ∧ w.cell? ⟨bl, 3, none⟩ = some vM ∧ w.cell? ⟨bl, 4, none⟩ = some vN := by
  refine ⟨?_, ?_, ?_, ?_, ?_⟩ <;> (rw [cell_of_row w bl _ _ 81 (0, 0) h]; rfl)
theorem S5.free {w : World} {bl : Nat} {vE vT vK vM vN : Value} (h : S5 w bl vE vT vK vM vN) (i : Nat) : w.frozen? ⟨bl, i, none⟩ = false := frozen_of_row w bl i _ 81 h
theorem S5.keep {w w' : World} {bl : Nat} {vE vT vK vM vN : Value} (h : S5 w bl vE vT vK vM vN) (hb : w'.heap[bl]? = w.heap[bl]?) : S5 w' bl vE vT vK vM vN := by unfold S5; rw [hb]; exact h
theorem S5.set0 {w : World} {bl : Nat} {vE vT vK vM vN : Value} (h : S5 w bl vE vT vK vM vN) (x : Value) : S5 (w.setCell ⟨bl, 0, none⟩ x) bl x vT vK vM vN := heap_setCell_same w bl 0 _ 81 x h
theorem S5.set1 {w : World} {bl : Nat} {vE vT vK vM vN : Value} (h : S5 w bl vE vT vK vM vN) (x : Value) : S5 (w.setCell ⟨bl, 1, none⟩ x) bl vE x vK vM vN := heap_setCell_same w bl 1 _ 81 x h
theorem S5.set2 {w : World} {bl : Nat} {vE vT vK vM vN : Value} (h : S5 w bl vE vT vK vM vN) (x : Value) : S5 (w.setCell ⟨bl, 2, none⟩ x) bl vE vT x vM vN := heap_setCell_same w bl 2 _ 81 x h
theorem S5.set3 {w : World} {bl : Nat} {vE vT vK vM vN : Value} (h : S5 w bl vE vT vK vM vN) (x : Value) : S5 (w.setCell ⟨bl, 3, none⟩ x) bl vE vT vK x vN := heap_setCell_same w bl 3 _ 81 x h
theorem setCell_grown (w : World) (g i : Nat) (x : Value) : w.grownBy (w.setCell ⟨g, i, none⟩ x) (some g) :=
  ⟨rfl, rfl, rfl, by simp [World.setCell], fun j hj hne => Below.heap_setCell _ _ _ _ (fun e => hne (by simp [e]))⟩
/-- A struct's block is no row of another type, and no map. -/
theorem S5.ne_row {w : World} {bl k : Nat} {vE vT vK vM vN : Value} {cs : Array Value} {e : TypeId} (h : S5 w bl vE vT vK vM vN) (hr : w.heap[k]? = some (.cells cs e (0, 0))) (he : e ≠ 81) : bl ≠ k := fun hk => by
  subst hk
  rw [S5, hr] at h
  simp at h
  exact he h.2
theorem S5.ne_map {w : World} {B bl b : Nat} {vE vT vK vM vN : Value} {ids : List Int} (h : S5 w bl vE vT vK vM vN) (hm : MapAt w B b ids) : bl ≠ b := fun hk => by
  subst hk
  obtain ⟨es, cl, hc⟩ := hm.isMap
  rw [S5, hc] at h
  cases h

/-- THE LIST: events evs, times tms, groups gs of the kinds ids, near. -/
structure LS (w : World) (B bl : Nat) (evs : List Value) (tms : List Int) (gs : List (List Int)) (ids near : List Int) (vE vT vK vM vN : Value) (vs : List Value) : Prop where
  base : B ≤ bl
  st : S5 w bl vE vT vK vM vN
  ev : Own w B 39 (.pointer none) vE evs
  tm : Own w B 2 (.int .i64 0) vT (nums tms)
  ki : Own w B 52 (.slice none 0 0) vK vs
  gr : Groups w B (vN :: vs) (near :: gs)
  mp : MapIs w B vM ids

/-- What a write of one block (or of none) leaves of the list: every part whose block it is not. -/
theorem LS.step {w w' : World} {B bl : Nat} {evs : List Value} {tms : List Int} {gs : List (List Int)} {ids near : List Int} {vE vT vK vM vN : Value} {vs : List Value}
    (h : LS w B bl evs tms gs ids near vE vT vK vM vN vs) (hk : ∀ k, k < w.heap.size → w'.heap[k]? = w.heap[k]?) : LS w' B bl evs tms gs ids near vE vT vK vM vN vs :=
  ⟨h.base, h.st.keep (hk _ h.st.lt), h.ev.keep fun k hv => hk k (h.ev.lt k hv).2, h.tm.keep fun k hv => hk k (h.tm.lt k hv).2, h.ki.keep fun k hv => hk k (h.ki.lt k hv).2,
    h.gr.keep fun i x k hx hv => hk k (h.gr.lt hx hv).2, h.mp.keep fun b hv => by
      rcases h.mp with ⟨h1, _⟩ | ⟨b', h1, h2⟩
      · rw [h1] at hv; cases hv
      · rw [h1] at hv; simp at hv; subst hv; exact hk _ h2.lt⟩
theorem LS.alloc {w : World} {B bl : Nat} {evs : List Value} {tms : List Int} {gs : List (List Int)} {ids near : List Int} {vE vT vK vM vN : Value} {vs : List Value}
    (h : LS w B bl evs tms gs ids near vE vT vK vM vN vs) (o : Obj) : LS (w.alloc o) B bl evs tms gs ids near vE vT vK vM vN vs := h.step fun k hk => Below.heap_alloc w o k hk
end Go.Proofs.Qxb6621626a
