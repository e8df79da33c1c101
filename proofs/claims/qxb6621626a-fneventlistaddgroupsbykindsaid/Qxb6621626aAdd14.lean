/-
  add at a kind that is new.
-/
import Derived.Test.Qxb6621626aAdd13
namespace Go.Proofs.Qxb6621626a
open Go.RowKit
set_option linter.unusedVariables false

theorem set_snoc (gs : List (List Int)) (p : Int) (h : gs.length < (gs ++ [([] : List Int)]).length) : (gs ++ [([] : List Int)]).set gs.length ((gs ++ [([] : List Int)])[gs.length] ++ [p]) = gs ++ [[p]] := by
  rw [List.set_append_right _ _ (Nat.le_refl _), Nat.sub_self]
  simp

/-- A store of what is there turns nothing. -/
theorem setCell_same (w : World) (g i : Nat) (cs : Array Value) (e : TypeId) (v : Value) (hg : w.heap[g]? = some (.cells cs e (0, 0))) (h : cs[i]? = some v) (k : Nat) : (w.setCell ⟨g, i, none⟩ v).heap[k]? = w.heap[k]? := by
  by_cases hk : k = g
  · subst hk
    rw [heap_setCell_same w k i cs e v hg, hg]
    congr 2
    apply Array.ext_getElem?
    intro j
    rw [Array.getElem?_setIfInBounds]
    split
    · rename_i hj; subst hj; rw [if_pos (Array.getElem?_eq_some_iff.1 h).1, h]
    · rfl
  · exact Below.heap_setCell _ _ _ _ hk

/-- From the list with a nil group more to add's end. -/
theorem new_end {w w3 : World} {B bl : Nat} {evs : List Value} {tms : List Int} {gs : List (List Int)} {ids near : List Int} {ev vM vN : Value} {t k : Int} (hk : 0 ≤ k) (hno : k ∉ ids) (bel : Below B w w3) (j : Nat) (hj : j = gs.length) (hj' : j < (gs ++ [([] : List Int)]).length)
    (w' : World) (vE' vT' vK' : Value) (vs' : List Value) (hL : LS w' B bl (evs ++ [ev]) (tms ++ [t]) ((gs ++ [([] : List Int)]).set j ((gs ++ [([] : List Int)])[j] ++ [(evs.length : Int)])) (ids ++ [k]) near vE' vT' vK' vM vN vs') (hb : Below B w3 w') :
    AddPost w B bl evs tms gs ids near ev t k (.returned (.tuple #[])) w' := by
  subst hj
  rw [set_snoc gs _ hj'] at hL
  exact ⟨rfl, _, _, _, _, _, _, _, _, hL, .inr (.inr ⟨hk, hno, rfl, rfl⟩), bel.trans hb⟩

set_option maxRecDepth 100000 in
set_option maxHeartbeats 4000000 in
/-- The map is there; the kinds' row is full. -/
theorem add_new_full (w : World) (B bl be oe : Nat) (evs : List Value) (tms : List Int) (gs : List (List Int)) (ids near : List Int) (vE vT vK vN : Value) (vs : List Value) (t k : Int) (b : Nat)
    (h : LS w B bl evs tms gs ids near vE vT vK (.map (some b)) vN vs) (hm : MapAt w B b ids) (aK : Option Addr) (hvK : vK = .slice aK vs.length vs.length) (hidl : ids.length = gs.length) (hno : k ∉ ids) (he : w.cell? ⟨be, oe, none⟩ = some (.int .i64 t)) (hbe : be < B) (hn1 : evs.length ≤ 1048576) (hn2 : tms.length ≤ 1048576) (hn3 : gs.length < 1048576) (hB : B ≤ w.heap.size) (hk : 0 ≤ k) (hk1 : k ≤ 9223372036854775807) :
    Calls Try.prog 40 #[.pointer (some ⟨bl, 0, none⟩), .pointer (some ⟨be, oe, none⟩), .int .i64 k] w fun e w' => AddPost w B bl evs tms gs ids near (.pointer (some ⟨be, oe, none⟩)) t k e w' := by
  have hlen : vs.length = gs.length := by have := h.gr.len; simpa using this
  obtain ⟨c, hlook, _⟩ := hm.look (wf_of (x := k) (by omega) hk1)
  have hmem : decide (k ∈ ids) = false := by simpa using hno
  rw [hmem] at hlook
  obtain ⟨w1, hput, hm1, hg1⟩ := hm.put (wf_of (x := k) (by omega) hk1) hno (by omega)
  rw [hidl, ← hlen] at hput
  have L1 := h.setM hg1 hm hm1
  have bel1 : Below B w w1 := (Below.refl B w).grown hg1 hB (fun q hq => by cases hq; exact hm.1)
  have hB1 := Nat.le_trans hB bel1.size
  have qm := fun r (w : World) => run_eql_map_nil (P := Try.prog) w 57 3 3 r Try.underlying57
  obtain ⟨_, _, c2, c3, _⟩ := h.st.cells
  obtain ⟨_, _, d2, d3, _⟩ := L1.st.cells
  have f2 := L1.st.free 2
  have hlt1 := L1.st.lt
  have hki := L1.ki
  rw [hvK] at c2 d2 hki
  obtain ⟨i52, hi, p0, p1, p2⟩ := info_parts Try.info52
  have hv1 : vs.length ≤ 1048576 := by omega
  have haft : ∀ w' w2 : World, Below w1.heap.size w1 w' → w'.grownBy w2 (Value.slice aK vs.length vs.length).ownBlock → w2.cell? ⟨bl, 2, none⟩ = some (.slice aK vs.length vs.length) ∧ w2.frozen? ⟨bl, 2, none⟩ = false := by
    intro w' w2 hb hg
    have st2 := L1.st.keep (kept_row hb (hvK ▸ hg) L1.ki.row L1.st (by decide))
    have := st2.cells.2.2.1
    rw [hvK] at this
    exact ⟨this, st2.free 2⟩
  have HL : Hid (vs.length = gs.length) := hlen
  clear hlen hmem hidl
  go_enter Try.func40, Try.ntmps40
  refine wp_split (c2 := cR (Try.f40.body.getD .skip)) ?_
  go_wp2_with (at_builtin; refine wpList_append_At _ rfl _ _ 51 rfl B 52 i52 (.slice none 0 0) 24 Try.underlying51 hi p0 p1 p2 rfl (.slice aK vs.length vs.length) vs vs.length rfl rfl (by exact hki.alloc _) ⟨w1.heap.size, 0, none⟩ 1 (.slice none 0 0) rfl (by simp) rfl rfl hv1 (by decide) (by simp; omega) ?_; intro g c' w2 hown hgrow hloc; obtain ⟨z0, z1⟩ := haft _ w2 (by exact (Below.refl _ w1).alloc (Nat.le_refl _) _) hgrow)
  have hgrow' : (w1.alloc (.cells #[.slice none 0 0] 52)).grownBy w2 vK.ownBlock := hvK ▸ hgrow
  have L2 := L1.moreK (w1 := w1.alloc (.cells #[.slice none 0 0] 52)) ((Below.refl _ w1).alloc (Nat.le_refl _) _) hgrow' hown
  have bel2 : Below B w (w2.setCell ⟨bl, 2, none⟩ (.slice (some ⟨g, 0, none⟩) (vs.length + 1) c')) :=
    ((bel1.alloc hB1 _).grown hgrow' (by simp; omega) (fun q hq => (L1.ki.lt q hq).1)).setCell (p := ⟨bl, 2, none⟩) h.base _
  have hjj : vs.length < (gs ++ [([] : List Int)]).length := by have := HL.out; simp; omega
  have he2 : (gs ++ [([] : List Int)])[vs.length] = [] := by simp [HL.out]
  exact r11_then _ B bl be oe vs.length evs tms (gs ++ [[]]) (ids ++ [k]) near vE vT _ _ vN _ t _ _ _ _ _ _ _ _ _ _ _ _ _ _ _ _ _ _ _ _ _ _ _ _ _ _ _ _ _ _ _ _ _ _ _ _ _ _ _ _ _ _ _ _ _ _ _ _ _ _ _ _ _ _ _ _ _ _ _ _ _ _ _ _ _ _ _ _ _ _ _ _ _ _ _ _ _ _ L2 hjj (by rw [bel2.cell (p := ⟨be, oe, none⟩) hbe]; exact he) hbe hn1 hn2 (by simp; omega) (by rw [he2]; simp) (Nat.le_trans hB bel2.size) (fun w' vE' vT' vK' vs' hL hb => new_end hk hno bel2 vs.length HL.out hjj w' vE' vT' vK' vs' hL hb)

theorem Own.reslice {w : World} {B g n r : Nat} {e : TypeId} {z : Value} {xs : List Value} (h : Own w B e z (.slice (some ⟨g, 0, none⟩) n (n + r)) xs) (hr : 0 < r) (hn : xs.length = n) : Own w B e z (.slice (some ⟨g, 0, none⟩) (n + 1) (n + r)) (xs ++ [z]) ∧ ∃ cs, w.heap[g]? = some (.cells cs e (0, 0)) ∧ cs[n]? = some z := by
  subst hn
  rcases h with ⟨h, _⟩ | ⟨g', r', hv, h1, h2, h3⟩
  · cases h
  · simp only [Value.slice.injEq, Option.some.injEq, Addr.mk.injEq, and_true, true_and] at hv
    obtain ⟨rfl, hv⟩ := hv
    obtain rfl : r = r' := by omega
    obtain ⟨q, rfl⟩ : ∃ q, r = q + 1 := ⟨r - 1, by omega⟩
    refine ⟨.inr ⟨g, q, ?_, h1, ?_, ?_⟩, _, h3, ?_⟩
    · simp; omega
    · simp; omega
    · rw [h3]; simp [List.replicate_succ]
    · simp

set_option maxRecDepth 100000 in
set_option maxHeartbeats 4000000 in
/-- The map is there; the kinds' row has room. -/
theorem add_new_room (w : World) (B bl be oe : Nat) (evs : List Value) (tms : List Int) (gs : List (List Int)) (ids near : List Int) (vE vT vK vN : Value) (vs : List Value) (t k : Int) (b gk r : Nat)
    (h : LS w B bl evs tms gs ids near vE vT vK (.map (some b)) vN vs) (hm : MapAt w B b ids) (hvK : vK = .slice (some ⟨gk, 0, none⟩) vs.length (vs.length + r)) (hr : 0 < r) (hidl : ids.length = gs.length) (hno : k ∉ ids) (he : w.cell? ⟨be, oe, none⟩ = some (.int .i64 t)) (hbe : be < B) (hn1 : evs.length ≤ 1048576) (hn2 : tms.length ≤ 1048576) (hn3 : gs.length < 1048576) (hB : B ≤ w.heap.size) (hk : 0 ≤ k) (hk1 : k ≤ 9223372036854775807) :
    Calls Try.prog 40 #[.pointer (some ⟨bl, 0, none⟩), .pointer (some ⟨be, oe, none⟩), .int .i64 k] w fun e w' => AddPost w B bl evs tms gs ids near (.pointer (some ⟨be, oe, none⟩)) t k e w' := by
  have hlen : vs.length = gs.length := by have := h.gr.len; simpa using this
  obtain ⟨c, hlook, _⟩ := hm.look (wf_of (x := k) (by omega) hk1)
  have hmem : decide (k ∈ ids) = false := by simpa using hno
  rw [hmem] at hlook
  obtain ⟨w1, hput, hm1, hg1⟩ := hm.put (wf_of (x := k) (by omega) hk1) hno (by omega)
  rw [hidl, ← hlen] at hput
  have L1 := h.setM hg1 hm hm1
  have bel1 : Below B w w1 := (Below.refl B w).grown hg1 hB (fun q hq => by cases hq; exact hm.1)
  have hB1 := Nat.le_trans hB bel1.size
  have qm := fun r (w : World) => run_eql_map_nil (P := Try.prog) w 57 3 3 r Try.underlying57
  obtain ⟨_, _, c2, c3, _⟩ := h.st.cells
  obtain ⟨_, _, d2, d3, _⟩ := L1.st.cells
  have f2 := L1.st.free 2
  have hlt1 := L1.st.lt
  have hki := L1.ki
  subst hvK
  obtain ⟨hown, cs, hcs, hz⟩ := hki.reslice hr rfl
  have hcm : w1.heap.size < w1.heap.size + 1 := by omega
  have hcap : vs.length + r ≤ 9223372036854775807 := by
    obtain ⟨_, cap, hc1, _, hc2, _⟩ := hki.form
    simp only [Value.slice.injEq, true_and] at hc1
    unfold maxLen at hc2
    omega
  have hroom : (vs.length : Int) < (vs.length : Int) + (r : Int) := by omega
  have hroom1 : (vs.length : Int) + 1 ≤ (vs.length : Int) + (r : Int) := by omega
  have hgk : gk < w1.heap.size := (Array.getElem?_eq_some_iff.1 hcs).1
  have hnebl : bl ≠ gk := L1.st.ne_row hcs (by decide)
  have hnegk : gk ≠ bl := fun e => hnebl e.symm
  have cg : w1.cell? ⟨gk, vs.length, none⟩ = some (.slice none 0 0) := by rw [cell_of_row w1 gk _ cs 52 (0, 0) hcs]; exact hz
  have fg : w1.frozen? ⟨gk, vs.length, none⟩ = false := frozen_of_row w1 gk _ cs 52 hcs
  obtain ⟨w3, hw3⟩ : ∃ w3, w3 = w1.setCell ⟨bl, 2, none⟩ (.slice (some ⟨gk, 0, none⟩) (vs.length + 1) (vs.length + r)) := ⟨_, rfl⟩
  have L2 := L1.moreK (w1 := w1) (w2 := w1) (Below.refl _ _) ⟨rfl, rfl, rfl, Nat.le_refl _, fun _ _ _ => rfl⟩ hown
  have g2 : (w1.setCell ⟨bl, 2, none⟩ (.slice (some ⟨gk, 0, none⟩) (vs.length + 1) (vs.length + r))).cell? ⟨gk, vs.length, none⟩ = some (.slice none 0 0) := by
    rw [World.cell?_of_block (w := w1) (a := ⟨gk, vs.length, none⟩) (Below.heap_setCell _ _ _ _ hnegk)]; exact cg
  have g3 : (w1.setCell ⟨bl, 2, none⟩ (.slice (some ⟨gk, 0, none⟩) (vs.length + 1) (vs.length + r))).frozen? ⟨gk, vs.length, none⟩ = false := by
    rw [World.frozen?_of_block (w := w1) (a := ⟨gk, vs.length, none⟩) (Below.heap_setCell _ _ _ _ hnegk)]; exact fg
  have HL : Hid (vs.length = gs.length) := hlen
  clear hlen hmem hidl hw3 w3
  go_enter Try.func40, Try.ntmps40
  refine wp_split (c2 := cR (Try.f40.body.getD .skip)) ?_
  go_wp2
  go_region
  go_wp2
  have L3 : LS (((w1.setCell ⟨bl, 2, none⟩ (.slice (some ⟨gk, 0, none⟩) (vs.length + 1) (vs.length + r))).setCell ⟨gk, vs.length, none⟩ (.slice none 0 0)).drew) B bl evs tms (gs ++ [[]]) (ids ++ [k]) near vE vT _ _ vN _ :=
    L2.step fun q _ => setCell_same _ gk vs.length cs 52 _ (by rw [Below.heap_setCell _ _ _ _ hnegk]; exact hcs) hz q
  have bel2 : Below B w (((w1.setCell ⟨bl, 2, none⟩ (.slice (some ⟨gk, 0, none⟩) (vs.length + 1) (vs.length + r))).setCell ⟨gk, vs.length, none⟩ (.slice none 0 0)).drew) :=
    ((bel1.setCell (p := ⟨bl, 2, none⟩) h.base _).setCell (p := ⟨gk, vs.length, none⟩) (hki.lt gk rfl).1 _).drew
  have hjj : vs.length < (gs ++ [([] : List Int)]).length := by have := HL.out; simp; omega
  have he2 : (gs ++ [([] : List Int)])[vs.length] = [] := by simp [HL.out]
  exact r11_then _ B bl be oe vs.length evs tms (gs ++ [[]]) (ids ++ [k]) near vE vT _ _ vN _ t _ _ _ _ _ _ _ _ _ _ _ _ _ _ _ _ _ _ _ _ _ _ _ _ _ _ _ _ _ _ _ _ _ _ _ _ _ _ _ _ _ _ _ _ _ _ _ _ _ _ _ _ _ _ _ _ _ _ _ _ _ _ _ _ _ _ _ _ _ _ _ _ _ _ _ _ _ _ L3 hjj (by rw [bel2.cell (p := ⟨be, oe, none⟩) hbe]; exact he) hbe hn1 hn2 (by simp; omega) (by rw [he2]; simp) (Nat.le_trans hB bel2.size) (fun w' vE' vT' vK' vs' hL hb => new_end hk hno bel2 vs.length HL.out hjj w' vE' vT' vK' vs' hL hb)
end Go.Proofs.Qxb6621626a
