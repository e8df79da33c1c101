/-
  add: its contract on the list.
-/
import Derived.Test.Qxb6621626aAdd12
import Derived.BigRegion
namespace Go.Proofs.Qxb6621626a
open Go.RowKit
set_option linter.unusedVariables false

/-- What add does to the groups and the kinds. -/
def Stepped (gs : List (List Int)) (ids : List Int) (k p : Int) (gs' : List (List Int)) (ids' : List Int) : Prop :=
  (k < 0 ∧ gs' = gs ∧ ids' = ids) ∨ (0 ≤ k ∧ ∃ (j : Nat) (g : List Int), ids[j]? = some k ∧ gs[j]? = some g ∧ ids' = ids ∧ gs' = gs.set j (g ++ [p])) ∨ (0 ≤ k ∧ k ∉ ids ∧ ids' = ids ++ [k] ∧ gs' = gs ++ [[p]])

/-- Behind add. -/
def AddPost (w : World) (B bl : Nat) (evs : List Value) (tms : List Int) (gs : List (List Int)) (ids near : List Int) (ev : Value) (t k : Int) (e : Ending) (w' : World) : Prop :=
  e = .returned (.tuple #[]) ∧ ∃ gs' ids' vE vT vK vM vN vs, LS w' B bl (evs ++ [ev]) (tms ++ [t]) gs' ids' near vE vT vK vM vN vs ∧ Stepped gs ids k evs.length gs' ids' ∧ Below B w w'

set_option maxRecDepth 100000 in
set_option maxHeartbeats 4000000 in
theorem add_neg (w : World) (B bl be oe : Nat) (evs : List Value) (tms : List Int) (gs : List (List Int)) (ids near : List Int) (vE vT vK vM vN : Value) (vs : List Value) (t k : Int)
    (h : LS w B bl evs tms gs ids near vE vT vK vM vN vs) (he : w.cell? ⟨be, oe, none⟩ = some (.int .i64 t)) (hbe : be < B) (hn1 : evs.length ≤ 1048576) (hn2 : tms.length ≤ 1048576) (hB : B ≤ w.heap.size) (hk : k < 0) :
    Calls Try.prog 40 #[.pointer (some ⟨bl, 0, none⟩), .pointer (some ⟨be, oe, none⟩), .int .i64 k] w fun e w' => AddPost w B bl evs tms gs ids near (.pointer (some ⟨be, oe, none⟩)) t k e w' := by
  go_enter Try.func40, Try.ntmps40
  refine wp_split (c2 := cR (Try.f40.body.getD .skip)) ?_
  go_wp2
  exact tail_any w B bl be oe evs tms gs ids near vE vT vK vM vN vs t _ _ _ _ _ _ _ _ _ _ _ _ _ _ _ _ _ _ _ _ _ _ _ _ _ _ _ _ _ _ _ _ _ _ _ _ _ _ _ _ _ _ _ _ _ _ _ _ _ _ _ _ _ _ _ _ _ _ _ _ _ _ _ _ _ _ _ _ _ _ _ _ _ _ _ _ _ _ _ _ _ _ _ _ _ _ _ _ _ _ _ _ _ _ _ _ _ _ _ h he hbe hn1 hn2 hB (fun w' vE' vT' hL hb => ⟨rfl, gs, ids, _, _, _, _, _, _, hL, .inl ⟨hk, rfl, rfl⟩, hb⟩)

set_option maxRecDepth 100000 in
set_option maxHeartbeats 4000000 in
theorem add_old (w : World) (B bl be oe j b : Nat) (evs : List Value) (tms : List Int) (gs : List (List Int)) (ids near : List Int) (vE vT vK vN : Value) (vs : List Value) (t k : Int)
    (h : LS w B bl evs tms gs ids near vE vT vK (.map (some b)) vN vs) (hm : MapAt w B b ids) (hj : j < gs.length) (hij : ids[j]? = some k) (he : w.cell? ⟨be, oe, none⟩ = some (.int .i64 t)) (hbe : be < B) (hn1 : evs.length ≤ 1048576) (hn2 : tms.length ≤ 1048576) (hn3 : gs.length ≤ 1048576) (hn4 : gs[j].length ≤ 1048576) (hB : B ≤ w.heap.size) (hk : 0 ≤ k) (hk1 : k ≤ 9223372036854775807) :
    Calls Try.prog 40 #[.pointer (some ⟨bl, 0, none⟩), .pointer (some ⟨be, oe, none⟩), .int .i64 k] w fun e w' => AddPost w B bl evs tms gs ids near (.pointer (some ⟨be, oe, none⟩)) t k e w' := by
  obtain ⟨c, hlook, hc⟩ := hm.look (wf_of (x := k) (by omega) hk1)
  obtain rfl := hc j hij
  have hmem : decide (k ∈ ids) = true := by simpa using List.mem_of_getElem? hij
  rw [hmem] at hlook
  obtain ⟨_, _, _, c3, _⟩ := h.st.cells
  clear hmem hc
  go_enter Try.func40, Try.ntmps40
  refine wp_split (c2 := cR (Try.f40.body.getD .skip)) ?_
  go_wp2
  exact r11_then w B bl be oe j evs tms gs ids near vE vT vK (.map (some b)) vN vs t _ _ _ _ _ _ _ _ _ _ _ _ _ _ _ _ _ _ _ _ _ _ _ _ _ _ _ _ _ _ _ _ _ _ _ _ _ _ _ _ _ _ _ _ _ _ _ _ _ _ _ _ _ _ _ _ _ _ _ _ _ _ _ _ _ _ _ _ _ _ _ _ _ _ _ _ _ _ h hj he hbe hn1 hn2 hn3 hn4 hB (fun w' vE' vT' vK' vs' hL hb => ⟨rfl, _, ids, _, _, _, _, _, _, hL, .inr (.inl ⟨hk, j, gs[j], hij, List.getElem?_eq_getElem hj, rfl, rfl⟩), hb⟩)
end Go.Proofs.Qxb6621626a
