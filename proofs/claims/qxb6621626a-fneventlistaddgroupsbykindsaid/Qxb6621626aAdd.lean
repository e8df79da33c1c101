/-
  add, ZZEventListAdd, ZZNewEventList, ZZEventListParts: the contracts.
-/
import Derived.Test.Qxb6621626aAdd15
namespace Go.Proofs.Qxb6621626a
open Go.RowKit
set_option linter.unusedVariables false

theorem add_any (w : World) (B bl be oe : Nat) (evs : List Value) (tms : List Int) (gs : List (List Int)) (ids near : List Int) (vE vT vK vM vN : Value) (vs : List Value) (t k : Int)
    (h : LS w B bl evs tms gs ids near vE vT vK vM vN vs) (hidl : ids.length = gs.length) (he : w.cell? ⟨be, oe, none⟩ = some (.int .i64 t)) (hbe : be < B) (hn1 : evs.length ≤ 1048576) (hn2 : tms.length ≤ 1048576) (hn3 : gs.length < 1048576)
    (hn4 : ∀ g ∈ gs, g.length ≤ 1048576) (hB : B ≤ w.heap.size) (hk1 : k ≤ 9223372036854775807) :
    Calls Try.prog 40 #[.pointer (some ⟨bl, 0, none⟩), .pointer (some ⟨be, oe, none⟩), .int .i64 k] w fun e w' => AddPost w B bl evs tms gs ids near (.pointer (some ⟨be, oe, none⟩)) t k e w' := by
  by_cases hk : k < 0
  · exact add_neg w B bl be oe evs tms gs ids near vE vT vK vM vN vs t k h he hbe hn1 hn2 hB hk
  have hk0 : 0 ≤ k := by omega
  by_cases hm : k ∈ ids
  · obtain ⟨j, hj, hjk⟩ := List.getElem_of_mem hm
    rcases h.mp with ⟨_, h0⟩ | ⟨b, rfl, hmap⟩
    · rw [h0] at hj; simp at hj
    · exact add_old w B bl be oe j b evs tms gs ids near vE vT vK vN vs t k h hmap (by omega) (by rw [List.getElem?_eq_getElem hj, hjk]) he hbe hn1 hn2 (by omega) (hn4 _ (List.getElem_mem _)) hB hk0 hk1
  · have hform : (∃ aK, vK = .slice aK vs.length vs.length) ∨ ∃ gk r, vK = .slice (some ⟨gk, 0, none⟩) vs.length (vs.length + r) ∧ 0 < r := by
      rcases h.ki with ⟨h1, h2⟩ | ⟨g, r, h1, _⟩
      · exact .inl ⟨none, by rw [h1, h2]; rfl⟩
      · by_cases hr : r = 0
        · subst hr; exact .inl ⟨_, h1⟩
        · exact .inr ⟨g, r, h1, by omega⟩
    rcases h.mp with ⟨rfl, rfl⟩ | ⟨b, rfl, hmap⟩
    · have h0 : gs.length = 0 := by simpa using hidl.symm
      rcases hform with ⟨aK, hv⟩ | ⟨gk, r, hv, hr⟩
      · exact add_first_full w B bl be oe evs tms gs near vE vT vK vN vs t k h aK hv h0 he hbe hn1 hn2 hn3 hB hk0 hk1
      · exact add_first_room w B bl be oe evs tms gs near vE vT vK vN vs t k gk r h hv hr h0 he hbe hn1 hn2 hn3 hB hk0 hk1
    · rcases hform with ⟨aK, hv⟩ | ⟨gk, r, hv, hr⟩
      · exact add_new_full w B bl be oe evs tms gs ids near vE vT vK vN vs t k b h hmap aK hv hidl hm he hbe hn1 hn2 hn3 hB hk0 hk1
      · exact add_new_room w B bl be oe evs tms gs ids near vE vT vK vN vs t k b gk r h hmap hv hr hidl hm he hbe hn1 hn2 hn3 hB hk0 hk1

/-- ZZEventListAdd. -/
theorem shimAdd_any (w : World) (B bl be oe : Nat) (evs : List Value) (tms : List Int) (gs : List (List Int)) (ids near : List Int) (vE vT vK vM vN : Value) (vs : List Value) (t k : Int)
    (h : LS w B bl evs tms gs ids near vE vT vK vM vN vs) (hidl : ids.length = gs.length) (he : w.cell? ⟨be, oe, none⟩ = some (.int .i64 t)) (hbe : be < B) (hn1 : evs.length ≤ 1048576) (hn2 : tms.length ≤ 1048576) (hn3 : gs.length < 1048576)
    (hn4 : ∀ g ∈ gs, g.length ≤ 1048576) (hB : B ≤ w.heap.size) (hk1 : k ≤ 9223372036854775807) :
    Calls Try.prog 30 #[.pointer (some ⟨bl, 0, none⟩), .pointer (some ⟨be, oe, none⟩), .int .i64 k] w fun e w' => AddPost w B bl evs tms gs ids near (.pointer (some ⟨be, oe, none⟩)) t k e w' := by
  have hA := add_any w B bl be oe evs tms gs ids near vE vT vK vM vN vs t k h hidl he hbe hn1 hn2 hn3 hn4 hB hk1
  clear h hidl he hn4
  go_enter Try.func30, Try.ntmps30
  go_wp2_with (go_at_call 40; refine hA.mono ?_; rintro e w' ⟨rfl, hp⟩)
  go_end0
  exact ⟨rfl, hp⟩

/-- ZZNewEventList. -/
theorem shimNew_any (vE vT vK vM vN : Value) (w : World) (aE aT aK aN : Option Addr) (nE cE nT cT nK cK nN cN : Nat) (r : Option Nat) (hE : vE = .slice aE nE cE) (hT : vT = .slice aT nT cT) (hK : vK = .slice aK nK cK) (hM : vM = .map r) (hN : vN = .slice aN nN cN) :
    Calls Try.prog 28 #[vE, vT, vK, vM, vN] w fun e w' => e = .returned (.pointer (some ⟨w.heap.size, 0, none⟩)) ∧ w.alloc (.cells #[vE, vT, vK, vM, vN] 81) = w' := by
  subst hE hT hK hM hN
  go_enter Try.func28, Try.ntmps28
  go_wp2
  go_ret
  exact ⟨rfl, rfl⟩

set_option maxHeartbeats 1000000 in
/-- ZZEventListParts. -/
theorem shimParts_any (vE vT vK vM vN : Value) (w : World) (bl : Nat) (h : S5 w bl vE vT vK vM vN) :
    Calls Try.prog 31 #[.pointer (some ⟨bl, 0, none⟩)] w fun e w' => e = .returned (.tuple #[vE, vT, vK, vM, vN]) ∧ ∃ q, w.drewN q = w' := by
  obtain ⟨c0, c1, c2, c3, c4⟩ := h.cells
  go_enter Try.func31, Try.ntmps31
  go_wp2
  go_quiet (fail)
  go_wp2
  exact bodyPost_ret (v := .tuple #[vE, vT, vK, vM, vN]) (by simp [results, Try.results31, go_sem]) rfl ⟨rfl, _, rfl⟩
end Go.Proofs.Qxb6621626a
