/-
  THE LAW's MIDDLE: what stays while the law makes its own row of new kinds.
-/
import Derived.Test.Qxb6621626aPh38
namespace Go.Proofs.Qxb6621626a
open Go.RowKit Go.Maps
set_option linter.unusedVariables false

theorem below_drewN {B : Nat} {a w : World} (h : Below B a w) (k : Nat) : Below B a (w.drewN k) := ⟨h.os, h.tape, h.output, h.size, h.block⟩

theorem MapIs.below {w w' : World} {B N : Nat} {v : Value} {ids : List Int} (h : MapIs w B v ids) (hb : Below N w w') (hN : w.heap.size ≤ N) : MapIs w' B v ids := h.keep fun b hv => by
  rcases h with ⟨h1, _⟩ | ⟨b', h1, h2⟩
  · rw [h1] at hv; cases hv
  · rw [h1] at hv; simp at hv; subst hv
    exact hb.block _ (Nat.lt_of_lt_of_le h2.lt hN)

/-- What the law knows when the adds are done. -/
structure Mid7 (w : World) (q n m cA : Nat) (aA : Option Addr) (gs G : List (List Int)) (ids I AK : List Int) (vK vM kv iv : Value) : Prop where
  ki : ∃ B vs, Own w B 52 (.slice none 0 0) vK vs ∧ Groups w B vs gs
  mp : ∃ B, MapIs w B vM ids
  kv : ∃ B B' kvs, Own w B 52 (.slice none 0 0) kv kvs ∧ Groups w B' kvs G
  iv : ∃ B, Own w B 3 (.int .i64 0) iv (nums I)
  ak : ∃ B, Own w B 3 (.int .i64 0) (.slice aA AK.length cA) (nums AK)
  cl : Closed G I AK n q gs ids
  hG : G.length = m
  hI : I.length = m
  hm : m ≤ 4096
  hq : q ≤ AK.length
  hq1 : q ≤ 4096
  hn : n ≤ 65536
  hg : ∀ g ∈ G, g.length ≤ 131072
  wI : ∀ x ∈ I, (Lit.int .i64 x).wf = true
  wA : ∀ x ∈ AK, (Lit.int .i64 x).wf = true

section
variable {w w' : World} {q n m cA : Nat} {aA : Option Addr} {gs G : List (List Int)} {ids I AK : List Int} {vK vM kv iv : Value}
theorem Mid7.below (h : Mid7 w q n m cA aA gs G ids I AK vK vM kv iv) {N : Nat} (hb : Below N w w') (hN : w.heap.size ≤ N) : Mid7 w' q n m cA aA gs G ids I AK vK vM kv iv :=
  { h with
    ki := by obtain ⟨B, vs, a, b⟩ := h.ki; exact ⟨B, vs, a.below hb hN, b.below hb hN⟩
    mp := by obtain ⟨B, a⟩ := h.mp; exact ⟨B, a.below hb hN⟩
    kv := by obtain ⟨B, B', vs, a, b⟩ := h.kv; exact ⟨B, B', vs, a.below hb hN, b.below hb hN⟩
    iv := by obtain ⟨B, a⟩ := h.iv; exact ⟨B, a.below hb hN⟩
    ak := by obtain ⟨B, a⟩ := h.ak; exact ⟨B, a.below hb hN⟩ }
theorem Mid7.fin (h : Mid7 w q n m cA aA gs G ids I AK vK vM kv iv) {B : Nat} {nv : Value} (hn : Own w B 3 (.int .i64 0) nv (nums (news I AK q))) : Fin7 w q n m (news I AK q).length cA aA gs G ids I AK vK vM kv iv nv :=
  { ki := h.ki, mp := h.mp, kv := h.kv, iv := h.iv, ak := h.ak, cl := h.cl, hG := h.hG, hI := h.hI, hm := h.hm, hq := h.hq, hq1 := h.hq1, hn := h.hn, hg := h.hg, wI := h.wI, wA := h.wA, nv := ⟨B, hn⟩, hr := rfl }
end
end Go.Proofs.Qxb6621626a
