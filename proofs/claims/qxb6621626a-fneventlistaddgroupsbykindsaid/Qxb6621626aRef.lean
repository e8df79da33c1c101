/-
  THE LAW's REFERENCE DATA (its clones and its events), and the list while the adds run.
-/
import Derived.Test.Qxb6621626aPh32
namespace Go.Proofs.Qxb6621626a
open Go.RowKit
set_option linter.unusedVariables false

/-- The sizes. -/
structure Sz (q n m : Nat) (G : List (List Int)) (T I AK near AT : List Int) : Prop where
  hT : T.length = n
  hG : G.length = m
  hI : I.length = m
  hm : m ≤ 4096
  hqK : q ≤ AK.length
  hqT : q ≤ AT.length
  hK1 : AK.length ≤ 4096
  hT1 : AT.length ≤ 4096
  hn : n ≤ 65536
  hnear : near.length ≤ 65536
  hg : ∀ g ∈ G, g.length ≤ 131072
  wI : ∀ x ∈ I, (Lit.int .i64 x).wf = true
  wA : ∀ x ∈ AK, (Lit.int .i64 x).wf = true
  pos : ∀ x ∈ I, 0 ≤ x
  nd : I.Nodup

/-- The clones. -/
structure Cl7 (w : World) (G : List (List Int)) (T I AK near AT : List Int) (v0 kv iv v3 v4 av : Value) : Prop where
  t : ∃ B, Own w B 2 (.int .i64 0) v0 (nums T)
  k : ∃ B B' kvs, Own w B 52 (.slice none 0 0) kv kvs ∧ Groups w B' kvs G
  i : ∃ B, Own w B 3 (.int .i64 0) iv (nums I)
  n : ∃ B, Own w B 3 (.int .i64 0) v3 (nums near)
  a : ∃ B, Own w B 2 (.int .i64 0) v4 (nums AT)
  ak : ∃ B, Own w B 3 (.int .i64 0) av (nums AK)
/-- Events: each a pointer at a block of its own, which holds its time. -/
def Evs (w : World) (es : List Value) (T : List Int) : Prop :=
  ∀ (i : Nat) (t : Int), T[i]? = some t → ∃ b, es[i]? = some (.pointer (some ⟨b, 0, none⟩)) ∧ w.cell? ⟨b, 0, none⟩ = some (.int .i64 t)
/-- An own row of events. -/
def ERow (w : World) (v : Value) (es : List Value) (T : List Int) : Prop := (∃ B, Own w B 39 (.pointer none) v es) ∧ es.length = T.length ∧ Evs w es T

section
variable {w w' : World} {q n m : Nat} {G : List (List Int)} {T I AK near AT : List Int} {es ads : List Value} {v0 kv iv v3 v4 av : Value}
theorem Cl7.below (h : Cl7 w G T I AK near AT v0 kv iv v3 v4 av) {N : Nat} (hb : Below N w w') (hN : w.heap.size ≤ N) : Cl7 w' G T I AK near AT v0 kv iv v3 v4 av :=
  { t := by obtain ⟨B, a⟩ := h.t; exact ⟨B, a.below hb hN⟩
    k := by obtain ⟨B, B', vs, a, b⟩ := h.k; exact ⟨B, B', vs, a.below hb hN, b.below hb hN⟩
    i := by obtain ⟨B, a⟩ := h.i; exact ⟨B, a.below hb hN⟩
    n := by obtain ⟨B, a⟩ := h.n; exact ⟨B, a.below hb hN⟩
    a := by obtain ⟨B, a⟩ := h.a; exact ⟨B, a.below hb hN⟩
    ak := by obtain ⟨B, a⟩ := h.ak; exact ⟨B, a.below hb hN⟩ }
theorem Evs.below (h : Evs w es T) {N : Nat} (hb : Below N w w') (hN : w.heap.size ≤ N) : Evs w' es T := fun i t hi => by
  obtain ⟨b, h1, h2⟩ := h i t hi
  exact ⟨b, h1, (hb.cell (p := ⟨b, 0, none⟩) (Nat.lt_of_lt_of_le (World.block_lt_of_cell? _ _ h2) hN)).trans h2⟩
theorem ERow.below {v : Value} (h : ERow w v es T) {N : Nat} (hb : Below N w w') (hN : w.heap.size ≤ N) : ERow w' v es T := by
  obtain ⟨⟨B, h1⟩, h2, h3⟩ := h
  exact ⟨⟨B, h1.below hb hN⟩, h2, h3.below hb hN⟩
end

theorem Groups.cons {w : World} {B N : Nat} {vs : List Value} {gs : List (List Int)} {x : Value} {zs : List Int} (h : Groups w B vs gs) (hN : ∀ (i : Nat) (y : Value) (k : Nat), vs[i]? = some y → y.ownBlock = some k → k < N) (hB : B ≤ N) (hx : Own w N 3 (.int .i64 0) x (nums zs)) : Groups w B (x :: vs) (zs :: gs) := by
  refine ⟨by simp [h.len], fun i y ys hy hz => ?_, fun i j y y' k hy hy' hk hk' => ?_⟩
  · cases i with
    | zero => simp at hy hz; subst hy hz; exact hx.mono hB
    | succ i => exact h.own i y ys (by simpa using hy) (by simpa using hz)
  · cases i with
    | zero =>
      cases j with
      | zero => rfl
      | succ j =>
        simp at hy hy'
        subst hy
        have := hN j y' k hy' hk'
        have := (hx.lt k hk).1
        omega
    | succ i =>
      cases j with
      | zero =>
        simp at hy hy'
        subst hy'
        have := hN i y k hy hk
        have := (hx.lt k hk').1
        omega
      | succ j => rw [h.apart i j y y' k (by simpa using hy) (by simpa using hy') hk hk']

/-- The list after k adds. -/
def Run (W : World) (bl n : Nat) (es ads : List Value) (T AT : List Int) (G : List (List Int)) (I AK near : List Int) (k : Nat) (w : World) : Prop :=
  ∃ gs ids vE vT vK vM vN vs, LS w W.heap.size bl (es ++ ads.take k) (T ++ AT.take k) gs ids near vE vT vK vM vN vs ∧ Closed G I AK n k gs ids ∧ Below W.heap.size W w

section
variable {W w w' : World} {bl q n m : Nat} {G : List (List Int)} {T I AK near AT : List Int} {es ads : List Value}
theorem Run.drawn {k : Nat} (h : Run W bl n es ads T AT G I AK near k w) (hh : w'.heap = w.heap) (hb : Below W.heap.size W w') : Run W bl n es ads T AT G I AK near k w' := by
  obtain ⟨gs, ids, vE, vT, vK, vM, vN, vs, h1, h2, h3⟩ := h
  exact ⟨gs, ids, vE, vT, vK, vM, vN, vs, h1.step fun k _ => by rw [hh], h2, hb⟩

theorem Closed.glen {gs : List (List Int)} {ids : List Int} {k : Nat} (h : Closed G I AK n k gs ids) (hs : Sz q n m G T I AK near AT) (hk : k ≤ 4096) : gs.length ≤ 8192 ∧ ∀ g ∈ gs, g.length ≤ 135168 := by
  have h1 := h.len
  have h2 := h.eq
  have h3 := news_le I AK k
  have h4 : ids.length = m + (news I AK k).length := by rw [h2, List.length_append, hs.hI]
  have h5 := hs.hm
  refine ⟨by omega, fun g hg => ?_⟩
  obtain ⟨j, hj, rfl⟩ := List.getElem_of_mem hg
  obtain ⟨x, hx⟩ : ∃ x, ids[j]? = some x := ⟨_, List.getElem?_eq_getElem (by omega)⟩
  have h6 := h.at_ j x hx
  rw [List.getElem?_eq_getElem hj] at h6
  simp only [Option.some.injEq] at h6
  rw [h6, List.length_append]
  have h7 := posTo_le n x AK k
  have h8 : (G.getD j []).length ≤ 131072 := by
    by_cases hjG : j < G.length
    · rw [List.getD_eq_getElem?_getD, List.getElem?_eq_getElem hjG]; exact hs.hg _ (List.getElem_mem _)
    · rw [List.getD_eq_getElem?_getD, List.getElem?_eq_none (by omega)]; simp
  omega

theorem Run.add {k : Nat} {x : Int} {b : Nat} {t : Int} (h : Run W bl n es ads T AT G I AK near k w) (hs : Sz q n m G T I AK near AT) (hes : es.length = n) (hadl : ads.length = q) (hk : k < q) (hx : AK[k]? = some x) (ht : AT[k]? = some t)
    (ha : ads[k]? = some (.pointer (some ⟨b, 0, none⟩))) (hc : W.cell? ⟨b, 0, none⟩ = some (.int .i64 t)) :
    Calls Try.prog 30 #[.pointer (some ⟨bl, 0, none⟩), .pointer (some ⟨b, 0, none⟩), .int .i64 x] w fun e w' => e = .returned (.tuple #[]) ∧ Run W bl n es ads T AT G I AK near (k + 1) w' := by
  obtain ⟨gs, ids, vE, vT, vK, vM, vN, vs, h1, h2, h3⟩ := h
  have hb := World.block_lt_of_cell? _ _ hc
  have hn := hs.hn
  have hqK := hs.hqK
  have hqT := hs.hqT
  have hK1 := hs.hK1
  have hT := hs.hT
  have hgl := h2.glen hs (by omega)
  have hel : (es ++ ads.take k).length = n + k := by rw [List.length_append, List.length_take]; omega
  have htl : (T ++ AT.take k).length = n + k := by rw [List.length_append, List.length_take]; omega
  have hx1 : x ≤ 9223372036854775807 := by
    have := hs.wA x (List.mem_of_getElem? hx)
    simp [Lit.wf, IntKind.min, IntKind.max, IntKind.signed, IntKind.bits] at this
    omega
  refine (shimAdd_any w W.heap.size bl b 0 _ _ gs ids near vE vT vK vM vN vs t x h1 h2.len.symm ((h3.cell (p := ⟨b, 0, none⟩) hb).trans hc) hb (by omega) (by omega) (by omega) (fun g hg => by have := hgl.2 g hg; omega) h3.size hx1).mono ?_
  rintro e w' ⟨he, gs', ids', vE', vT', vK', vM', vN', vs', h4, h5, h6⟩
  refine ⟨he, gs', ids', vE', vT', vK', vM', vN', vs', ?_, ?_, h3.trans h6⟩
  · have e1 : es ++ ads.take k ++ [.pointer (some ⟨b, 0, none⟩)] = es ++ ads.take (k + 1) := by
      rw [List.append_assoc, List.take_add_one, ha]; rfl
    have e2 : T ++ AT.take k ++ [t] = T ++ AT.take (k + 1) := by
      rw [List.append_assoc, List.take_add_one, ht]; rfl
    rw [← e1, ← e2]
    exact h4
  · refine h2.step (by rw [hs.hG, hs.hI]) hs.pos hx ?_
    rw [hel] at h5
    simpa using h5
end
end Go.Proofs.Qxb6621626a
