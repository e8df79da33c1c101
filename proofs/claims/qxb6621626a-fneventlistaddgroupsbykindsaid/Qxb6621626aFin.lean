/-
  THE LAW's END: what it knows when it compares, and what each round of its comparing loops finds.
-/
import Derived.Test.Qxb6621626aPlain
namespace Go.Proofs.Qxb6621626a
open Go.RowKit Go.Maps
set_option linter.unusedVariables false

theorem posTo_take (nn x : Int) (AK : List Int) (q : Nat) : ∀ k, k ≤ q → posTo nn x (AK.take q) k = posTo nn x AK k
  | 0, _ => rfl
  | k + 1, h => by
    simp only [posTo]
    rw [posTo_take nn x AK q k (by omega), List.getElem?_take, if_pos (show k < q by omega)]

theorem Own.at {w : World} {B k cap i : Nat} {e : TypeId} {z : Value} {a : Option Addr} {xs : List Value} {x : Value} (h : Own w B e z (.slice a k cap) xs) (hx : xs[i]? = some x) : ∃ g, a = some ⟨g, 0, none⟩ ∧ w.cell? ⟨g, i, none⟩ = some x := by
  obtain ⟨a', c', he, _, _, h3⟩ := h.form
  simp at he
  obtain ⟨rfl, rfl, rfl⟩ := he
  rcases h3 with ⟨_, rfl, _⟩ | ⟨g, rfl, hg⟩
  · simp at hx
  · exact ⟨g, rfl, h.cell hg i x hx⟩
theorem Own.size {w : World} {B k cap : Nat} {e : TypeId} {z : Value} {a : Option Addr} {xs : List Value} (h : Own w B e z (.slice a k cap) xs) : k = xs.length ∧ k ≤ cap ∧ cap ≤ maxLen ∧ (a = none ∧ k = 0 ∧ cap = 0 ∨ ∃ g, a = some ⟨g, 0, none⟩) := by
  obtain ⟨a', c', he, h1, h2, h3⟩ := h.form
  simp at he
  obtain ⟨rfl, rfl, rfl⟩ := he
  refine ⟨rfl, h1, h2, ?_⟩
  rcases h3 with ⟨h4, rfl, h5⟩ | ⟨g, h4, hg⟩
  · exact .inl ⟨h4, rfl, h5⟩
  · exact .inr ⟨g, h4⟩
theorem Groups.tail {w : World} {B : Nat} {v : Value} {g : List Int} {vs : List Value} {gs : List (List Int)} (h : Groups w B (v :: vs) (g :: gs)) : Groups w B vs gs :=
  ⟨by have := h.len; simpa using this, fun i x zs hx hz => h.own (i + 1) x zs (by simpa using hx) (by simpa using hz), fun i j x y k hx hy hkx hky => by
    have := h.apart (i + 1) (j + 1) x y k (by simpa using hx) (by simpa using hy) hkx hky
    omega⟩

theorem nums_get {zs : List Int} {i : Nat} {x : Int} (h : zs[i]? = some x) : (nums zs)[i]? = some (.int .i64 x) := by simp [nums, h]

/-- A quiet comparison of a group. -/
def GroupOk (w : World) (v u : Value) (x : Int) (va : Value) (n : Int) : Prop :=
  ∀ k, Calls Try.prog 34 #[v, u, .int .i64 x, va, .int .i64 n] (w.drewN k) fun e w'' => e = .returned (.bool true) ∧ ∃ m, w'' = w.drewN m
def LookOk (w : World) (vM : Value) (x : Int) (j : Nat) : Prop :=
  ∀ k, (Instr.lookup 57 vM (.int .i64 x) true).run Try.prog (w.drewN k) = .ok (.tuple #[.int .i64 (j : Int), .bool true]) (w.drewN k)

theorem groupOk {w : World} {v u : Value} {x n : Int} {va : Value} {pre A : List Int} (hg : Ints w v (pre ++ posTo n x A A.length)) (hp : Ints w u pre) (ha : Ints w va A) (hb : pre.length + A.length ≤ 2097152) (hn0 : 0 ≤ n) (hn1 : n ≤ 1048576) : GroupOk w v u x va n := fun k =>
  (groupIs_true v u va pre A x n (w.drewN k) (hg.drew k) (hp.drew k) (ha.drew k) hb hn0 hn1).mono fun _ _ h => ⟨h.1, by
    obtain ⟨q, hq⟩ := h.2
    exact ⟨k + q, by rw [← hq, World.drewN_drewN]⟩⟩

theorem MapIs.lookOk {w : World} {B : Nat} {v : Value} {ids : List Int} (h : MapIs w B v ids) {x : Int} (hx : (Lit.int .i64 x).wf = true) {j : Nat} (hj : ids[j]? = some x) : LookOk w v x j := fun k => by
  rcases h with ⟨rfl, rfl⟩ | ⟨b, rfl, h⟩
  · simp at hj
  · have h' : MapAt (w.drewN k) B b ids := h.keep rfl
    obtain ⟨c, hr, hc⟩ := h'.look hx
    rw [hr, hc j hj]
    simp [List.mem_of_getElem? hj]
theorem MapIs.len {w : World} {B : Nat} {v : Value} {ids : List Int} (h : MapIs w B v ids) (ty : TypeId) : (Builtin.len_ #[57] ty #[v]).run Try.prog w = .ok (.int .i64 (ids.length : Int)) w := by
  rcases h with ⟨rfl, rfl⟩ | ⟨b, rfl, _, D, h1, h2, _⟩
  · kernel_rfl
  · rw [h1.len Try.underlying57 ty, h2]

/-- What the law knows at the end. -/
structure Fin7 (w : World) (q n m r cA : Nat) (aA : Option Addr) (gs G : List (List Int)) (ids I AK : List Int) (vK vM kv iv nv : Value) : Prop where
  ki : ∃ B vs, Own w B 52 (.slice none 0 0) vK vs ∧ Groups w B vs gs
  mp : ∃ B, MapIs w B vM ids
  kv : ∃ B B' kvs, Own w B 52 (.slice none 0 0) kv kvs ∧ Groups w B' kvs G
  iv : ∃ B, Own w B 3 (.int .i64 0) iv (nums I)
  nv : ∃ B, Own w B 3 (.int .i64 0) nv (nums (news I AK q))
  ak : ∃ B, Own w B 3 (.int .i64 0) (.slice aA AK.length cA) (nums AK)
  cl : Closed G I AK n q gs ids
  hG : G.length = m
  hI : I.length = m
  hr : (news I AK q).length = r
  hm : m ≤ 4096
  hq : q ≤ AK.length
  hq1 : q ≤ 4096
  hn : n ≤ 65536
  hg : ∀ g ∈ G, g.length ≤ 131072
  wI : ∀ x ∈ I, (Lit.int .i64 x).wf = true
  wA : ∀ x ∈ AK, (Lit.int .i64 x).wf = true

section
variable {w : World} {q n m r cA : Nat} {aA : Option Addr} {gs G : List (List Int)} {ids I AK : List Int} {vK vM kv iv nv : Value}

theorem MapIs.drew {w : World} {B : Nat} {v : Value} {ids : List Int} (h : MapIs w B v ids) (k : Nat) : MapIs (w.drewN k) B v ids := h.keep fun _ _ => rfl
theorem Groups.drew {w : World} {B : Nat} {vs : List Value} {gs : List (List Int)} (h : Groups w B vs gs) (k : Nat) : Groups (w.drewN k) B vs gs := h.keep fun _ _ _ _ _ => rfl
theorem Fin7.drew (h : Fin7 w q n m r cA aA gs G ids I AK vK vM kv iv nv) (k : Nat) : Fin7 (w.drewN k) q n m r cA aA gs G ids I AK vK vM kv iv nv :=
  { h with
    ki := by obtain ⟨B, vs, a, b⟩ := h.ki; exact ⟨B, vs, a.drew k, b.drew k⟩
    mp := by obtain ⟨B, a⟩ := h.mp; exact ⟨B, a.drew k⟩
    kv := by obtain ⟨B, B', vs, a, b⟩ := h.kv; exact ⟨B, B', vs, a.drew k, b.drew k⟩
    iv := by obtain ⟨B, a⟩ := h.iv; exact ⟨B, a.drew k⟩
    nv := by obtain ⟨B, a⟩ := h.nv; exact ⟨B, a.drew k⟩
    ak := by obtain ⟨B, a⟩ := h.ak; exact ⟨B, a.drew k⟩ }

theorem Fin7.gsLen (h : Fin7 w q n m r cA aA gs G ids I AK vK vM kv iv nv) : gs.length = m + r ∧ ids.length = m + r ∧ r ≤ q := by
  have h1 := h.cl.len
  have h2 := h.cl.eq
  have h3 : ids.length = m + r := by rw [h2, List.length_append, h.hI, h.hr]
  refine ⟨by omega, h3, ?_⟩
  have := news_le I AK q
  have := h.hr
  omega

/-- The part of addKinds that is compared. -/
theorem Fin7.part (h : Fin7 w q n m r cA aA gs G ids I AK vK vM kv iv nv) : Ints w (.slice aA q cA) (AK.take q) := by
  obtain ⟨B, a⟩ := h.ak
  exact a.ints.take q h.hq

theorem Fin7.group (h : Fin7 w q n m r cA aA gs G ids I AK vK vM kv iv nv) {j : Nat} {x : Int} {v u : Value} {pre : List Int} (hx : ids[j]? = some x) (hu : Ints w u pre) (hpre : G.getD j [] = pre) (hpl : pre.length ≤ 131072) (hv : ∀ zs, gs[j]? = some zs → Ints w v zs) : GroupOk w v u x (.slice aA q cA) n := by
  have h1 := h.cl.at_ j x hx
  rw [hpre] at h1
  have h2 := hv _ h1
  have hq := h.hq
  have hq1 := h.hq1
  have hn := h.hn
  have hl : (AK.take q).length = q := by simp; omega
  refine groupOk (pre := pre) (A := AK.take q) ?_ hu h.part (by omega) (by omega) (by omega)
  rw [hl, posTo_take _ _ _ _ q (Nat.le_refl q)]
  exact h2

/-- What a round of the first loop finds. -/
theorem Fin7.old {aK ak ai : Option Addr} {cK ck ci : Nat} (h : Fin7 w q n m r cA aA gs G ids I AK (.slice aK (m + r) cK) vM (.slice ak m ck) (.slice ai m ci) nv) {j : Nat} (hj : j < m) :
    ∃ gK gk gi v u x, aK = some ⟨gK, 0, none⟩ ∧ ak = some ⟨gk, 0, none⟩ ∧ ai = some ⟨gi, 0, none⟩ ∧ w.cell? ⟨gK, j, none⟩ = some v ∧ w.cell? ⟨gk, j, none⟩ = some u ∧ w.cell? ⟨gi, j, none⟩ = some (.int .i64 x) ∧
      GroupOk w v u x (.slice aA q cA) n ∧ LookOk w vM x j := by
  obtain ⟨BK, vs, hK, hKg⟩ := h.ki
  obtain ⟨Bk, Bk', us, hk, hkg⟩ := h.kv
  obtain ⟨Bi, hi⟩ := h.iv
  obtain ⟨hgl, hil, _⟩ := h.gsLen
  have hI := h.hI
  have hG := h.hG
  have hvl := hKg.len
  have hul := hkg.len
  obtain ⟨y, eI⟩ : ∃ y, I[j]? = some y := ⟨_, List.getElem?_eq_getElem (by omega)⟩
  have eid : ids[j]? = some y := by rw [h.cl.eq, List.getElem?_append_left (by omega)]; exact eI
  have ev : vs[j]? = some (vs[j]'(by omega)) := List.getElem?_eq_getElem (by omega)
  have eu : us[j]? = some (us[j]'(by omega)) := List.getElem?_eq_getElem (by omega)
  have eG : G[j]? = some G[j] := List.getElem?_eq_getElem (by omega)
  obtain ⟨gK, e1, c1⟩ := hK.at ev
  obtain ⟨gk, e2, c2⟩ := hk.at eu
  obtain ⟨gi, e3, c3⟩ := hi.at (nums_get eI)
  obtain ⟨B, hmp⟩ := h.mp
  refine ⟨gK, gk, gi, _, _, _, e1, e2, e3, c1, c2, c3, ?_, hmp.lookOk (h.wI _ (List.mem_of_getElem? eI)) eid⟩
  refine h.group (pre := G[j]) eid (hkg.own j _ _ eu eG).ints (by simp [List.getD, eG]) (h.hg _ (List.mem_of_getElem? eG)) fun zs hz => (hKg.own j _ _ ev hz).ints

/-- What a round of the second loop finds. -/
theorem Fin7.new {aK aN : Option Addr} {cK cN : Nat} (h : Fin7 w q n m r cA aA gs G ids I AK (.slice aK (m + r) cK) vM kv iv (.slice aN r cN)) {j : Nat} (hj : j < r) :
    ∃ gK gN v x, aK = some ⟨gK, 0, none⟩ ∧ aN = some ⟨gN, 0, none⟩ ∧ w.cell? ⟨gK, m + j, none⟩ = some v ∧ w.cell? ⟨gN, j, none⟩ = some (.int .i64 x) ∧
      GroupOk w v (.slice none 0 0) x (.slice aA q cA) n ∧ LookOk w vM x (m + j) := by
  obtain ⟨BK, vs, hK, hKg⟩ := h.ki
  obtain ⟨Bn, hn⟩ := h.nv
  obtain ⟨hgl, hil, _⟩ := h.gsLen
  have hI := h.hI
  have hG := h.hG
  have hr := h.hr
  have hvl := hKg.len
  obtain ⟨y, eN⟩ : ∃ y, (news I AK q)[j]? = some y := ⟨_, List.getElem?_eq_getElem (by omega)⟩
  have eid : ids[m + j]? = some y := by rw [h.cl.eq, List.getElem?_append_right (by omega), hI, Nat.add_sub_cancel_left]; exact eN
  have ev : vs[m + j]? = some (vs[m + j]'(by omega)) := List.getElem?_eq_getElem (by omega)
  obtain ⟨gK, e1, c1⟩ := hK.at ev
  obtain ⟨gN, e3, c3⟩ := hn.at (nums_get eN)
  obtain ⟨B, hmp⟩ := h.mp
  have hmem : y ∈ AK := List.mem_of_mem_take ((mem_news q h.hq _).1 (List.mem_of_getElem? eN)).2.2
  refine ⟨gK, gN, _, _, e1, e3, c1, c3, ?_, hmp.lookOk (h.wA _ hmem) eid⟩
  refine h.group (pre := []) eid (Own.ints (zs := []) (.nil w 0 3 (.int .i64 0))) (by simp [List.getD, show G[m + j]? = none from List.getElem?_eq_none (by omega)]) (by simp) fun zs hz => (hKg.own _ _ _ ev hz).ints
end
theorem hidden {p : Prop} (h : p) : Hid p := h
def dropS : Nat → Code → Code
  | 0, c => c
  | n + 1, c => dropS n (cR c)
end Go.Proofs.Qxb6621626a
