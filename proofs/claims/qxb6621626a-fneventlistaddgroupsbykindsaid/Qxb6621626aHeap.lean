/-
  THE WORDS ON MEMORY THAT THE WALKS OF THIS SEAT SPEAK: a slice of numbers that is read ('Ints'); a row of the call's own whose spare room holds zeros ('Own'); what an append does to such a row. No function of the program is walked here.
-/
import Derived.Test.Qxb6621626aRows
import Derived.WalkKit
import Derived.WalkSpells
import Derived.StillTactics
import Derived.Laws.Pointers
import Derived.RowKit3
import Derived.Below
import Derived.OwnWalk
import Derived.Maps.OwnSet
import Derived.Deep.Draws
namespace Go.Proofs.Qxb6621626a
open Go.RowKit

abbrev nums (zs : List Int) : List Value := zs.map (Value.int .i64)

/-- A slice value that reads as the numbers zs. -/
def Ints (w : World) (v : Value) (zs : List Int) : Prop :=
  ∃ a cap, v = .slice a zs.length cap ∧ zs.length ≤ cap ∧ cap ≤ maxLen ∧ (zs = [] ∨ ∃ b off, a = some ⟨b, off, none⟩ ∧ ∀ i z, zs[i]? = some z → w.cell? ⟨b, off + i, none⟩ = some (.int .i64 z))

/-- A row of the call's own (block B or later): nil, or at the head of a block that holds xs and, behind them, r times z. -/
def Own (w : World) (B : Nat) (e : TypeId) (z v : Value) (xs : List Value) : Prop :=
  (v = .slice none 0 0 ∧ xs = []) ∨
  ∃ g r, v = .slice (some ⟨g, 0, none⟩) xs.length (xs.length + r) ∧ B ≤ g ∧ xs.length + r ≤ maxLen ∧ w.heap[g]? = some (.cells (xs ++ List.replicate r z).toArray e (0, 0))

theorem Own.nil (w : World) (B : Nat) (e : TypeId) (z : Value) : Own w B e z (.slice none 0 0) [] := .inl ⟨rfl, rfl⟩

theorem Own.mono {w : World} {B B' : Nat} {e : TypeId} {z v : Value} {xs : List Value} (h : Own w B e z v xs) (hB : B' ≤ B) : Own w B' e z v xs := by
  rcases h with h | ⟨g, r, h1, h2, h3, h4⟩
  · exact .inl h
  · exact .inr ⟨g, r, h1, by omega, h3, h4⟩

/-- The block of a row that is not nil lies between B and the heap's end, and is a row of e. -/
theorem Own.lt {w : World} {B : Nat} {e : TypeId} {z v : Value} {xs : List Value} (h : Own w B e z v xs) : ∀ k, v.ownBlock = some k → B ≤ k ∧ k < w.heap.size := by
  intro k hk
  rcases h with ⟨rfl, _⟩ | ⟨g, r, rfl, h2, h3, h4⟩
  · simp [Value.ownBlock] at hk
  · simp [Value.ownBlock] at hk
    subst hk
    exact ⟨h2, (Array.getElem?_eq_some_iff.1 h4).1⟩
theorem Own.row {w : World} {B : Nat} {e : TypeId} {z v : Value} {xs : List Value} (h : Own w B e z v xs) : ∀ k, v.ownBlock = some k → ∃ cs, w.heap[k]? = some (.cells cs e (0, 0)) := by
  intro k hk
  rcases h with ⟨rfl, _⟩ | ⟨g, r, rfl, h2, h3, h4⟩
  · simp [Value.ownBlock] at hk
  · simp [Value.ownBlock] at hk
    subst hk
    exact ⟨_, h4⟩

/-- It stays where its block stays. -/
theorem Own.keep {w w' : World} {B : Nat} {e : TypeId} {z v : Value} {xs : List Value} (h : Own w B e z v xs) (hk : ∀ k, v.ownBlock = some k → w'.heap[k]? = w.heap[k]?) : Own w' B e z v xs := by
  rcases h with h | ⟨g, r, h1, h2, h3, h4⟩
  · exact .inl h
  · exact .inr ⟨g, r, h1, h2, h3, by rw [hk g (by rw [h1]; rfl)]; exact h4⟩
theorem Own.grown {w w' : World} {B : Nat} {e : TypeId} {z v : Value} {xs : List Value} {row : Option Nat} (h : Own w B e z v xs) (hg : w.grownBy w' row) (hne : ∀ k, v.ownBlock = some k → some k ≠ row) : Own w' B e z v xs :=
  h.keep fun k hk => hg.block k (h.lt k hk).2 (hne k hk)
theorem Own.below {w w' : World} {B N : Nat} {e : TypeId} {z v : Value} {xs : List Value} (h : Own w B e z v xs) (hb : Below N w w') (hN : w.heap.size ≤ N) : Own w' B e z v xs :=
  h.keep fun k hk => hb.block k (by have := (h.lt k hk).2; omega)
theorem Own.alloc {w : World} {B : Nat} {e : TypeId} {z v : Value} {xs : List Value} (h : Own w B e z v xs) (o : Obj) : Own (w.alloc o) B e z v xs :=
  h.keep fun k hk => Below.heap_alloc w o k (h.lt k hk).2
theorem Own.drew {w : World} {B : Nat} {e : TypeId} {z v : Value} {xs : List Value} (h : Own w B e z v xs) (n : Nat) : Own (w.drewN n) B e z v xs := h
/-- Where a row of another type is written it stays. -/
theorem Own.other {w w' : World} {B g : Nat} {e e' : TypeId} {z v : Value} {xs : List Value} {cs : Array Value} (h : Own w B e z v xs) (hg : w.grownBy w' (some g)) (hr : w.heap[g]? = some (.cells cs e' (0, 0))) (hne : e ≠ e') : Own w' B e z v xs :=
  h.grown hg fun k hk hkg => by
    obtain ⟨c, hc⟩ := h.row k hk
    simp at hkg
    subst hkg
    rw [hr] at hc
    simp at hc
    exact hne hc.2.symm

/-- As a slice value. -/
theorem Own.form {w : World} {B : Nat} {e : TypeId} {z v : Value} {xs : List Value} (h : Own w B e z v xs) : ∃ a cap, v = .slice a xs.length cap ∧ xs.length ≤ cap ∧ cap ≤ maxLen ∧ (a = none ∧ xs = [] ∧ cap = 0 ∨ ∃ g, a = some ⟨g, 0, none⟩ ∧ v.ownBlock = some g) := by
  rcases h with ⟨rfl, rfl⟩ | ⟨g, r, rfl, h2, h3, h4⟩
  · exact ⟨none, 0, rfl, by simp, by simp, .inl ⟨rfl, rfl, rfl⟩⟩
  · exact ⟨_, _, rfl, by omega, h3, .inr ⟨g, rfl, rfl⟩⟩

theorem Own.cell {w : World} {B g : Nat} {e : TypeId} {z v : Value} {xs : List Value} (h : Own w B e z v xs) (hv : v.ownBlock = some g) (i : Nat) (x : Value) (hx : xs[i]? = some x) : w.cell? ⟨g, i, none⟩ = some x := by
  rcases h with ⟨rfl, _⟩ | ⟨g', r, rfl, h2, h3, h4⟩
  · simp [Value.ownBlock] at hv
  · simp [Value.ownBlock] at hv
    subst hv
    rw [cell_of_row w _ i _ e (0, 0) h4]
    obtain ⟨hi, rfl⟩ := List.getElem?_eq_some_iff.1 hx
    simp [List.getElem?_append_left hi, hi]

/-- A row of numbers of the call's own reads as these numbers; so does every cut of it. -/
theorem Own.ints {w : World} {B : Nat} {e : TypeId} {z v : Value} {zs : List Int} (h : Own w B e z v (nums zs)) : Ints w v zs := by
  obtain ⟨a, cap, hv, h1, h2, h3⟩ := h.form
  refine ⟨a, cap, by simpa using hv, by simpa using h1, h2, ?_⟩
  rcases h3 with ⟨_, h4, _⟩ | ⟨g, rfl, hg⟩
  · exact .inl (by simpa using h4)
  · exact .inr ⟨g, 0, rfl, fun i x hx => by rw [Nat.zero_add]; exact h.cell hg i _ (by simp [nums, hx])⟩

theorem Ints.below {w w' : World} {v : Value} {zs : List Int} {N : Nat} (h : Ints w v zs) (hb : Below N w w') (hN : w.heap.size ≤ N) : Ints w' v zs := by
  obtain ⟨a, cap, h1, h2, h3, h4⟩ := h
  refine ⟨a, cap, h1, h2, h3, h4.imp id ?_⟩
  rintro ⟨b, off, h5, h6⟩
  refine ⟨b, off, h5, fun i z hz => ?_⟩
  have := h6 i z hz
  have hl := World.block_lt_of_cell? _ _ this
  rw [hb.cell (p := ⟨b, off + i, none⟩) (Nat.lt_of_lt_of_le hl hN)]
  exact this
theorem Ints.drew {w : World} {v : Value} {zs : List Int} (h : Ints w v zs) (n : Nat) : Ints (w.drewN n) v zs := h
/-- The head of a slice. -/
theorem Ints.take {w : World} {a : Option Addr} {n cap : Nat} {zs : List Int} (h : Ints w (.slice a n cap) zs) (k : Nat) (hk : k ≤ zs.length) : Ints w (.slice a k cap) (zs.take k) := by
  obtain ⟨a', cap', h1, h2, h3, h4⟩ := h
  simp only [Value.slice.injEq] at h1
  obtain ⟨rfl, rfl, rfl⟩ := h1
  refine ⟨a, cap, by simp [Nat.min_eq_left hk], by simp; omega, h3, ?_⟩
  rcases h4 with rfl | ⟨b, off, rfl, h6⟩
  · exact .inl (by simp)
  · refine .inr ⟨b, off, rfl, fun i z hz => h6 i z ?_⟩
    rw [List.getElem?_take] at hz
    split at hz
    · exact hz
    · cases hz

/-! ### append of one element to a row of the call's own -/
theorem zeros_one (z : Value) (hz : z.cells = #[z]) (n : Nat) : Builtin.zeroCells z.cells n = (List.replicate n z).toArray := by
  apply Array.ext'
  rw [hz]
  apply List.ext_getElem?
  intro j
  by_cases hj : j < n
  · simp [Builtin.zeroCells, hj, Nat.mod_one]
  · simp [Builtin.zeroCells, hj]

theorem take_app (xs : List Value) (r : Nat) (z x : Value) (hr : 0 < r) : ((xs ++ List.replicate r z).take xs.length ++ [x] ++ (xs ++ List.replicate r z).drop (xs.length + 1)) = (xs ++ [x]) ++ List.replicate (r - 1) z := by
  obtain ⟨r, rfl⟩ : ∃ q, r = q + 1 := ⟨r - 1, by omega⟩
  rw [List.take_left, ← List.drop_drop, List.drop_left]
  simp [List.replicate_succ]

/-- WHAT append OF ONE ELEMENT DOES: the element lies in a block of its own at 'ad'. -/
theorem run_append_Own {P : Program} (w : World) (B : Nat) (t ty e : TypeId) (i : TypeInfo) (z : Value) (bytes : Nat) (ht : P.underlying t = some (.slice e)) (hi : P.info? e = some i) (hz : i.zero = some z)
    (hsize : i.size = 1) (hby : i.bytes = bytes) (hz1 : z.cells = #[z]) (v : Value) (xs : List Value) (hown : Own w B e z v xs) (ad : Addr) (c : Nat) (x : Value) (hx : w.cell? ad = some x) (h1 : x.oneCell' = true) (hsp : ad.spot = none)
    (hlen : xs.length ≤ 1048576) (hb2 : bytes ≤ 64) (hbase : B ≤ w.heap.size) :
    ∃ v' w', (Builtin.append_ #[t, t] ty #[v, .slice (some ad) 1 c]).run P w = .ok v' w' ∧ Own w' B e z v' (xs ++ [x]) ∧ w.grownBy w' v.ownBlock ∧ (v'.ownBlock = v.ownBlock ∨ v'.ownBlock = some w.heap.size) ∧ v'.ownBlock ≠ none := by
  have hnews : ∀ j u, [x][j]? = some u → w.cell? (ad.add j) = some u := by
    intro j u hu
    match j, hu with
    | 0, hu => simp at hu; subst hu; obtain ⟨b, o, sp⟩ := ad; simp at hsp; subst hsp; simpa [Addr.add] using hx
  have h1' : ∀ u ∈ [x], u.oneCell' = true := by intro u hu; simp at hu; subst hu; exact h1
  have hnum : ∀ need old : Nat, need ≤ 1048577 → need ≤ grownCap w need old e ∧ grownCap w need old e ≤ maxLen := fun need old h => ⟨grownCap_ge w need old e, grownCap_le_maxLen w need old e (by unfold maxLen; omega)⟩
  have hmul : ∀ n : Nat, n ≤ 1048577 → n * bytes ≤ 140737488355328 := fun n hn => Nat.le_trans (Nat.mul_le_mul hn hb2) (by decide)
  rcases hown with ⟨rfl, rfl⟩ | ⟨g, r, rfl, hg1, hg2, hg3⟩
  · have hr := run_append_nil (P := P) w t ty e i z ht hi hz ad 1 c [x] (by simp [hsize]) hnews (by omega) (by omega) (by rw [hby]; have := hmul 1 (by omega); omega)
    obtain ⟨q1, q2⟩ := hnum 1 0 (by omega)
    refine ⟨_, _, hr, .inr ⟨w.heap.size, grownCap w 1 0 e - 1, ?_, hbase, ?_, ?_⟩, ⟨rfl, rfl, rfl, by simp, fun k hk _ => Below.heap_alloc w.drew _ k hk⟩, .inr rfl, by simp [Value.ownBlock]⟩
    · simp only [List.nil_append, List.length_singleton, Value.slice.injEq, true_and]; omega
    · simp only [List.nil_append, List.length_singleton]; omega
    · rw [zeros_one z hz1]
      simp only [List.nil_append]
      rw [show (w.drew.alloc (.cells ([x].toArray ++ (List.replicate (grownCap w 1 0 e - 1) z).toArray) e)).heap[w.heap.size]? = some (.cells ([x].toArray ++ (List.replicate (grownCap w 1 0 e - 1) z).toArray) e) from Go.heap_alloc_new w.drew _]
      simp
  · by_cases hroom : r = 0
    · subst hroom
      have holds : ∀ j u, xs[j]? = some u → w.cell? ((⟨g, 0, none⟩ : Addr).add j) = some u := by
        intro j u hu
        have : (⟨g, 0, none⟩ : Addr).add j = ⟨g, j, none⟩ := by unfold Addr.add; split <;> simp_all
        rw [this, cell_of_row w _ j _ e (0, 0) hg3]
        simpa using hu
      have hr := run_append_grow (P := P) w t ty e i z ht hi hz ⟨g, 0, none⟩ xs.length (xs.length + 0) xs (by simp [hsize]) holds ad 1 c [x] (by simp [hsize]) hnews (by omega) (by omega) (growslice_fits (by omega) (by rw [hby]; exact hmul _ (by omega)))
      obtain ⟨q1, q2⟩ := hnum (xs.length + 1) (xs.length + 0) (by omega)
      refine ⟨_, _, hr, .inr ⟨w.heap.size, grownCap w (xs.length + 1) (xs.length + 0) e - (xs.length + 1), ?_, hbase, ?_, ?_⟩, ⟨rfl, rfl, rfl, by simp, fun k hk _ => Below.heap_alloc w.drew _ k hk⟩, .inr rfl, by simp [Value.ownBlock]⟩
      · simp only [List.length_append, List.length_singleton, Value.slice.injEq, true_and]; omega
      · simp only [List.length_append, List.length_singleton]; omega
      · rw [zeros_one z hz1]
        rw [show (w.drew.alloc (.cells (xs.toArray ++ [x].toArray ++ (List.replicate (grownCap w (xs.length + 1) (xs.length + 0) e - (xs.length + 1)) z).toArray) e)).heap[w.heap.size]? = some (.cells (xs.toArray ++ [x].toArray ++ (List.replicate (grownCap w (xs.length + 1) (xs.length + 0) e - (xs.length + 1)) z).toArray) e) from Go.heap_alloc_new w.drew _]
        simp
    · have hr := run_append_room (P := P) w t ty e i ht hi g xs.length (xs.length + r) _ hg3 ad 1 c [x] (by simp [hsize]) hnews h1' (by omega) (by simp [hsize]; omega)
      refine ⟨_, _, hr, .inr ⟨g, r - 1, ?_, hg1, ?_, ?_⟩, ⟨rfl, rfl, rfl, by simp, fun k _ hk => setRow_other w g k _ (fun e => hk (by simp [Value.ownBlock, e]))⟩, .inl rfl, by simp [Value.ownBlock]⟩
      · simp only [List.length_append, List.length_singleton, Value.slice.injEq, true_and]; omega
      · simp only [List.length_append, List.length_singleton]; omega
      · rw [setRow_heap w g _ _ e _ hg3]
        have := take_app xs r z x (by omega)
        simp only [hsize, Nat.mul_one, List.length_singleton]
        rw [this]

/-- The same, the new value written out: its block a letter. -/
theorem run_append_At {P : Program} (w : World) (B : Nat) (t ty e : TypeId) (i : TypeInfo) (z : Value) (bytes : Nat) (ht : P.underlying t = some (.slice e)) (hi : P.info? e = some i) (hz : i.zero = some z)
    (hsize : i.size = 1) (hby : i.bytes = bytes) (hz1 : z.cells = #[z]) (v : Value) (xs : List Value) (n : Nat) (hn : xs.length = n) (hown : Own w B e z v xs) (ad : Addr) (c : Nat) (x : Value) (hx : w.cell? ad = some x) (h1 : x.oneCell' = true) (hsp : ad.spot = none)
    (hlen : n ≤ 1048576) (hb2 : bytes ≤ 64) (hbase : B ≤ w.heap.size) :
    ∃ g c' w', (Builtin.append_ #[t, t] ty #[v, .slice (some ad) 1 c]).run P w = .ok (.slice (some ⟨g, 0, none⟩) (n + 1) c') w' ∧ Own w' B e z (.slice (some ⟨g, 0, none⟩) (n + 1) c') (xs ++ [x]) ∧ w.grownBy w' v.ownBlock ∧ (v.ownBlock = some g ∨ g = w.heap.size) := by
  subst hn
  obtain ⟨v', w', hr, h2, h3, h4, h5⟩ := run_append_Own (P := P) w B t ty e i z bytes ht hi hz hsize hby hz1 v xs hown ad c x hx h1 hsp hlen hb2 hbase
  obtain ⟨a, cap, hv, _, _, h6⟩ := h2.form
  rcases h6 with ⟨_, h7, _⟩ | ⟨g, rfl, hg⟩
  · simp at h7
  · simp only [List.length_append, List.length_singleton] at hv
    subst hv
    refine ⟨g, cap, w', hr, h2, h3, ?_⟩
    rw [hg] at h4
    rcases h4 with h4 | h4
    · exact .inl h4.symm
    · simp at h4; exact .inr h4

/-- AT A PLAIN REGION's LIST. -/
theorem wpList_append_At {P : Program} (w : World) {ops : Array Oper} {rest : List Oper} {o : Oper} {a : Act} {Q : Exit → Act → World → Prop} (hgd : o.guard = none) (s x : Operand) (t : TypeId)
    (ho : o.op = .call { callee := .builtin .append, args := #[s, x], argTypes := #[t, t] })
    (B : Nat) (e : TypeId) (i : TypeInfo) (z : Value) (bytes : Nat) (ht : P.underlying t = some (.slice e)) (hi : P.info? e = some i) (hz : i.zero = some z)
    (hsize : i.size = 1) (hby : i.bytes = bytes) (hz1 : z.cells = #[z]) (v : Value) (xs : List Value) (n : Nat) (hn : xs.length = n) (hs : a.eval s = v) (hown : Own w B e z v xs) (ad : Addr) (c : Nat) (y : Value) (hx : a.eval x = .slice (some ad) 1 c)
    (hy : w.cell? ad = some y) (h1 : y.oneCell' = true) (hsp : ad.spot = none) (hlen : n ≤ 1048576) (hb2 : bytes ≤ 64) (hbase : B ≤ w.heap.size)
    (h : ∀ g c' w', Own w' B e z (.slice (some ⟨g, 0, none⟩) (n + 1) c') (xs ++ [y]) → w.grownBy w' v.ownBlock → (v.ownBlock = some g ∨ g = w.heap.size) → wpList P ops Q rest (a.put o.dst (.slice (some ⟨g, 0, none⟩) (n + 1) c')) w') : wpList P ops Q (o :: rest) a w := by
  refine wpList_plain hgd fun K hK => ?_
  obtain ⟨g, c', w', hr, h2, h3, h4⟩ := run_append_At (P := P) w B t o.type e i z bytes ht hi hz hsize hby hz1 v xs n hn hown ad c y hy h1 hsp hlen hb2 hbase
  unfold Oper.wp execOp
  simp only [ho, resolve, invoke, builtin, Sem.run_bind, Sem.run_pure, Result.andThen_ok, List.map_toArray, List.map_cons, List.map_nil, hs, hx, hr]
  exact hK _ _ (h g c' w' h2 h3 h4)

/-- AT A STEP OF A REGION THAT DRAWS ITS ORDER. -/
theorem step_append_At {P : Program} {ops : Array Oper} {o : Oper} {a : Act} {w : World} {K : Act → World → Prop} {Q : Exit → Act → World → Prop} {E : Prop} (hgd : o.guard = none) (s x : Operand) (t : TypeId)
    (ho : o.op = .call { callee := .builtin .append, args := #[s, x], argTypes := #[t, t] })
    (B : Nat) (e : TypeId) (i : TypeInfo) (z : Value) (bytes : Nat) (ht : P.underlying t = some (.slice e)) (hi : P.info? e = some i) (hz : i.zero = some z)
    (hsize : i.size = 1) (hby : i.bytes = bytes) (hz1 : z.cells = #[z]) (v : Value) (xs : List Value) (n : Nat) (hn : xs.length = n) (hs : a.eval s = v) (hown : Own w B e z v xs) (ad : Addr) (c : Nat) (y : Value) (hx : a.eval x = .slice (some ad) 1 c)
    (hy : w.cell? ad = some y) (h1 : y.oneCell' = true) (hsp : ad.spot = none) (hlen : n ≤ 1048576) (hb2 : bytes ≤ 64) (hbase : B ≤ w.heap.size)
    (h : ∀ g c' w', Own w' B e z (.slice (some ⟨g, 0, none⟩) (n + 1) c') (xs ++ [y]) → w.grownBy w' v.ownBlock → (v.ownBlock = some g ∨ g = w.heap.size) → K (a.put o.dst (.slice (some ⟨g, 0, none⟩) (n + 1) c')) w') :
    if Region.wanted o (yielded ops a.tmps) = true then Oper.wp P o a w K Q else E := by
  have hw : Region.wanted o (yielded ops a.tmps) = true := by simp [Region.wanted, hgd]
  rw [if_pos hw]
  obtain ⟨g, c', w', hr, h2, h3, h4⟩ := run_append_At (P := P) w B t o.type e i z bytes ht hi hz hsize hby hz1 v xs n hn hown ad c y hy h1 hsp hlen hb2 hbase
  unfold Oper.wp execOp
  simp only [ho, resolve, invoke, builtin, Sem.run_bind, Sem.run_pure, Result.andThen_ok, List.map_toArray, List.map_cons, List.map_nil, hs, hx, hr]
  exact h g c' w' h2 h3 h4
end Go.Proofs.Qxb6621626a
