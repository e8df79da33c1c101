/-
  THE PLAIN LAW: the groups and the kinds after i adds, in closed form. No Go in sight.
-/
import Derived.Test.Qxb6621626aAdd
namespace Go.Proofs.Qxb6621626a
set_option linter.unusedVariables false

/-- The kinds that are new among the first i, in the order of their first appearance. -/
def news (I AK : List Int) : Nat → List Int
  | 0 => []
  | i + 1 => match AK[i]? with
    | some k => if k < 0 ∨ k ∈ I ∨ k ∈ AK.take i then news I AK i else news I AK i ++ [k]
    | none => news I AK i

theorem news_skip {I AK : List Int} {i : Nat} {k : Int} (hk : AK[i]? = some k) (h : k < 0 ∨ k ∈ I ∨ k ∈ AK.take i) : news I AK (i + 1) = news I AK i := by simp [news, hk, h]
theorem news_take {I AK : List Int} {i : Nat} {k : Int} (hk : AK[i]? = some k) (h : ¬ (k < 0 ∨ k ∈ I ∨ k ∈ AK.take i)) : news I AK (i + 1) = news I AK i ++ [k] := by simp [news, hk, h]
theorem take_of_get {AK : List Int} {i : Nat} {k : Int} (hk : AK[i]? = some k) : AK.take (i + 1) = AK.take i ++ [k] := by
  obtain ⟨hi, rfl⟩ := List.getElem?_eq_some_iff.1 hk
  exact List.take_succ_eq_append_getElem hi
theorem mem_news {I AK : List Int} (i : Nat) (hi : i ≤ AK.length) (x : Int) : x ∈ news I AK i ↔ 0 ≤ x ∧ x ∉ I ∧ x ∈ AK.take i := by
  induction i with
  | zero => simp [news]
  | succ i ih =>
    have hk : AK[i]? = some AK[i] := List.getElem?_eq_getElem (by omega)
    have ih' := ih (by omega)
    generalize AK[i] = k at hk
    rw [take_of_get hk]
    by_cases h : k < 0 ∨ k ∈ I ∨ k ∈ AK.take i
    · rw [news_skip hk h, ih', List.mem_append, List.mem_singleton]
      constructor
      · rintro ⟨a, b, c⟩; exact ⟨a, b, .inl c⟩
      · rintro ⟨a, b, c | rfl⟩
        · exact ⟨a, b, c⟩
        · rcases h with h | h | h
          · omega
          · exact absurd h b
          · exact ⟨a, b, h⟩
    · rw [news_take hk h, List.mem_append, List.mem_singleton, ih', List.mem_append, List.mem_singleton]
      have h1 : ¬ k < 0 := fun q => h (.inl q)
      have h2 : k ∉ I := fun q => h (.inr (.inl q))
      constructor
      · rintro (⟨a, b, c⟩ | rfl)
        · exact ⟨a, b, .inl c⟩
        · exact ⟨by omega, h2, .inr rfl⟩
      · rintro ⟨a, b, c | rfl⟩
        · exact .inl ⟨a, b, c⟩
        · exact .inr rfl
theorem news_le (I AK : List Int) (i : Nat) : (news I AK i).length ≤ i := by
  induction i with
  | zero => simp [news]
  | succ i ih =>
    unfold news
    split
    · split
      · omega
      · simp; omega
    · omega

/-- THE CLOSED FORM after i adds. -/
structure Closed (G : List (List Int)) (I AK : List Int) (n : Int) (i : Nat) (gs : List (List Int)) (ids : List Int) : Prop where
  eq : ids = I ++ news I AK i
  len : gs.length = ids.length
  nodup : ids.Nodup
  at_ : ∀ (j : Nat) (x : Int), ids[j]? = some x → gs[j]? = some (G.getD j [] ++ posTo n x AK i)

theorem Closed.start {G : List (List Int)} {I AK : List Int} {n : Int} (hl : G.length = I.length) (hnd : I.Nodup) : Closed G I AK n 0 G I := by
  refine ⟨by simp [news], hl, hnd, fun j x hx => ?_⟩
  have hj : j < G.length := by rw [hl]; exact (List.getElem?_eq_some_iff.1 hx).1
  simp [posTo, List.getD, hj]

theorem Closed.step {G gs gs' : List (List Int)} {I AK ids ids' : List Int} {n k : Int} {i : Nat} (hG : G.length = I.length) (hI : ∀ x ∈ I, 0 ≤ x) (h : Closed G I AK n i gs ids) (hk : AK[i]? = some k) (hs : Stepped gs ids k (n + i) gs' ids') :
    Closed G I AK n (i + 1) gs' ids' := by
  have hi : i < AK.length := (List.getElem?_eq_some_iff.1 hk).1
  have hmem : ∀ x, x ∈ ids ↔ x ∈ I ∨ (0 ≤ x ∧ x ∉ I ∧ x ∈ AK.take i) := fun x => by rw [h.eq, List.mem_append, mem_news i (by omega)]
  have miss : ∀ x, x ≠ k → posTo n x AK (i + 1) = posTo n x AK i := fun x hx => posTo_miss (by rw [hk]; simp; exact fun e => hx e.symm)
  rcases hs with ⟨hneg, rfl, rfl⟩ | ⟨h0, j, g, hj, hg, rfl, rfl⟩ | ⟨h0, hno, rfl, rfl⟩
  · have hnot : ∀ x ∈ ids', x ≠ k := fun x hx e => by
      subst e
      rcases (hmem x).1 hx with a | a
      · have := hI x a; omega
      · omega
    refine ⟨by rw [news_skip hk (.inl hneg)]; exact h.eq, h.len, h.nodup, fun j x hx => ?_⟩
    rw [miss x (hnot x (List.mem_of_getElem? hx))]
    exact h.at_ j x hx
  · have hin : k ∈ ids' := List.mem_of_getElem? hj
    have hskip : k < 0 ∨ k ∈ I ∨ k ∈ AK.take i := by
      rcases (hmem k).1 hin with a | a
      · exact .inr (.inl a)
      · exact .inr (.inr a.2.2)
    refine ⟨by rw [news_skip hk hskip]; exact h.eq, by simp [h.len], h.nodup, fun j' x hx => ?_⟩
    by_cases hjj : j = j'
    · subst hjj
      rw [hj] at hx
      simp at hx
      subst hx
      have := h.at_ j k hj
      rw [hg] at this
      simp at this
      rw [List.getElem?_set_self (List.getElem?_eq_some_iff.1 hg).1, posTo_hit hk, this]
      simp
    · rw [List.getElem?_set_ne hjj, miss x]
      · exact h.at_ j' x hx
      · intro e
        subst e
        exact hjj ((List.getElem?_inj (List.getElem?_eq_some_iff.1 hj).1 h.nodup).1 (hj.trans hx.symm))
  · have hnew : ¬ (k < 0 ∨ k ∈ I ∨ k ∈ AK.take i) := by
      rintro (a | a | a)
      · omega
      · exact hno ((hmem k).2 (.inl a))
      · by_cases hI' : k ∈ I
        · exact hno ((hmem k).2 (.inl hI'))
        · exact hno ((hmem k).2 (.inr ⟨h0, hI', a⟩))
    refine ⟨by rw [news_take hk hnew, ← List.append_assoc, ← h.eq], by simp [h.len], ?_, fun j x hx => ?_⟩
    · rw [List.nodup_append]
      refine ⟨h.nodup, by simp, ?_⟩
      intro a ha b hb e
      simp at hb
      subst hb; subst e
      exact hno ha
    · by_cases hj : j < ids.length
      · rw [List.getElem?_append_left hj] at hx
        rw [List.getElem?_append_left (by rw [h.len]; exact hj), miss x (fun e => hno (e ▸ List.mem_of_getElem? hx))]
        exact h.at_ j x hx
      · rw [List.getElem?_append_right (by omega)] at hx
        rw [List.getElem?_append_right (by rw [h.len]; omega), h.len]
        cases hd : j - ids.length with
        | succ q => rw [hd] at hx; simp at hx
        | zero =>
          rw [hd] at hx
          simp at hx
          subst hx
          have hGj : G.getD j [] = [] := by
            have : G.length ≤ j := by
              have e := congrArg List.length h.eq
              simp at e
              omega
            simp [List.getD, List.getElem?_eq_none this]
          have hz : posTo n k AK i = [] := by
            have : ∀ q, q ≤ i → posTo n k AK q = [] := by
              intro q
              induction q with
              | zero => intro _; rfl
              | succ q ih =>
                intro hq
                rw [posTo_miss, ih (by omega)]
                intro e
                exact hnew (.inr (.inr (by
                  rw [List.mem_take_iff_getElem]
                  obtain ⟨hq', he⟩ := List.getElem?_eq_some_iff.1 e
                  exact ⟨q, by omega, he⟩)))
            exact this i (Nat.le_refl _)
          rw [hGj, posTo_hit hk, hz]
          rfl
end Go.Proofs.Qxb6621626a
