import Derived.Test.Qxb6621626aLaw
import Derived.ProofKit
import Derived.OpenShut
import Derived.ChangeOld
import Derived.ChangeArms
import Derived.ChangeSlices
import Derived.Deep.Slices
import Derived.Below
namespace Go.Proofs.Qxb6621626a
open Go.ChangeShapes Go.WideShapes Go.ChangeAt Go.RowKit
set_option linter.unusedVariables false

theorem own : ownKnob Try.prog.godebug = none := by kernel_rfl
theorem laidOut : laidOutB Try.prog = true := by kernel_rfl
theorem Try.cells2 : Try.prog.cellsOf 2 = 1 := by kernel_rfl
theorem Try.cells3 : Try.prog.cellsOf 3 = 1 := by kernel_rfl
theorem Try.cells52 : Try.prog.cellsOf 52 = 1 := by kernel_rfl

/-- A row of numbers that came in, at its cell. -/
theorem ints_of_trod {H : Type} {enc : TypeId × Value → H} {W : World} {t e : TypeId} {v : Value} {fuel : Nat} {x : DataW H × List MemPlace} (ht : Try.prog.underlying t = some (.slice e)) (he : Try.prog.underlying e = some (.int .i64)) (hc : Try.prog.cellsOf e = 1)
    (h : DataW.trod enc Try.prog W 0 (fun _ => true) true fuel t [v] = some x) : ∃ zs, Ints W v zs ∧ ∀ z ∈ zs, (Lit.int .i64 z).wf = true := by
  rcases open_ints ht he hc h with ⟨h0, _⟩ | ⟨a, len, cap, zs, h0, _, hl, hm, hz, _, hcell, hwf⟩
  · simp only [List.cons.injEq, and_true] at h0
    exact ⟨[], ⟨none, 0, h0, Nat.le_refl _, Nat.zero_le _, .inl rfl⟩, by simp⟩
  · simp only [List.cons.injEq, and_true] at h0
    simp only [if_true] at hz
    have hlen : (zs.take len).length = len := by rw [List.length_take]; omega
    refine ⟨zs.take len, ⟨some a, cap, by rw [hlen]; exact h0, by omega, hm, ?_⟩, fun z hz' => hwf z (List.mem_of_mem_take hz')⟩
    by_cases hn : len = 0
    · subst hn; exact .inl rfl
    · right
      have h1 := hcell 0 (by omega)
      have hsp := World.cell?_spot h1
      have ha : a.add 0 = a := rfl
      rw [ha] at hsp
      obtain ⟨b, off, sp⟩ := a
      simp only at hsp
      subst hsp
      refine ⟨b, off, rfl, fun i z hi => ?_⟩
      have hil : i < len := by
        have := (List.getElem?_eq_some_iff.1 hi).1
        omega
      rw [List.getElem?_take, if_pos hil] at hi
      have h2 := hcell i (by omega)
      have hd : zs.getD i 0 = z := by rw [List.getD_eq_getElem?_getD, hi]; rfl
      rw [hd] at h2
      have hadd : (⟨b, off, none⟩ : Addr).add i = ⟨b, off + i, none⟩ := by
        unfold Addr.add
        by_cases h0 : i = 0
        · subst h0; rfl
        · rw [if_neg h0]
      rw [hadd] at h2
      exact h2

theorem open_row {H : Type} {enc : TypeId × Value → H} {W : World} {b0 : Nat} {t e : TypeId} {v : Value} {d : DataW H} {ps : List MemPlace} (ht : Try.prog.underlying t = some (.slice e)) (he : Try.prog.underlying e = some (.int .i64)) (hc : Try.prog.cellsOf e = 1)
    (hval : Value.okWide Try.prog W .any b0 t v) (hd : DataW.Trod enc Try.prog W 0 (fun _ => true) true t v d ps) : ∃ zs a cap, v = .slice a (List.length zs) cap ∧ Ints W v zs ∧ ∀ z ∈ zs, (Lit.int .i64 z).wf = true := by
  obtain ⟨a, len, cap, rfl⟩ := okWide_slice ht hval
  obtain ⟨n, hn⟩ := hd
  obtain ⟨zs, h1, h2⟩ := ints_of_trod ht he hc (v := .slice a len cap) (by simpa [Value.cells] using hn)
  obtain ⟨a', cap', h3, _⟩ := id h1
  exact ⟨zs, a', cap', h3, h1, h2⟩

theorem open_rows {H : Type} {enc : TypeId × Value → H} {W : World} {b0 : Nat} {v : Value} {d : DataW H} {ps : List MemPlace}
    (hval : Value.okWide Try.prog W .any b0 51 v) (hd : DataW.Trod enc Try.prog W 0 (fun _ => true) true 51 v d ps) : ∃ vs gs a cap, v = .slice a (List.length vs) cap ∧ Ints2 W v vs gs := by
  obtain ⟨a, len, cap, rfl⟩ := okWide_slice Try.underlying51 hval
  obtain ⟨n, hn⟩ := hd
  have hn' : DataW.trod enc Try.prog W 0 (fun _ => true) true n 51 [.slice a len cap] = some (d, ps) := by simpa [Value.cells] using hn
  rcases Deep.open_slice1 Try.underlying51 Try.cells52 hn' with ⟨h0, _⟩ | ⟨a', len', cap', m, n', V, D, Pl, h0, _, hl, hm, hmm, _, hcell⟩
  · simp only [List.cons.injEq, and_true] at h0
    exact ⟨[], [], none, 0, h0, rfl, fun i x zs hx => by simp at hx, none, 0, h0, Nat.le_refl _, Nat.zero_le _, .inl rfl⟩
  · simp only [List.cons.injEq, and_true] at h0
    simp only [if_true] at hmm
    subst hmm
    obtain ⟨F, hF⟩ := Deep.choose_lt (α := List Int) (p := fun i zs => Ints W (V i) zs) (n := len') fun i hi => by
      obtain ⟨zs, h1, _⟩ := ints_of_trod Try.underlying52 Try.underlying3 Try.cells3 (hcell i (by omega)).2
      exact ⟨zs, h1⟩
    have hvl : ((List.range len').map V).length = len' := by simp
    have hget : ∀ (i : Nat) (x : Value), ((List.range len').map V)[i]? = some x → i < len' ∧ V i = x := fun i x hx => by
      obtain ⟨hi, he⟩ := List.getElem?_eq_some_iff.1 hx
      rw [hvl] at hi
      exact ⟨hi, by simpa using he⟩
    refine ⟨(List.range len').map V, (List.range len').map F, some a', m, by rw [hvl]; exact h0, by simp, fun i x zs hx hz => ?_, some a', m, by rw [hvl]; exact h0, by rw [hvl]; exact hl, hm, ?_⟩
    · obtain ⟨hi, rfl⟩ := hget i x hx
      obtain ⟨hi', he⟩ := List.getElem?_eq_some_iff.1 hz
      have : F i = zs := by simpa using he
      rw [← this]
      exact hF i hi
    · by_cases hn0 : len' = 0
      · subst hn0; exact .inl rfl
      · right
        have h1 := (hcell 0 (by omega)).1
        have hsp := World.cell?_spot h1
        have ha : a'.add 0 = a' := rfl
        rw [ha] at hsp
        obtain ⟨b, off, sp⟩ := a'
        simp only at hsp
        subst hsp
        refine ⟨b, off, rfl, fun i x hx => ?_⟩
        obtain ⟨hi, rfl⟩ := hget i x hx
        have h2 := (hcell i (by omega)).1
        have hadd : (⟨b, off, none⟩ : Addr).add i = ⟨b, off + i, none⟩ := by
          unfold Addr.add
          by_cases h0 : i = 0
          · subst h0; rfl
          · rw [if_neg h0]
        rw [hadd] at h2
        exact h2

set_option maxRecDepth 100000 in
theorem lifted (os : Os) (started : os.Started) (H : Type) (enc : TypeId × Value → H) :
    ReturnsInHanded {} Try.checked os 7 .any (Rows.fnEventListAddGroupsByKindSpec.pre6 enc Try.prog Try.f7 Rows.fnEventListAddGroupsByKindRow.domain false) (Rows.fnEventListAddGroupsByKindSpec.post enc Try.prog Try.f7 false true false false) := by
  refine returnsInHanded_of_change (C := Try.checked) own started (by kernel_rfl) Try.func7
    (ChangeSpec.witness6 (enc := enc) (C := Try.checked) false ⟨#[], #[.slice none 0 0, .slice none 0 0, .slice none 0 0, .slice none 0 0, .slice none 0 0, .slice none 0 0], []⟩ 8 (by kernel_rfl) (by kernel_rfl) (by kernel_rfl) (by kernel_rfl)) ?_
  intro W base args ds gs before hval0 hW hcnd _
  have hval : ∀ (j : Nat) t v, Try.f7.params[j]? = some t → args[j]? = some v → Value.okWide Try.prog W .any base t v := hval0
  have hW' := hW
  obtain ⟨p, q, hA0, hV, rfl, hfz, hnd⟩ := hW
  have hA : DataW.TrodAll enc Try.prog W 0 (fun _ => true) true Try.f7.params.toList args.toList ds p := hA0
  rw [Try.params7] at hA hval
  obtain ⟨v0, vs0, d0, ds0, p0, q0, hargs, rfl, rfl, h0, r0⟩ := trodAll_cons hA
  obtain ⟨v1, vs1, d1, ds1, p1, q1, rfl, rfl, rfl, h1, r1⟩ := trodAll_cons r0
  obtain ⟨v2, vs2, d2, ds2, p2, q2, rfl, rfl, rfl, h2, r2⟩ := trodAll_cons r1
  obtain ⟨v3, vs3, d3, ds3, p3, q3, rfl, rfl, rfl, h3, r3⟩ := trodAll_cons r2
  obtain ⟨v4, vs4, d4, ds4, p4, q4, rfl, rfl, rfl, h4, r4⟩ := trodAll_cons r3
  obtain ⟨v5, vs5, d5, ds5, p5, q5, rfl, rfl, rfl, h5, r5⟩ := trodAll_cons r4
  obtain ⟨rfl, rfl, rfl⟩ := trodAll_nil r5
  obtain rfl : args = #[v0, v1, v2, v3, v4, v5] := by cases args; simp_all
  obtain ⟨rfl, rfl⟩ := trodVars_none hV
  have lt0 : ∀ x ∈ p0, x.block < W.heap.size := by obtain ⟨m, hm⟩ := h0; exact DataW.trod_lt m _ _ _ hm
  have lt1 : ∀ x ∈ p1, x.block < W.heap.size := by obtain ⟨m, hm⟩ := h1; exact DataW.trod_lt m _ _ _ hm
  have lt2 : ∀ x ∈ p2, x.block < W.heap.size := by obtain ⟨m, hm⟩ := h2; exact DataW.trod_lt m _ _ _ hm
  have lt3 : ∀ x ∈ p3, x.block < W.heap.size := by obtain ⟨m, hm⟩ := h3; exact DataW.trod_lt m _ _ _ hm
  have lt4 : ∀ x ∈ p4, x.block < W.heap.size := by obtain ⟨m, hm⟩ := h4; exact DataW.trod_lt m _ _ _ hm
  have lt5 : ∀ x ∈ p5, x.block < W.heap.size := by obtain ⟨m, hm⟩ := h5; exact DataW.trod_lt m _ _ _ hm
  obtain ⟨T, a0, c0, rfl, k0, _⟩ := open_row Try.underlying22 Try.underlying2 Try.cells2 (hval 0 22 v0 rfl rfl) h0
  obtain ⟨vs, G, a1, c1, rfl, k1⟩ := open_rows (hval 1 51 v1 rfl rfl) h1
  obtain ⟨I, a2, c2, rfl, k2, wI⟩ := open_row Try.underlying52 Try.underlying3 Try.cells3 (hval 2 52 v2 rfl rfl) h2
  obtain ⟨near, a3, c3, rfl, k3, _⟩ := open_row Try.underlying52 Try.underlying3 Try.cells3 (hval 3 52 v3 rfl rfl) h3
  obtain ⟨AT, a4, c4, rfl, k4, _⟩ := open_row Try.underlying22 Try.underlying2 Try.cells2 (hval 4 22 v4 rfl rfl) h4
  obtain ⟨AK, a5, c5, rfl, k5, wA⟩ := open_row Try.underlying52 Try.underlying3 Try.cells3 (hval 5 52 v5 rfl rfl) h5
  clear hA0 hval0
  refine (law_any W c0 c1 c2 c3 c4 c5 a0 a1 a2 a3 a4 a5 G I AK near AT T vs wI wA k0 k1 k2 k3 k4 k5).mono fun e W' ⟨he, bel⟩ => ?_
  subst he
  exact ⟨_, rfl, _, _, _, [], _, [], hW', trodAll_mk1 (shut_bool Try.underlying4 _),
    (trodAll_cons_mk (Below.trod laidOut (by kernel_rfl) (of_decide_eq_true (by kernel_rfl)) h0 bel lt0)
      (trodAll_cons_mk (Below.trod laidOut (by kernel_rfl) (of_decide_eq_true (by kernel_rfl)) h1 bel lt1)
      (trodAll_cons_mk (Below.trod laidOut (by kernel_rfl) (of_decide_eq_true (by kernel_rfl)) h2 bel lt2)
      (trodAll_cons_mk (Below.trod laidOut (by kernel_rfl) (of_decide_eq_true (by kernel_rfl)) h3 bel lt3)
      (trodAll_cons_mk (Below.trod laidOut (by kernel_rfl) (of_decide_eq_true (by kernel_rfl)) h4 bel lt4)
      (trodAll_cons_mk (Below.trod laidOut (by kernel_rfl) (of_decide_eq_true (by kernel_rfl)) h5 bel lt5) trodAll_mk0)))))), rfl, bel.frame _, fun h => by cases h⟩

theorem fnEventListAddGroupsByKind_holds : Rows.FnEventListAddGroupsByKindSaid :=
  OpenClaim.holds_of_wide 7 Try.f7 rfl rfl rfl rfl rfl rfl rfl ⟨rfl, rfl, rfl, rfl, rfl⟩ rfl rfl rfl rfl rfl (by kernel_rfl) Try.func7 (by kernel_rfl)
    (of_decide_eq_true (by kernel_rfl)) (by unfold Func.isWrapper; first | (rw [if_pos (by decide +kernel)]; kernel_rfl) | (rw [if_neg (by decide +kernel)]; exact ⟨rfl, rfl⟩))
    (fun os started H enc _ => lifted os started H enc)
#print axioms fnEventListAddGroupsByKind_holds
end Go.Proofs.Qxb6621626a
