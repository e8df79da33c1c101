import Derived.Test.Qxb6619391aWalks
import Derived.ProofKit
import Derived.OpenShut
import Derived.ChangeOld
import Derived.ChangeArms
import Derived.Below
namespace Go.Proofs.Qxb6619391a
open Go.ChangeShapes Go.WideShapes Go.ChangeAt Go.RowKit
set_option linter.unusedVariables false

theorem own : ownKnob Try.prog.godebug = none := by kernel_rfl
theorem laidOut : laidOutB Try.prog = true := by kernel_rfl
theorem Try.cells4 : Try.prog.cellsOf 4 = 1 := by kernel_rfl
theorem Try.cells2 : Try.prog.cellsOf 2 = 1 := by kernel_rfl

/-- A pointer to a bool that came in, opened: whatever the default, there is what '*p' or else the default gives. -/
theorem open_boolAt {H : Type} {enc : TypeId × Value → H} {W : World} {b0 : Nat} {v : Value} {d : DataW H} {ps : List MemPlace} (hval : Value.okWide Try.prog W .any b0 22 v)
    (hd : DataW.Trod enc Try.prog W 0 (fun _ => true) true 22 v d ps) : ∃ p, v = .pointer p ∧ ∀ e, ∃ r, BoolAt W p e r := by
  rcases open_ptr Try.underlying22 (by rw [Try.cells4]; omega) hval hd with ⟨rfl, _, _⟩ | ⟨b, off, cs, y, fuel, rfl, _, _, _, hcell, hy⟩
  · exact ⟨none, rfl, fun e => ⟨e, .inl ⟨rfl, rfl⟩⟩⟩
  · obtain ⟨n, rfl, _⟩ := DataW.trod_bool Try.underlying4 hy
    have := hcell 0 (by rw [Try.cells4]; omega)
    exact ⟨_, rfl, fun _ => ⟨n, .inr ⟨b, off, rfl, by simpa using this⟩⟩⟩
theorem open_intAt {H : Type} {enc : TypeId × Value → H} {W : World} {b0 : Nat} {v : Value} {d : DataW H} {ps : List MemPlace} (hval : Value.okWide Try.prog W .any b0 23 v)
    (hd : DataW.Trod enc Try.prog W 0 (fun _ => true) true 23 v d ps) : ∃ p, v = .pointer p ∧ ∀ e, ∃ r, IntAt W p e r := by
  rcases open_ptr_int Try.underlying23 Try.underlying2 Try.cells2 hval hd with ⟨rfl, _, _⟩ | ⟨b, off, n, rfl, _, _, hcell, _⟩
  · exact ⟨none, rfl, fun e => ⟨e, .inl ⟨rfl, rfl⟩⟩⟩
  · exact ⟨_, rfl, fun _ => ⟨n, .inr ⟨b, off, rfl, hcell⟩⟩⟩

set_option maxRecDepth 100000 in
theorem lifted (os : Os) (started : os.Started) (H : Type) (enc : TypeId × Value → H) :
    ReturnsInHanded {} Try.checked os 3 .any (Rows.fnScheduleChangesComposeSpec.pre6 enc Try.prog Try.f3 Rows.fnScheduleChangesComposeRow.domain false) (Rows.fnScheduleChangesComposeSpec.post enc Try.prog Try.f3 false true false false) := by
  refine returnsInHanded_of_change (C := Try.checked) own started (by kernel_rfl) Try.func3
    (ChangeSpec.witness6 (enc := enc) (C := Try.checked) false ⟨#[], #[.bool false, .int .i64 0, .pointer none, .pointer none, .pointer none, .pointer none, .bool false, .int .i64 0], []⟩ 8 (by kernel_rfl) (by kernel_rfl) (by kernel_rfl) (by kernel_rfl)) ?_
  intro W base args ds gs before hval0 hW hcnd _
  have hval : ∀ (j : Nat) t v, Try.f3.params[j]? = some t → args[j]? = some v → Value.okWide Try.prog W .any base t v := hval0
  have hW' := hW
  obtain ⟨p, q, hA0, hV, rfl, hfz, hnd⟩ := hW
  have hA : DataW.TrodAll enc Try.prog W 0 (fun _ => true) true Try.f3.params.toList args.toList ds p := hA0
  rw [Try.params3] at hA hval
  obtain ⟨v0, vs0, d0, ds0, p0, q0, hargs, rfl, rfl, h0, r0⟩ := trodAll_cons hA
  obtain ⟨v1, vs1, d1, ds1, p1, q1, rfl, rfl, rfl, h1, r1⟩ := trodAll_cons r0
  obtain ⟨v2, vs2, d2, ds2, p2, q2, rfl, rfl, rfl, h2, r2⟩ := trodAll_cons r1
  obtain ⟨v3, vs3, d3, ds3, p3, q3, rfl, rfl, rfl, h3, r3⟩ := trodAll_cons r2
  obtain ⟨v4, vs4, d4, ds4, p4, q4, rfl, rfl, rfl, h4, r4⟩ := trodAll_cons r3
  obtain ⟨v5, vs5, d5, ds5, p5, q5, rfl, rfl, rfl, h5, r5⟩ := trodAll_cons r4
  obtain ⟨v6, vs6, d6, ds6, p6, q6, rfl, rfl, rfl, h6, r6⟩ := trodAll_cons r5
  obtain ⟨v7, vs7, d7, ds7, p7, q7, rfl, rfl, rfl, h7, r7⟩ := trodAll_cons r6
  obtain ⟨rfl, rfl, rfl⟩ := trodAll_nil r7
  obtain rfl : args = #[v0, v1, v2, v3, v4, v5, v6, v7] := by cases args; simp_all
  obtain ⟨rfl, rfl⟩ := trodVars_none hV
  obtain ⟨a0, rfl, rfl, rfl⟩ := open_bool Try.underlying4 (hval 0 4 v0 rfl rfl) h0
  obtain ⟨a1, rfl, rfl, rfl, w1⟩ := open_int Try.underlying2 (hval 1 2 v1 rfl rfl) h1
  obtain ⟨c1, rfl, g1⟩ := open_boolAt (hval 2 22 v2 rfl rfl) h2
  obtain ⟨c2, rfl, g2⟩ := open_intAt (hval 3 23 v3 rfl rfl) h3
  obtain ⟨c3, rfl, g3⟩ := open_boolAt (hval 4 22 v4 rfl rfl) h4
  obtain ⟨c4, rfl, g4⟩ := open_intAt (hval 5 23 v5 rfl rfl) h5
  obtain ⟨a6, rfl, rfl, rfl⟩ := open_bool Try.underlying4 (hval 6 4 v6 rfl rfl) h6
  obtain ⟨a7, rfl, rfl, rfl, w7⟩ := open_int Try.underlying2 (hval 7 2 v7 rfl rfl) h7
  have lt2 : ∀ x ∈ p2, x.block < W.heap.size := by obtain ⟨m, hm⟩ := h2; exact DataW.trod_lt m _ _ _ hm
  have lt3 : ∀ x ∈ p3, x.block < W.heap.size := by obtain ⟨m, hm⟩ := h3; exact DataW.trod_lt m _ _ _ hm
  have lt4 : ∀ x ∈ p4, x.block < W.heap.size := by obtain ⟨m, hm⟩ := h4; exact DataW.trod_lt m _ _ _ hm
  have lt5 : ∀ x ∈ p5, x.block < W.heap.size := by obtain ⟨m, hm⟩ := h5; exact DataW.trod_lt m _ _ _ hm
  clear hA0 hval0
  obtain ⟨e1, k1⟩ := g1 a0
  obtain ⟨i1, k2⟩ := g2 a1
  obtain ⟨e2, k3⟩ := g3 e1
  obtain ⟨i2, k4⟩ := g4 i1
  refine (law_any a0 a6 a1 a7 c1 c2 c3 c4 e1 e2 i1 i2 W k1 k2 k3 k4).mono fun e W' ⟨he, bel⟩ => ?_
  subst he
  exact ⟨_, rfl, _, _, _, [], _, [], hW', trodAll_mk1 (shut_bool Try.underlying4 _),
    (trodAll_cons_mk (shut_bool Try.underlying4 _) (trodAll_cons_mk (shut_int Try.underlying2 w1)
      (trodAll_cons_mk (Below.trod laidOut (by kernel_rfl) (of_decide_eq_true (by kernel_rfl)) h2 bel lt2)
      (trodAll_cons_mk (Below.trod laidOut (by kernel_rfl) (of_decide_eq_true (by kernel_rfl)) h3 bel lt3)
      (trodAll_cons_mk (Below.trod laidOut (by kernel_rfl) (of_decide_eq_true (by kernel_rfl)) h4 bel lt4)
      (trodAll_cons_mk (Below.trod laidOut (by kernel_rfl) (of_decide_eq_true (by kernel_rfl)) h5 bel lt5)
      (trodAll_cons_mk (shut_bool Try.underlying4 _) (trodAll_cons_mk (shut_int Try.underlying2 w7) trodAll_mk0)))))))), rfl, bel.frame _, fun h => by cases h⟩

theorem fnScheduleChangesCompose_holds : Rows.FnScheduleChangesComposeSaid :=
  OpenClaim.holds_of_wide 3 Try.f3 rfl rfl rfl rfl rfl rfl rfl ⟨rfl, rfl, rfl, rfl, rfl⟩ rfl rfl rfl rfl rfl (by kernel_rfl) Try.func3 (by kernel_rfl)
    (of_decide_eq_true (by kernel_rfl)) (by unfold Func.isWrapper; first | (rw [if_pos (by decide +kernel)]; kernel_rfl) | (rw [if_neg (by decide +kernel)]; exact ⟨rfl, rfl⟩))
    (fun os started H enc _ => lifted os started H enc)
#print axioms fnScheduleChangesCompose_holds
end Go.Proofs.Qxb6619391a
