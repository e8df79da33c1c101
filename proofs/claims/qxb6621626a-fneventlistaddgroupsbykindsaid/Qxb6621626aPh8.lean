/-
  THE LAW: its guard on the total.
-/
import Derived.Test.Qxb6621626aPh10
namespace Go.Proofs.Qxb6621626a
open Go.RowKit
set_option linter.unusedVariables false

set_option maxRecDepth 100000 in
set_option maxHeartbeats 4000000 in
theorem ph8 {R : Ending → World → Prop} (W : World) (N c0 c1 c2 c3 c4 c5 : Nat) (a0 a1 a2 a3 a4 a5 : Option Addr) (G : List (List Int)) (I AK near AT T : List Int) (vs : List Value) (s6 s7 s8 s9 s10 s11 s12 s44 s45 s46 s47 s48 s49 s50 s51 s52 s53 s54 s55 s56 s57 s58 s59 s60 s61 s62 s63 s64 s65 s66 s67 s68 s69 : Value)
    (k1 : T.length ≤ 65536) (k2 : vs.length ≤ 65536) (k3 : I.length ≤ 4096) (k4 : AK.length ≤ 4096) (k5 : AT.length ≤ 4096) (k6 : near.length ≤ 65536) (wI : ∀ x ∈ I, (Lit.int .i64 x).wf = true) (wA : ∀ x ∈ AK, (Lit.int .i64 x).wf = true) (kg : ∀ g ∈ G, g.length ≤ 1048576)
    (h0 : Ints W (.slice a0 T.length c0) T) (h1 : Ints2 W (.slice a1 vs.length c1) vs G) (h2 : Ints W (.slice a2 I.length c2) I) (h3 : Ints W (.slice a3 near.length c3) near) (h4 : Ints W (.slice a4 AT.length c4) AT) (h5 : Ints W (.slice a5 AK.length c5) AK)
    (hN : N ≤ W.heap.size) (hR : ∀ w', Below N W w' → R (.returned (.bool true)) w') :
    Code.wp Try.prog (dropS 8 (Try.f7.body.getD .skip)) (bodyPost Try.prog Try.f7 R) ⟨List.toArray ((.slice a0 T.length c0) :: (.slice a1 vs.length c1) :: (.slice a2 I.length c2) :: (.slice a3 near.length c3) :: (.slice a4 AT.length c4) :: (.slice a5 AK.length c5) :: s6 :: s7 :: s8 :: s9 :: s10 :: s11 :: s12 :: undef :: undef :: undef :: undef :: undef :: undef :: undef :: undef :: undef :: undef :: undef :: undef :: undef :: undef :: undef :: undef :: undef :: undef :: undef :: undef :: undef :: undef :: undef :: undef :: undef :: undef :: undef :: undef :: undef :: undef :: undef :: s44 :: s45 :: s46 :: s47 :: s48 :: s49 :: s50 :: s51 :: s52 :: s53 :: s54 :: s55 :: s56 :: s57 :: s58 :: s59 :: s60 :: s61 :: s62 :: s63 :: s64 :: s65 :: s66 :: s67 :: s68 :: s69 :: undef :: undef :: undef :: undef :: undef :: undef :: undef :: undef :: undef :: undef :: undef :: undef :: undef :: undef :: undef :: undef :: undef :: undef :: undef :: undef :: undef :: undef :: undef :: undef :: undef :: undef :: undef :: undef :: undef :: undef :: undef :: undef :: undef :: undef :: undef :: undef :: undef :: undef :: undef :: undef :: undef :: undef :: undef :: undef :: undef :: undef :: undef :: undef :: undef :: undef :: undef :: undef :: undef :: undef :: undef :: undef :: undef :: undef :: undef :: undef :: undef :: undef :: undef :: undef :: undef :: undef :: undef :: undef :: undef :: undef :: undef :: undef :: undef :: undef :: undef :: undef :: undef :: undef :: undef :: undef :: undef :: undef :: undef :: undef :: undef :: undef :: undef :: undef :: undef :: undef :: undef :: undef :: undef :: undef :: undef :: undef :: undef :: undef :: undef :: undef :: undef :: undef :: undef :: undef :: undef :: undef :: undef :: undef :: undef :: undef :: undef :: undef :: undef :: undef :: undef :: undef :: undef :: undef :: undef :: undef :: undef :: undef :: undef :: undef :: undef :: undef :: undef :: undef :: undef :: undef :: undef :: undef :: undef :: undef :: undef :: undef :: undef :: undef :: undef :: undef :: undef :: undef :: undef :: undef :: undef :: undef :: undef :: undef :: undef :: undef :: undef :: undef :: undef :: undef :: undef :: undef :: undef :: undef :: undef :: undef :: undef :: undef :: undef :: undef :: undef :: undef :: undef :: undef :: undef :: undef :: undef :: undef :: undef :: undef :: undef :: undef :: undef :: undef :: undef :: undef :: undef :: undef :: undef :: undef :: undef :: undef :: undef :: undef :: undef :: undef :: undef :: undef :: undef :: undef :: undef :: undef :: undef :: undef :: undef :: undef :: undef :: undef :: undef :: undef :: undef :: undef :: undef :: undef :: undef :: undef :: undef :: undef :: undef :: undef :: undef :: undef :: undef :: undef :: undef :: undef :: undef :: undef :: undef :: undef :: undef :: undef :: undef :: undef :: undef :: undef :: undef :: undef :: undef :: undef :: undef :: undef :: undef :: undef :: undef :: undef :: undef :: undef :: undef :: undef :: undef :: undef :: undef :: undef :: undef :: undef :: undef :: undef :: undef :: undef :: undef :: undef :: undef :: undef :: undef :: undef :: undef :: undef :: undef :: undef :: undef :: undef :: undef :: undef :: undef :: undef :: undef :: undef :: undef :: undef :: undef :: undef :: undef :: undef :: undef :: undef :: undef :: undef :: undef :: undef :: undef :: undef :: undef :: undef :: undef :: undef :: undef :: undef :: undef :: undef :: undef :: undef :: undef :: undef :: undef :: undef :: undef :: undef :: undef :: undef :: undef :: undef :: undef :: undef :: undef :: undef :: undef :: undef :: undef :: undef :: undef :: undef :: undef :: undef :: undef :: undef :: undef :: undef :: undef :: undef :: undef :: undef :: undef :: undef :: undef :: undef :: undef :: undef :: undef :: undef :: undef :: undef :: undef :: undef :: undef :: undef :: undef :: undef :: undef :: undef :: undef :: undef :: undef :: undef :: undef :: undef :: undef :: undef :: undef :: undef :: undef :: undef :: undef :: undef :: undef :: undef :: undef :: undef :: undef :: undef :: undef :: undef :: undef :: undef :: undef :: undef :: undef :: undef :: undef :: undef :: []), []⟩ W := by
  have H := hidden (And.intro h0 (And.intro h1 (And.intro h2 (And.intro h3 (And.intro h4 h5)))))
  obtain ⟨hvl, hin, a', c', e', hc1, hc2, hcells⟩ := h1
  simp only [Value.slice.injEq] at e'
  obtain ⟨rfl, _, rfl⟩ := e'
  have HV := hidden hvl
  have HR := hidden hR
  have HK := hidden kg
  have HWI := hidden wI
  have HWA := hidden wA
  have HI := hidden hin
  have HC := hidden hcells
  unfold maxLen at hc2
  clear h0 h2 h3 h4 h5 hR kg wI wA hvl hin hcells
  conv => arg 2; whnf
  refine wp_split (c2 := dropS 9 (Try.f7.body.getD .skip)) ?_
  go_wp2
  conv => arg 2; whnf
  refine wp_split (c2 := dropS 10 (Try.f7.body.getD .skip)) ?_
  go_wp2
  go_loopw [13, 14] (fun tv i wr => ∃ k tot : Nat, k ≤ vs.length ∧ i = .int .i64 k ∧ tv = .int .i64 (tot : Int) ∧ tot ≤ 16777216 ∧ wr = W ∧ Hid (∀ g ∈ G.take k, 8 * g.length ≤ tot)) (fun _ i _ => vs.length - (intOf i).toNat)
  case atStart => exact ⟨0, 8 * T.length + 24 * vs.length + 8 * I.length + 8 * near.length + 8 * AT.length + 8 * AK.length, Nat.zero_le _, rfl, by simp, by omega, rfl, by simp [Hid]⟩
  case round =>
    obtain ⟨k, tot, hk, rfl, rfl, htot, rfl, hall⟩ := hrel
    have done : tot ≤ 1048576 → k = vs.length → ∀ g ∈ G, g.length ≤ 131072 := fun ht hk' g hg => by
      have := hall.out g (by rw [List.take_of_length_le (by rw [← HV.out]; omega)]; exact hg)
      omega
    have HD := hidden done
    clear done
    by_cases hlt : k < vs.length
    · have hdk : decide ((k : Int) < (vs.length : Int)) = true := by simpa using hlt
      by_cases hsm : tot ≤ 1048576
      · have hds : decide ((tot : Int) ≤ 1048576) = true := by simp; omega
        rcases HC.out with e0 | ⟨b, off, rfl, hcell⟩
        · rw [e0] at hlt; simp at hlt
        obtain ⟨x, hx⟩ : ∃ x, vs[k]? = some x := ⟨_, List.getElem?_eq_getElem hlt⟩
        obtain ⟨g, hg⟩ : ∃ g, G[k]? = some g := ⟨_, List.getElem?_eq_getElem (by have := HV.out; omega)⟩
        have d1 := hcell k x hx
        obtain ⟨ax, cx, rfl, hx1, hx2, _⟩ := HI.out k x g hx hg
        have hgl := HK.out g (List.mem_of_getElem? hg)
        have HG := hidden hg
        unfold maxLen at hx2
        clear hcell hx hg
        go_wp2
        go_roundw
        case rel => exact ⟨k + 1, tot + 8 * g.length, by omega, by go_num, by simp, by omega, by first | rfl | trivial, by
          rw [Hid, List.take_add_one, HG.out]
          intro g' hg'
          rcases List.mem_append.1 hg' with h | h
          · have := hall.out g' h; omega
          · simp at h; subst h; omega⟩
        case measure => simp [intOf]; omega
      · have hds : decide ((tot : Int) ≤ 1048576) = false := by simp; omega
        go_wp2
        obtain ⟨h0, h1, h2, h3, h4, h5⟩ := H.out
        exact ph10 wr N c1 c2 tot a1 a2 G I AK near AT T vs _ _ _ _ _ _ _ _ _ _ _ _ _ _ _ _ _ _ _ _ _ _ _ _ _ _ _ _ _ _ _ _ _ _ _ _ _ _ _ _ _ _ _ _ _ _ _ _ _ _ _ _ _ _ _ _ _ _ _ _ _ _ _ _ _ _ _ _ _ _ _ _ _ _ _ _ _ _ _ k1 k3 k4 k5 k6 HWI.out HWA.out (fun h => absurd h hsm) h0 h1 h2 h3 h4 h5 hN HR.out
    · have hdk : decide ((k : Int) < (vs.length : Int)) = false := by simp; omega
      obtain rfl : k = vs.length := by omega
      go_wp2
      obtain ⟨h0, h1, h2, h3, h4, h5⟩ := H.out
      exact ph10 wr N c1 c2 tot a1 a2 G I AK near AT T vs _ _ _ _ _ _ _ _ _ _ _ _ _ _ _ _ _ _ _ _ _ _ _ _ _ _ _ _ _ _ _ _ _ _ _ _ _ _ _ _ _ _ _ _ _ _ _ _ _ _ _ _ _ _ _ _ _ _ _ _ _ _ _ _ _ _ _ _ _ _ _ _ _ _ _ _ _ _ _ k1 k3 k4 k5 k6 HWI.out HWA.out (fun h => HD.out h (by first | rfl | trivial)) h0 h1 h2 h3 h4 h5 hN HR.out
end Go.Proofs.Qxb6621626a
