/-
  THE LAW: its first guards; the law whole.
-/
import Derived.Test.Qxb6621626aPh8
namespace Go.Proofs.Qxb6621626a
open Go.RowKit
set_option linter.unusedVariables false

set_option maxRecDepth 100000 in
set_option maxHeartbeats 4000000 in
theorem ph2 {R : Ending → World → Prop} (W : World) (N c0 c1 c2 c3 c4 c5 : Nat) (a0 a1 a2 a3 a4 a5 : Option Addr) (G : List (List Int)) (I AK near AT T : List Int) (vs : List Value) (s6 s7 s8 s9 s10 s11 s12 s44 s45 s46 s47 s48 s49 s50 s51 : Value)
    (wI : ∀ x ∈ I, (Lit.int .i64 x).wf = true) (wA : ∀ x ∈ AK, (Lit.int .i64 x).wf = true) (kg : ∀ g ∈ G, g.length ≤ 1048576)
    (h0 : Ints W (.slice a0 T.length c0) T) (h1 : Ints2 W (.slice a1 vs.length c1) vs G) (h2 : Ints W (.slice a2 I.length c2) I) (h3 : Ints W (.slice a3 near.length c3) near) (h4 : Ints W (.slice a4 AT.length c4) AT) (h5 : Ints W (.slice a5 AK.length c5) AK)
    (hN : N ≤ W.heap.size) (hR : ∀ w', Below N W w' → R (.returned (.bool true)) w') :
    Code.wp Try.prog (dropS 2 (Try.f7.body.getD .skip)) (bodyPost Try.prog Try.f7 R) ⟨List.toArray ((.slice a0 T.length c0) :: (.slice a1 vs.length c1) :: (.slice a2 I.length c2) :: (.slice a3 near.length c3) :: (.slice a4 AT.length c4) :: (.slice a5 AK.length c5) :: s6 :: s7 :: s8 :: s9 :: s10 :: s11 :: s12 :: undef :: undef :: undef :: undef :: undef :: undef :: undef :: undef :: undef :: undef :: undef :: undef :: undef :: undef :: undef :: undef :: undef :: undef :: undef :: undef :: undef :: undef :: undef :: undef :: undef :: undef :: undef :: undef :: undef :: undef :: undef :: s44 :: s45 :: s46 :: s47 :: s48 :: s49 :: s50 :: s51 :: undef :: undef :: undef :: undef :: undef :: undef :: undef :: undef :: undef :: undef :: undef :: undef :: undef :: undef :: undef :: undef :: undef :: undef :: undef :: undef :: undef :: undef :: undef :: undef :: undef :: undef :: undef :: undef :: undef :: undef :: undef :: undef :: undef :: undef :: undef :: undef :: undef :: undef :: undef :: undef :: undef :: undef :: undef :: undef :: undef :: undef :: undef :: undef :: undef :: undef :: undef :: undef :: undef :: undef :: undef :: undef :: undef :: undef :: undef :: undef :: undef :: undef :: undef :: undef :: undef :: undef :: undef :: undef :: undef :: undef :: undef :: undef :: undef :: undef :: undef :: undef :: undef :: undef :: undef :: undef :: undef :: undef :: undef :: undef :: undef :: undef :: undef :: undef :: undef :: undef :: undef :: undef :: undef :: undef :: undef :: undef :: undef :: undef :: undef :: undef :: undef :: undef :: undef :: undef :: undef :: undef :: undef :: undef :: undef :: undef :: undef :: undef :: undef :: undef :: undef :: undef :: undef :: undef :: undef :: undef :: undef :: undef :: undef :: undef :: undef :: undef :: undef :: undef :: undef :: undef :: undef :: undef :: undef :: undef :: undef :: undef :: undef :: undef :: undef :: undef :: undef :: undef :: undef :: undef :: undef :: undef :: undef :: undef :: undef :: undef :: undef :: undef :: undef :: undef :: undef :: undef :: undef :: undef :: undef :: undef :: undef :: undef :: undef :: undef :: undef :: undef :: undef :: undef :: undef :: undef :: undef :: undef :: undef :: undef :: undef :: undef :: undef :: undef :: undef :: undef :: undef :: undef :: undef :: undef :: undef :: undef :: undef :: undef :: undef :: undef :: undef :: undef :: undef :: undef :: undef :: undef :: undef :: undef :: undef :: undef :: undef :: undef :: undef :: undef :: undef :: undef :: undef :: undef :: undef :: undef :: undef :: undef :: undef :: undef :: undef :: undef :: undef :: undef :: undef :: undef :: undef :: undef :: undef :: undef :: undef :: undef :: undef :: undef :: undef :: undef :: undef :: undef :: undef :: undef :: undef :: undef :: undef :: undef :: undef :: undef :: undef :: undef :: undef :: undef :: undef :: undef :: undef :: undef :: undef :: undef :: undef :: undef :: undef :: undef :: undef :: undef :: undef :: undef :: undef :: undef :: undef :: undef :: undef :: undef :: undef :: undef :: undef :: undef :: undef :: undef :: undef :: undef :: undef :: undef :: undef :: undef :: undef :: undef :: undef :: undef :: undef :: undef :: undef :: undef :: undef :: undef :: undef :: undef :: undef :: undef :: undef :: undef :: undef :: undef :: undef :: undef :: undef :: undef :: undef :: undef :: undef :: undef :: undef :: undef :: undef :: undef :: undef :: undef :: undef :: undef :: undef :: undef :: undef :: undef :: undef :: undef :: undef :: undef :: undef :: undef :: undef :: undef :: undef :: undef :: undef :: undef :: undef :: undef :: undef :: undef :: undef :: undef :: undef :: undef :: undef :: undef :: undef :: undef :: undef :: undef :: undef :: undef :: undef :: undef :: undef :: undef :: undef :: undef :: undef :: undef :: undef :: undef :: undef :: undef :: undef :: undef :: undef :: undef :: undef :: undef :: undef :: undef :: undef :: undef :: undef :: undef :: undef :: undef :: undef :: undef :: undef :: undef :: undef :: undef :: undef :: undef :: undef :: undef :: undef :: undef :: undef :: undef :: undef :: undef :: undef :: undef :: undef :: undef :: undef :: undef :: undef :: undef :: []), []⟩ W := by
  have l0 : T.length ≤ maxLen := by obtain ⟨_, _, _, x, y, _⟩ := h0; exact Nat.le_trans x y
  have l1 : vs.length ≤ maxLen := by obtain ⟨_, _, _, _, _, x, y, _⟩ := h1; exact Nat.le_trans x y
  have l2 : I.length ≤ maxLen := by obtain ⟨_, _, _, x, y, _⟩ := h2; exact Nat.le_trans x y
  have l3 : near.length ≤ maxLen := by obtain ⟨_, _, _, x, y, _⟩ := h3; exact Nat.le_trans x y
  have l4 : AT.length ≤ maxLen := by obtain ⟨_, _, _, x, y, _⟩ := h4; exact Nat.le_trans x y
  have l5 : AK.length ≤ maxLen := by obtain ⟨_, _, _, x, y, _⟩ := h5; exact Nat.le_trans x y
  unfold maxLen at l0 l1 l2 l3 l4 l5
  have H := hidden (And.intro h0 (And.intro h1 (And.intro h2 (And.intro h3 (And.intro h4 h5)))))
  have HR := hidden hR
  have HK := hidden kg
  have HWI := hidden wI
  have HWA := hidden wA
  clear h0 h1 h2 h3 h4 h5 hR kg wI wA
  conv => arg 2; whnf
  refine wp_split (c2 := dropS 3 (Try.f7.body.getD .skip)) ?_
  by_cases k1 : T.length ≤ 65536
  case neg =>
    have hd : decide ((65536 : Int) < (T.length : Int)) = true := by simp; omega
    go_wp2
    exact HR.out _ (Below.refl _ _)
  have hd : decide ((65536 : Int) < (T.length : Int)) = false := by simp; omega
  go_wp2
  clear hd
  conv => arg 2; whnf
  refine wp_split (c2 := dropS 4 (Try.f7.body.getD .skip)) ?_
  by_cases k2 : vs.length ≤ 65536
  case neg =>
    have hd : decide ((65536 : Int) < (vs.length : Int)) = true := by simp; omega
    go_wp2
    exact HR.out _ (Below.refl _ _)
  have hd : decide ((65536 : Int) < (vs.length : Int)) = false := by simp; omega
  go_wp2
  clear hd
  conv => arg 2; whnf
  refine wp_split (c2 := dropS 5 (Try.f7.body.getD .skip)) ?_
  by_cases k3 : I.length ≤ 4096
  case neg =>
    have hd : decide ((4096 : Int) < (I.length : Int)) = true := by simp; omega
    go_wp2
    exact HR.out _ (Below.refl _ _)
  have hd : decide ((4096 : Int) < (I.length : Int)) = false := by simp; omega
  go_wp2
  clear hd
  conv => arg 2; whnf
  refine wp_split (c2 := dropS 6 (Try.f7.body.getD .skip)) ?_
  by_cases k6 : near.length ≤ 65536
  case neg =>
    have hd : decide ((65536 : Int) < (near.length : Int)) = true := by simp; omega
    go_wp2
    exact HR.out _ (Below.refl _ _)
  have hd : decide ((65536 : Int) < (near.length : Int)) = false := by simp; omega
  go_wp2
  clear hd
  conv => arg 2; whnf
  refine wp_split (c2 := dropS 7 (Try.f7.body.getD .skip)) ?_
  by_cases k5 : AT.length ≤ 4096
  case neg =>
    have hd : decide ((4096 : Int) < (AT.length : Int)) = true := by simp; omega
    go_wp2
    exact HR.out _ (Below.refl _ _)
  have hd : decide ((4096 : Int) < (AT.length : Int)) = false := by simp; omega
  go_wp2
  clear hd
  conv => arg 2; whnf
  refine wp_split (c2 := dropS 8 (Try.f7.body.getD .skip)) ?_
  by_cases k4 : AK.length ≤ 4096
  case neg =>
    have hd : decide ((4096 : Int) < (AK.length : Int)) = true := by simp; omega
    go_wp2
    exact HR.out _ (Below.refl _ _)
  have hd : decide ((4096 : Int) < (AK.length : Int)) = false := by simp; omega
  go_wp2
  clear hd
  obtain ⟨h0, h1, h2, h3, h4, h5⟩ := H.out
  exact ph8 W N c0 c1 c2 c3 c4 c5 a0 a1 a2 a3 a4 a5 G I AK near AT T vs _ _ _ _ _ _ _ _ _ _ _ _ _ _ _ _ _ _ _ _ _ _ _ _ _ _ _ _ _ _ _ _ _ k1 k2 k3 k4 k5 k6 HWI.out HWA.out HK.out h0 h1 h2 h3 h4 h5 hN HR.out

set_option maxRecDepth 100000 in
set_option maxHeartbeats 4000000 in
theorem law_any (W : World) (c0 c1 c2 c3 c4 c5 : Nat) (a0 a1 a2 a3 a4 a5 : Option Addr) (G : List (List Int)) (I AK near AT T : List Int) (vs : List Value)
    (wI : ∀ x ∈ I, (Lit.int .i64 x).wf = true) (wA : ∀ x ∈ AK, (Lit.int .i64 x).wf = true)
    (h0 : Ints W (.slice a0 T.length c0) T) (h1 : Ints2 W (.slice a1 vs.length c1) vs G) (h2 : Ints W (.slice a2 I.length c2) I) (h3 : Ints W (.slice a3 near.length c3) near) (h4 : Ints W (.slice a4 AT.length c4) AT) (h5 : Ints W (.slice a5 AK.length c5) AK) :
    Calls Try.prog 7 #[.slice a0 T.length c0, .slice a1 vs.length c1, .slice a2 I.length c2, .slice a3 near.length c3, .slice a4 AT.length c4, .slice a5 AK.length c5] W fun e w' => e = .returned (.bool true) ∧ Below W.heap.size W w' := by
  have l0 : T.length ≤ maxLen := by obtain ⟨_, _, _, x, y, _⟩ := h0; exact Nat.le_trans x y
  have l2 : I.length ≤ maxLen := by obtain ⟨_, _, _, x, y, _⟩ := h2; exact Nat.le_trans x y
  have l3 : near.length ≤ maxLen := by obtain ⟨_, _, _, x, y, _⟩ := h3; exact Nat.le_trans x y
  have l4 : AT.length ≤ maxLen := by obtain ⟨_, _, _, x, y, _⟩ := h4; exact Nat.le_trans x y
  have l5 : AK.length ≤ maxLen := by obtain ⟨_, _, _, x, y, _⟩ := h5; exact Nat.le_trans x y
  have hz := zzBytes_any a0 a2 a3 a4 a5 T.length c0 I.length c2 near.length c3 AT.length c4 AK.length c5 (.slice a1 vs.length c1) vs G W h1 l0 l2 l3 l4 l5
  have H := hidden (And.intro h0 (And.intro h1 (And.intro h2 (And.intro h3 (And.intro h4 h5)))))
  have HWI := hidden wI
  have HWA := hidden wA
  clear h0 h1 h2 h3 h4 h5 wI wA l0 l2 l3 l4 l5
  go_enter Try.func7, Try.ntmps7
  refine wp_split (c2 := dropS 1 (Try.f7.body.getD .skip)) ?_
  go_wp2
  conv => arg 2; whnf
  refine wp_split (c2 := dropS 2 (Try.f7.body.getD .skip)) ?_
  go_wp2_with (go_at_call 25; refine hz.mono ?_; rintro e w' ⟨b, rfl, hb, rfl⟩)
  · go_ret
    exact ⟨rfl, Below.refl _ _⟩
  · rename_i hsp
    have hbt : b = true := by simpa using hsp
    obtain ⟨h0, h1, h2, h3, h4, h5⟩ := H.out
    exact ph2 W W.heap.size c0 c1 c2 c3 c4 c5 a0 a1 a2 a3 a4 a5 G I AK near AT T vs _ _ _ _ _ _ _ _ _ _ _ _ _ _ _ HWI.out HWA.out (hb hbt) h0 h1 h2 h3 h4 h5 (Nat.le_refl _) (fun w' h => ⟨rfl, h⟩)
end Go.Proofs.Qxb6621626a
