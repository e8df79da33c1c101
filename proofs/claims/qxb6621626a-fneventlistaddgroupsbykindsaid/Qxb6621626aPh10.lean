/-
  THE LAW: its guard on the kinds' ids.
-/
import Derived.Test.Qxb6621626aPh13
namespace Go.Proofs.Qxb6621626a
open Go.RowKit
set_option linter.unusedVariables false

def Good (I : List Int) (i : Nat) : Prop := (∀ x ∈ I.take i, 0 ≤ x) ∧ (I.take i).Nodup
theorem Good.step {I : List Int} {i : Nat} {x : Int} (h : Good I i) (hx : I[i]? = some x) (h0 : 0 ≤ x) (hno : x ∉ I.take i) : Good I (i + 1) := by
  unfold Good
  rw [take_of_get hx]
  refine ⟨fun y hy => ?_, ?_⟩
  · rcases List.mem_append.1 hy with h1 | h1
    · exact h.1 y h1
    · rw [List.mem_singleton] at h1; subst h1; exact h0
  · refine List.nodup_append.2 ⟨h.2, by simp, fun y hy z hz e => ?_⟩
    rw [List.mem_singleton] at hz
    subst hz e
    exact hno hy

set_option maxRecDepth 100000 in
set_option maxHeartbeats 4000000 in
theorem ph12 {R : Ending → World → Prop} (W : World) (N c2 : Nat) (a2 : Option Addr) (G : List (List Int)) (I AK near AT T : List Int) (vs : List Value) (v0 v1 v3 v4 v5 : Value) (s6 s7 s8 s9 s10 s11 s12 s13 s14 s44 s45 s46 s47 s48 s49 s50 s51 s52 s53 s54 s55 s56 s57 s58 s59 s60 s61 s62 s63 s64 s65 s66 s67 s68 s69 s70 s71 s72 s73 s74 s75 s76 s77 s78 s79 s80 s81 s82 s83 s84 s85 s86 s87 s88 s89 s90 s91 s92 s93 s94 s95 s96 s97 s98 s99 s100 s101 s102 s103 s104 s105 s106 s107 s108 s109 s110 s111 s112 s113 s114 s115 s116 s117 : Value) (k1 : T.length ≤ 65536) (k3 : I.length ≤ 4096) (k4 : AK.length ≤ 4096) (k5 : AT.length ≤ 4096) (k6 : near.length ≤ 65536) (wI : ∀ x ∈ I, (Lit.int .i64 x).wf = true) (wA : ∀ x ∈ AK, (Lit.int .i64 x).wf = true) (kg : ∀ g ∈ G, g.length ≤ 131072) (kI : I.length = G.length) (h0 : Ints W v0 T) (h1 : Ints2 W v1 vs G) (h2 : Ints W (.slice a2 I.length c2) I) (h3 : Ints W v3 near) (h4 : Ints W v4 AT) (h5 : Ints W v5 AK)
    (hN : N ≤ W.heap.size) (hR : ∀ w', Below N W w' → R (.returned (.bool true)) w') :
    Code.wp Try.prog (dropS 12 (Try.f7.body.getD .skip)) (bodyPost Try.prog Try.f7 R) ⟨List.toArray (v0 :: v1 :: (.slice a2 I.length c2) :: v3 :: v4 :: v5 :: s6 :: s7 :: s8 :: s9 :: s10 :: s11 :: s12 :: s13 :: s14 :: undef :: undef :: undef :: undef :: undef :: undef :: undef :: undef :: undef :: undef :: undef :: undef :: undef :: undef :: undef :: undef :: undef :: undef :: undef :: undef :: undef :: undef :: undef :: undef :: undef :: undef :: undef :: undef :: undef :: s44 :: s45 :: s46 :: s47 :: s48 :: s49 :: s50 :: s51 :: s52 :: s53 :: s54 :: s55 :: s56 :: s57 :: s58 :: s59 :: s60 :: s61 :: s62 :: s63 :: s64 :: s65 :: s66 :: s67 :: s68 :: s69 :: s70 :: s71 :: s72 :: s73 :: s74 :: s75 :: s76 :: s77 :: s78 :: s79 :: s80 :: s81 :: s82 :: s83 :: s84 :: s85 :: s86 :: s87 :: s88 :: s89 :: s90 :: s91 :: s92 :: s93 :: s94 :: s95 :: s96 :: s97 :: s98 :: s99 :: s100 :: s101 :: s102 :: s103 :: s104 :: s105 :: s106 :: s107 :: s108 :: s109 :: s110 :: s111 :: s112 :: s113 :: s114 :: s115 :: s116 :: s117 :: undef :: undef :: undef :: undef :: undef :: undef :: undef :: undef :: undef :: undef :: undef :: undef :: undef :: undef :: undef :: undef :: undef :: undef :: undef :: undef :: undef :: undef :: undef :: undef :: undef :: undef :: undef :: undef :: undef :: undef :: undef :: undef :: undef :: undef :: undef :: undef :: undef :: undef :: undef :: undef :: undef :: undef :: undef :: undef :: undef :: undef :: undef :: undef :: undef :: undef :: undef :: undef :: undef :: undef :: undef :: undef :: undef :: undef :: undef :: undef :: undef :: undef :: undef :: undef :: undef :: undef :: undef :: undef :: undef :: undef :: undef :: undef :: undef :: undef :: undef :: undef :: undef :: undef :: undef :: undef :: undef :: undef :: undef :: undef :: undef :: undef :: undef :: undef :: undef :: undef :: undef :: undef :: undef :: undef :: undef :: undef :: undef :: undef :: undef :: undef :: undef :: undef :: undef :: undef :: undef :: undef :: undef :: undef :: undef :: undef :: undef :: undef :: undef :: undef :: undef :: undef :: undef :: undef :: undef :: undef :: undef :: undef :: undef :: undef :: undef :: undef :: undef :: undef :: undef :: undef :: undef :: undef :: undef :: undef :: undef :: undef :: undef :: undef :: undef :: undef :: undef :: undef :: undef :: undef :: undef :: undef :: undef :: undef :: undef :: undef :: undef :: undef :: undef :: undef :: undef :: undef :: undef :: undef :: undef :: undef :: undef :: undef :: undef :: undef :: undef :: undef :: undef :: undef :: undef :: undef :: undef :: undef :: undef :: undef :: undef :: undef :: undef :: undef :: undef :: undef :: undef :: undef :: undef :: undef :: undef :: undef :: undef :: undef :: undef :: undef :: undef :: undef :: undef :: undef :: undef :: undef :: undef :: undef :: undef :: undef :: undef :: undef :: undef :: undef :: undef :: undef :: undef :: undef :: undef :: undef :: undef :: undef :: undef :: undef :: undef :: undef :: undef :: undef :: undef :: undef :: undef :: undef :: undef :: undef :: undef :: undef :: undef :: undef :: undef :: undef :: undef :: undef :: undef :: undef :: undef :: undef :: undef :: undef :: undef :: undef :: undef :: undef :: undef :: undef :: undef :: undef :: undef :: undef :: undef :: undef :: undef :: undef :: undef :: undef :: undef :: undef :: undef :: undef :: undef :: undef :: undef :: undef :: undef :: undef :: undef :: undef :: undef :: undef :: undef :: undef :: undef :: undef :: undef :: undef :: undef :: undef :: undef :: undef :: undef :: undef :: undef :: undef :: undef :: undef :: undef :: undef :: undef :: undef :: undef :: undef :: undef :: undef :: undef :: undef :: undef :: undef :: undef :: undef :: undef :: undef :: undef :: undef :: undef :: undef :: undef :: undef :: undef :: undef :: undef :: undef :: undef :: undef :: undef :: undef :: undef :: undef :: undef :: undef :: undef :: undef :: undef :: undef :: undef :: undef :: undef :: undef :: []), []⟩ W := by
  obtain ⟨hvl, _⟩ := id h1
  have HV := hidden hvl
  have HS : Hid (∀ i, i = I.length → Good I i → Sz0 G T I AK near AT) := fun i hi hg => by
    subst hi
    unfold Good at hg
    rw [List.take_length] at hg
    exact ⟨k1, kI, by omega, k4, k5, k6, kg, wI, wA, hg.1, hg.2⟩
  have H := hidden (And.intro h0 (And.intro h1 (And.intro h2 (And.intro h3 (And.intro h4 h5)))))
  obtain ⟨a', c', e', hc1, hc2, hcells⟩ := h2
  simp only [Value.slice.injEq] at e'
  obtain ⟨rfl, _, rfl⟩ := e'
  have HR := hidden hR
  have HC := hidden hcells
  clear h0 h1 h3 h4 h5 hR hcells wI wA kg kI hvl k1 k4 k5 k6
  unfold maxLen at hc2
  conv => arg 2; whnf
  refine wp_split (c2 := dropS 13 (Try.f7.body.getD .skip)) ?_
  go_wp2
  go_loopw [15, 16] (fun i _ wr => ∃ k : Nat, k ≤ I.length ∧ i = .int .i64 k ∧ (∃ qq, wr = W.drewN qq) ∧ Hid (Good I k)) (fun i _ _ => I.length - (intOf i).toNat)
  case atStart => exact ⟨0, Nat.zero_le _, rfl, ⟨0, rfl⟩, by simp [Good, Hid]⟩
  case round =>
    obtain ⟨i, hi, rfl, ⟨qq, rfl⟩, hgood⟩ := hrel
    by_cases hlt : i < I.length
    · obtain ⟨x, hx⟩ : ∃ x, I[i]? = some x := ⟨_, List.getElem?_eq_getElem hlt⟩
      rcases HC.out with h0 | ⟨b, off, rfl, hcell⟩
      · rw [h0] at hlt; simp at hlt
      have d1 := hcell i x hx
      have HCl := hidden hcell
      have HX := hidden hx
      clear hcell hx HC
      by_cases hneg : x < 0
      · have hd : decide (x < 0) = true := by simpa using hneg
        go_wp2
        exact HR.out _ (below_drewN (Below.refl _ _) qq)
      · have hd : decide (x < 0) = false := by simpa using hneg
        go_wp2
        go_loopw [16] (fun jv wr => ∃ j : Nat, j ≤ i ∧ jv = .int .i64 j ∧ (∃ qq, wr = W.drewN qq) ∧ Hid (x ∉ I.take j)) (fun jv _ => i - (intOf jv).toNat)
        case atStart => exact ⟨0, Nat.zero_le _, rfl, ⟨_, rfl⟩, by simp [Hid]⟩
        case round =>
          obtain ⟨j, hj, rfl, ⟨q2, rfl⟩, hno⟩ := hrel
          by_cases hjt : j < i
          · obtain ⟨y, hy⟩ : ∃ y, I[j]? = some y := ⟨_, List.getElem?_eq_getElem (by omega)⟩
            have d2 := HCl.out j y hy
            have HY := hidden hy
            have hjI : j < I.length := by omega
            clear hy
            by_cases hxy : y = x
            · subst hxy
              go_wp2
              go_quiet (fail)
              go_wp2
              exact HR.out _ (below_drewN (below_drewN (Below.refl _ _) _) _)
            · have hd2 : (y == x) = false := by simpa using hxy
              go_wp2
              go_quiet (fail)
              go_wp2
              go_roundw
              case rel => exact ⟨j + 1, by omega, by go_num, ⟨_, rfl⟩, by
                rw [Hid, take_of_get HY.out, List.mem_append, List.mem_singleton]
                rintro (h | h)
                · exact hno.out h
                · exact hxy h.symm⟩
              case measure => simp [intOf]; omega
          · obtain rfl : j = i := by omega
            go_wp2
            go_roundw
            case rel => exact ⟨j + 1, by omega, by go_num, ⟨_, rfl⟩, hgood.out.step HX.out (by omega) hno.out⟩
            case measure => simp [intOf]; omega
    · obtain rfl : i = I.length := by omega
      go_wp2
      have hb := below_drewN (Below.refl W.heap.size W) qq
      obtain ⟨h0, h1, h2, h3, h4, h5⟩ := H.out
      exact ph13 _ N G I AK near AT T vs v0 v1 _ v3 v4 v5 _ _ _ _ _ _ _ _ _ _ _ _ _ _ _ _ _ _ _ _ _ _ _ _ _ _ _ _ _ _ _ _ _ _ _ _ _ _ _ _ _ _ _ _ _ _ _ _ _ _ _ _ _ _ _ _ _ _ _ _ _ _ _ _ _ _ _ _ _ _ _ _ _ _ _ _ _ _ _ _ _ _ _ _ _ _ _ _ _ _ _ _ _ _ _ _ _ _ _ _ _ _ _ _ _ _ _ _ _ _ (HS.out _ rfl hgood.out) (h0.drew qq) (h1.below hb (Nat.le_refl _)) (h2.drew qq) (h3.drew qq) (h4.drew qq) (h5.drew qq) HV.out hN (fun w' hb' => HR.out _ ((below_drewN (Below.refl _ _) qq).trans hb'))

set_option maxRecDepth 100000 in
set_option maxHeartbeats 4000000 in
theorem ph10 {R : Ending → World → Prop} (W : World) (N c1 c2 tot : Nat) (a1 a2 : Option Addr) (G : List (List Int)) (I AK near AT T : List Int) (vs : List Value) (v0 v3 v4 v5 : Value) (s6 s7 s8 s9 s10 s11 s12 s14 s44 s45 s46 s47 s48 s49 s50 s51 s52 s53 s54 s55 s56 s57 s58 s59 s60 s61 s62 s63 s64 s65 s66 s67 s68 s69 s70 s71 s72 s73 s74 s75 s76 s77 s78 s79 s80 s81 s82 s83 s84 s85 s86 s87 s88 s89 s90 s91 s92 s93 s94 s95 s96 s97 s98 s99 s100 s101 s102 s103 s104 s105 s106 s107 s108 s109 s110 : Value) (k1 : T.length ≤ 65536) (k3 : I.length ≤ 4096) (k4 : AK.length ≤ 4096) (k5 : AT.length ≤ 4096) (k6 : near.length ≤ 65536) (wI : ∀ x ∈ I, (Lit.int .i64 x).wf = true) (wA : ∀ x ∈ AK, (Lit.int .i64 x).wf = true) (kg : tot ≤ 1048576 → ∀ g ∈ G, g.length ≤ 131072) (h0 : Ints W v0 T) (h1 : Ints2 W (.slice a1 vs.length c1) vs G) (h2 : Ints W (.slice a2 I.length c2) I) (h3 : Ints W v3 near) (h4 : Ints W v4 AT) (h5 : Ints W v5 AK)
    (hN : N ≤ W.heap.size) (hR : ∀ w', Below N W w' → R (.returned (.bool true)) w') :
    Code.wp Try.prog (dropS 10 (Try.f7.body.getD .skip)) (bodyPost Try.prog Try.f7 R) ⟨List.toArray (v0 :: (.slice a1 vs.length c1) :: (.slice a2 I.length c2) :: v3 :: v4 :: v5 :: s6 :: s7 :: s8 :: s9 :: s10 :: s11 :: s12 :: (.int .i64 (tot : Int)) :: s14 :: undef :: undef :: undef :: undef :: undef :: undef :: undef :: undef :: undef :: undef :: undef :: undef :: undef :: undef :: undef :: undef :: undef :: undef :: undef :: undef :: undef :: undef :: undef :: undef :: undef :: undef :: undef :: undef :: undef :: s44 :: s45 :: s46 :: s47 :: s48 :: s49 :: s50 :: s51 :: s52 :: s53 :: s54 :: s55 :: s56 :: s57 :: s58 :: s59 :: s60 :: s61 :: s62 :: s63 :: s64 :: s65 :: s66 :: s67 :: s68 :: s69 :: s70 :: s71 :: s72 :: s73 :: s74 :: s75 :: s76 :: s77 :: s78 :: s79 :: s80 :: s81 :: s82 :: s83 :: s84 :: s85 :: s86 :: s87 :: s88 :: s89 :: s90 :: s91 :: s92 :: s93 :: s94 :: s95 :: s96 :: s97 :: s98 :: s99 :: s100 :: s101 :: s102 :: s103 :: s104 :: s105 :: s106 :: s107 :: s108 :: s109 :: s110 :: undef :: undef :: undef :: undef :: undef :: undef :: undef :: undef :: undef :: undef :: undef :: undef :: undef :: undef :: undef :: undef :: undef :: undef :: undef :: undef :: undef :: undef :: undef :: undef :: undef :: undef :: undef :: undef :: undef :: undef :: undef :: undef :: undef :: undef :: undef :: undef :: undef :: undef :: undef :: undef :: undef :: undef :: undef :: undef :: undef :: undef :: undef :: undef :: undef :: undef :: undef :: undef :: undef :: undef :: undef :: undef :: undef :: undef :: undef :: undef :: undef :: undef :: undef :: undef :: undef :: undef :: undef :: undef :: undef :: undef :: undef :: undef :: undef :: undef :: undef :: undef :: undef :: undef :: undef :: undef :: undef :: undef :: undef :: undef :: undef :: undef :: undef :: undef :: undef :: undef :: undef :: undef :: undef :: undef :: undef :: undef :: undef :: undef :: undef :: undef :: undef :: undef :: undef :: undef :: undef :: undef :: undef :: undef :: undef :: undef :: undef :: undef :: undef :: undef :: undef :: undef :: undef :: undef :: undef :: undef :: undef :: undef :: undef :: undef :: undef :: undef :: undef :: undef :: undef :: undef :: undef :: undef :: undef :: undef :: undef :: undef :: undef :: undef :: undef :: undef :: undef :: undef :: undef :: undef :: undef :: undef :: undef :: undef :: undef :: undef :: undef :: undef :: undef :: undef :: undef :: undef :: undef :: undef :: undef :: undef :: undef :: undef :: undef :: undef :: undef :: undef :: undef :: undef :: undef :: undef :: undef :: undef :: undef :: undef :: undef :: undef :: undef :: undef :: undef :: undef :: undef :: undef :: undef :: undef :: undef :: undef :: undef :: undef :: undef :: undef :: undef :: undef :: undef :: undef :: undef :: undef :: undef :: undef :: undef :: undef :: undef :: undef :: undef :: undef :: undef :: undef :: undef :: undef :: undef :: undef :: undef :: undef :: undef :: undef :: undef :: undef :: undef :: undef :: undef :: undef :: undef :: undef :: undef :: undef :: undef :: undef :: undef :: undef :: undef :: undef :: undef :: undef :: undef :: undef :: undef :: undef :: undef :: undef :: undef :: undef :: undef :: undef :: undef :: undef :: undef :: undef :: undef :: undef :: undef :: undef :: undef :: undef :: undef :: undef :: undef :: undef :: undef :: undef :: undef :: undef :: undef :: undef :: undef :: undef :: undef :: undef :: undef :: undef :: undef :: undef :: undef :: undef :: undef :: undef :: undef :: undef :: undef :: undef :: undef :: undef :: undef :: undef :: undef :: undef :: undef :: undef :: undef :: undef :: undef :: undef :: undef :: undef :: undef :: undef :: undef :: undef :: undef :: undef :: undef :: undef :: undef :: undef :: undef :: undef :: undef :: undef :: undef :: undef :: undef :: undef :: undef :: undef :: undef :: undef :: undef :: undef :: undef :: undef :: undef :: undef :: undef :: undef :: undef :: undef :: undef :: undef :: undef :: undef :: undef :: undef :: undef :: undef :: undef :: []), []⟩ W := by
  have HV := hidden h1.1
  have HR := hidden hR
  have H := hidden (And.intro h0 (And.intro h1 (And.intro h2 (And.intro h3 (And.intro h4 h5)))))
  have HK := hidden kg
  have HWI := hidden wI
  have HWA := hidden wA
  clear h0 h1 h2 h3 h4 h5 hR kg wI wA
  conv => arg 2; whnf
  refine wp_split (c2 := dropS 11 (Try.f7.body.getD .skip)) ?_
  by_cases hbig : tot ≤ 1048576
  · have hd : decide ((tot : Int) > 1048576) = false := by simp; omega
    have hd2 : decide ((1048576 : Int) < (tot : Int)) = false := by simp; omega
    go_wp2
    conv => arg 2; whnf
    refine wp_split (c2 := dropS 12 (Try.f7.body.getD .skip)) ?_
    by_cases hl : I.length = vs.length
    · have hd3 : ((I.length : Int) != (vs.length : Int)) = false := by simp [hl]
      have HL := hidden hl
      clear hl
      go_wp2
      obtain ⟨h0, h1, h2, h3, h4, h5⟩ := H.out
      exact ph12 W N c2 a2 G I AK near AT T vs v0 _ v3 v4 v5 _ _ _ _ _ _ _ _ _ _ _ _ _ _ _ _ _ _ _ _ _ _ _ _ _ _ _ _ _ _ _ _ _ _ _ _ _ _ _ _ _ _ _ _ _ _ _ _ _ _ _ _ _ _ _ _ _ _ _ _ _ _ _ _ _ _ _ _ _ _ _ _ _ _ _ _ _ _ _ _ _ _ _ k1 k3 k4 k5 k6 HWI.out HWA.out (HK.out hbig) (HL.out.trans HV.out) h0 h1 h2 h3 h4 h5 hN HR.out
    · have hd3 : ((I.length : Int) != (vs.length : Int)) = true := by simp; omega
      go_wp2
      exact HR.out _ (Below.refl _ _)
  · have hd : decide ((tot : Int) > 1048576) = true := by simp; omega
    have hd2 : decide ((1048576 : Int) < (tot : Int)) = true := by simp; omega
    go_wp2
    exact HR.out _ (Below.refl _ _)
end Go.Proofs.Qxb6621626a
