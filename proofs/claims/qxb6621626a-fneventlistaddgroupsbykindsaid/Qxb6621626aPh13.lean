/-
  THE LAW: its clones.
-/
import Derived.Test.Qxb6621626aPh23
namespace Go.Proofs.Qxb6621626a
open Go.RowKit
set_option linter.unusedVariables false

/-- What the guards of the law leave. -/
structure Sz0 (G : List (List Int)) (T I AK near AT : List Int) : Prop where
  hT : T.length ≤ 65536
  hI : I.length = G.length
  hm : G.length ≤ 4096
  hK1 : AK.length ≤ 4096
  hT1 : AT.length ≤ 4096
  hnear : near.length ≤ 65536
  hg : ∀ g ∈ G, g.length ≤ 131072
  wI : ∀ x ∈ I, (Lit.int .i64 x).wf = true
  wA : ∀ x ∈ AK, (Lit.int .i64 x).wf = true
  pos : ∀ x ∈ I, 0 ≤ x
  nd : I.Nodup
theorem Sz0.sz {G : List (List Int)} {T I AK near AT : List Int} (h : Sz0 G T I AK near AT) {q : Nat} (h1 : q ≤ AK.length) (h2 : q ≤ AT.length) : Sz q T.length G.length G T I AK near AT :=
  ⟨rfl, rfl, h.hI, h.hm, h1, h2, h.hK1, h.hT1, h.hT, h.hnear, h.hg, h.wI, h.wA, h.pos, h.nd⟩

theorem Cl7.born {w1 w2 w3 w4 w5 w6 : World} {G : List (List Int)} {T I AK near AT : List Int} {v0 kv iv v3 v4 av : Value} {kvs : List Value} {B1 B2 B2' B3 B4 B5 B6 : Nat}
    (o1 : Own w1 B1 2 (.int .i64 0) v0 (nums T)) (o2 : Own w2 B2 52 (.slice none 0 0) kv kvs) (g2 : Groups w2 B2' kvs G) (o3 : Own w3 B3 3 (.int .i64 0) iv (nums I)) (o4 : Own w4 B4 3 (.int .i64 0) v3 (nums near)) (o5 : Own w5 B5 2 (.int .i64 0) v4 (nums AT)) (o6 : Own w6 B6 3 (.int .i64 0) av (nums AK))
    (b2 : Below w1.heap.size w1 w2) (b3 : Below w2.heap.size w2 w3) (b4 : Below w3.heap.size w3 w4) (b5 : Below w4.heap.size w4 w5) (b6 : Below w5.heap.size w5 w6) : Cl7 w6 G T I AK near AT v0 kv iv v3 v4 av :=
  have le := Nat.le_refl
  ⟨⟨_, ((((o1.below b2 (le _)).below b3 (le _)).below b4 (le _)).below b5 (le _)).below b6 (le _)⟩,
   ⟨_, _, kvs, (((o2.below b3 (le _)).below b4 (le _)).below b5 (le _)).below b6 (le _), (((g2.below b3 (le _)).below b4 (le _)).below b5 (le _)).below b6 (le _)⟩,
   ⟨_, ((o3.below b4 (le _)).below b5 (le _)).below b6 (le _)⟩, ⟨_, (o4.below b5 (le _)).below b6 (le _)⟩, ⟨_, o5.below b6 (le _)⟩, ⟨_, o6⟩⟩

theorem nums_length (zs : List Int) : (nums zs).length = zs.length := by simp [nums]

set_option maxRecDepth 100000 in
set_option maxHeartbeats 4000000 in
theorem ph19 {R : Ending → World → Prop} (W : World) (N cA ck ci c4 c0 : Nat) (aA ak ai a4 a0 : Option Addr) (G : List (List Int)) (I AK near AT T : List Int) (v3 : Value) (s6 s7 s8 s9 s10 s11 s12 s13 s14 s15 s16 s44 s45 s46 s47 s48 s49 s50 s51 s52 s53 s54 s55 s56 s57 s58 s59 s60 s61 s62 s63 s64 s65 s66 s67 s68 s69 s70 s71 s72 s73 s74 s75 s76 s77 s78 s79 s80 s81 s82 s83 s84 s85 s86 s87 s88 s89 s90 s91 s92 s93 s94 s95 s96 s97 s98 s99 s100 s101 s102 s103 s104 s105 s106 s107 s108 s109 s110 s111 s112 s113 s114 s115 s116 s117 s118 s119 s120 s121 s122 s123 s124 s125 s126 s127 s128 s129 s130 s131 s132 s133 s134 s135 s136 s137 s138 s139 s140 s141 s142 s143 s144 s145 s146 s147 s148 s149 s150 s151 s152 s153 s154 : Value) (hs : Sz0 G T I AK near AT) (hcl : Cl7 W G T I AK near AT (.slice a0 T.length c0) (.slice ak G.length ck) (.slice ai G.length ci) v3 (.slice a4 AT.length c4) (.slice aA AK.length cA))
    (hN : N ≤ W.heap.size) (hR : ∀ w', Below N W w' → R (.returned (.bool true)) w') :
    Code.wp Try.prog (dropS 19 (Try.f7.body.getD .skip)) (bodyPost Try.prog Try.f7 R) ⟨List.toArray ((.slice a0 T.length c0) :: (.slice ak G.length ck) :: (.slice ai G.length ci) :: v3 :: (.slice a4 AT.length c4) :: (.slice aA AK.length cA) :: s6 :: s7 :: s8 :: s9 :: s10 :: s11 :: s12 :: s13 :: s14 :: s15 :: s16 :: undef :: undef :: undef :: undef :: undef :: undef :: undef :: undef :: undef :: undef :: undef :: undef :: undef :: undef :: undef :: undef :: undef :: undef :: undef :: undef :: undef :: undef :: undef :: undef :: undef :: undef :: undef :: s44 :: s45 :: s46 :: s47 :: s48 :: s49 :: s50 :: s51 :: s52 :: s53 :: s54 :: s55 :: s56 :: s57 :: s58 :: s59 :: s60 :: s61 :: s62 :: s63 :: s64 :: s65 :: s66 :: s67 :: s68 :: s69 :: s70 :: s71 :: s72 :: s73 :: s74 :: s75 :: s76 :: s77 :: s78 :: s79 :: s80 :: s81 :: s82 :: s83 :: s84 :: s85 :: s86 :: s87 :: s88 :: s89 :: s90 :: s91 :: s92 :: s93 :: s94 :: s95 :: s96 :: s97 :: s98 :: s99 :: s100 :: s101 :: s102 :: s103 :: s104 :: s105 :: s106 :: s107 :: s108 :: s109 :: s110 :: s111 :: s112 :: s113 :: s114 :: s115 :: s116 :: s117 :: s118 :: s119 :: s120 :: s121 :: s122 :: s123 :: s124 :: s125 :: s126 :: s127 :: s128 :: s129 :: s130 :: s131 :: s132 :: s133 :: s134 :: s135 :: s136 :: s137 :: s138 :: s139 :: s140 :: s141 :: s142 :: s143 :: s144 :: s145 :: s146 :: s147 :: s148 :: s149 :: s150 :: s151 :: s152 :: s153 :: s154 :: undef :: undef :: undef :: undef :: undef :: undef :: undef :: undef :: undef :: undef :: undef :: undef :: undef :: undef :: undef :: undef :: undef :: undef :: undef :: undef :: undef :: undef :: undef :: undef :: undef :: undef :: undef :: undef :: undef :: undef :: undef :: undef :: undef :: undef :: undef :: undef :: undef :: undef :: undef :: undef :: undef :: undef :: undef :: undef :: undef :: undef :: undef :: undef :: undef :: undef :: undef :: undef :: undef :: undef :: undef :: undef :: undef :: undef :: undef :: undef :: undef :: undef :: undef :: undef :: undef :: undef :: undef :: undef :: undef :: undef :: undef :: undef :: undef :: undef :: undef :: undef :: undef :: undef :: undef :: undef :: undef :: undef :: undef :: undef :: undef :: undef :: undef :: undef :: undef :: undef :: undef :: undef :: undef :: undef :: undef :: undef :: undef :: undef :: undef :: undef :: undef :: undef :: undef :: undef :: undef :: undef :: undef :: undef :: undef :: undef :: undef :: undef :: undef :: undef :: undef :: undef :: undef :: undef :: undef :: undef :: undef :: undef :: undef :: undef :: undef :: undef :: undef :: undef :: undef :: undef :: undef :: undef :: undef :: undef :: undef :: undef :: undef :: undef :: undef :: undef :: undef :: undef :: undef :: undef :: undef :: undef :: undef :: undef :: undef :: undef :: undef :: undef :: undef :: undef :: undef :: undef :: undef :: undef :: undef :: undef :: undef :: undef :: undef :: undef :: undef :: undef :: undef :: undef :: undef :: undef :: undef :: undef :: undef :: undef :: undef :: undef :: undef :: undef :: undef :: undef :: undef :: undef :: undef :: undef :: undef :: undef :: undef :: undef :: undef :: undef :: undef :: undef :: undef :: undef :: undef :: undef :: undef :: undef :: undef :: undef :: undef :: undef :: undef :: undef :: undef :: undef :: undef :: undef :: undef :: undef :: undef :: undef :: undef :: undef :: undef :: undef :: undef :: undef :: undef :: undef :: undef :: undef :: undef :: undef :: undef :: undef :: undef :: undef :: undef :: undef :: undef :: undef :: undef :: undef :: undef :: undef :: undef :: undef :: undef :: undef :: undef :: undef :: undef :: undef :: undef :: undef :: undef :: undef :: undef :: undef :: undef :: undef :: undef :: undef :: undef :: undef :: undef :: undef :: undef :: undef :: undef :: undef :: undef :: undef :: undef :: undef :: undef :: undef :: undef :: undef :: undef :: undef :: undef :: undef :: undef :: undef :: undef :: undef :: undef :: undef :: undef :: undef :: undef :: undef :: undef :: undef :: undef :: undef :: undef :: []), []⟩ W := by
  have HSz := hidden hs
  have HR := hidden hR
  have HCl := hidden hcl
  clear hs hcl hR
  conv => arg 2; whnf
  refine wp_split (c2 := dropS 20 (Try.f7.body.getD .skip)) ?_
  go_wp2
  conv => arg 2; whnf
  refine wp_split (c2 := dropS 21 (Try.f7.body.getD .skip)) ?_
  by_cases hq : AK.length < AT.length
  · have hq' : (AK.length : Int) < (AT.length : Int) := by omega
    have hd : decide ((AK.length : Int) < (AT.length : Int)) = true := by simpa using hq
    go_wp2
    conv => arg 2; whnf
    refine wp_split (c2 := dropS 22 (Try.f7.body.getD .skip)) ?_
    go_wp2
    conv => arg 2; whnf
    refine wp_split (c2 := dropS 23 (Try.f7.body.getD .skip)) ?_
    go_wp2
    exact ph23 W N AK.length T.length G.length cA ck ci c4 c0 aA ak ai a4 a0 G I AK near AT T v3 _ _ _ _ _ _ _ _ _ _ _ _ _ _ _ _ _ _ _ _ _ _ _ _ _ _ _ _ _ _ _ _ _ _ _ _ _ _ _ _ _ _ _ _ _ _ _ _ _ _ _ _ _ _ _ _ _ _ _ _ _ _ _ _ _ _ _ _ _ _ _ _ _ _ _ _ _ _ _ _ _ _ _ _ _ _ _ _ _ _ _ _ _ _ _ _ _ _ _ _ _ _ _ _ _ _ _ _ _ _ _ _ _ _ _ _ _ _ _ _ _ _ _ _ _ _ _ _ _ _ _ _ _ _ (HSz.out.sz (Nat.le_refl _) (Nat.le_of_lt hq)) HCl.out hN HR.out
  · have hd : decide ((AK.length : Int) < (AT.length : Int)) = false := by simp; omega
    go_wp2
    conv => arg 2; whnf
    refine wp_split (c2 := dropS 22 (Try.f7.body.getD .skip)) ?_
    go_wp2
    conv => arg 2; whnf
    refine wp_split (c2 := dropS 23 (Try.f7.body.getD .skip)) ?_
    go_wp2
    exact ph23 W N AT.length T.length G.length cA ck ci c4 c0 aA ak ai a4 a0 G I AK near AT T v3 _ _ _ _ _ _ _ _ _ _ _ _ _ _ _ _ _ _ _ _ _ _ _ _ _ _ _ _ _ _ _ _ _ _ _ _ _ _ _ _ _ _ _ _ _ _ _ _ _ _ _ _ _ _ _ _ _ _ _ _ _ _ _ _ _ _ _ _ _ _ _ _ _ _ _ _ _ _ _ _ _ _ _ _ _ _ _ _ _ _ _ _ _ _ _ _ _ _ _ _ _ _ _ _ _ _ _ _ _ _ _ _ _ _ _ _ _ _ _ _ _ _ _ _ _ _ _ _ _ _ _ _ _ _ (HSz.out.sz (by omega) (Nat.le_refl _)) HCl.out hN HR.out

set_option maxRecDepth 100000 in
set_option maxHeartbeats 4000000 in
theorem ph13 {R : Ending → World → Prop} (W : World) (N : Nat) (G : List (List Int)) (I AK near AT T : List Int) (vs : List Value) (v0 v1 v2 v3 v4 v5 : Value) (s6 s7 s8 s9 s10 s11 s12 s13 s14 s15 s16 s44 s45 s46 s47 s48 s49 s50 s51 s52 s53 s54 s55 s56 s57 s58 s59 s60 s61 s62 s63 s64 s65 s66 s67 s68 s69 s70 s71 s72 s73 s74 s75 s76 s77 s78 s79 s80 s81 s82 s83 s84 s85 s86 s87 s88 s89 s90 s91 s92 s93 s94 s95 s96 s97 s98 s99 s100 s101 s102 s103 s104 s105 s106 s107 s108 s109 s110 s111 s112 s113 s114 s115 s116 s117 s118 s119 s120 s121 s122 s123 s124 s125 s126 s127 s128 s129 s130 s131 s132 s133 s134 s135 s136 s137 s138 s139 s140 s141 s142 : Value) (hs : Sz0 G T I AK near AT) (h0 : Ints W v0 T) (h1 : Ints2 W v1 vs G) (h2 : Ints W v2 I) (h3 : Ints W v3 near) (h4 : Ints W v4 AT) (h5 : Ints W v5 AK) (hvl : vs.length = G.length)
    (hN : N ≤ W.heap.size) (hR : ∀ w', Below N W w' → R (.returned (.bool true)) w') :
    Code.wp Try.prog (dropS 13 (Try.f7.body.getD .skip)) (bodyPost Try.prog Try.f7 R) ⟨List.toArray (v0 :: v1 :: v2 :: v3 :: v4 :: v5 :: s6 :: s7 :: s8 :: s9 :: s10 :: s11 :: s12 :: s13 :: s14 :: s15 :: s16 :: undef :: undef :: undef :: undef :: undef :: undef :: undef :: undef :: undef :: undef :: undef :: undef :: undef :: undef :: undef :: undef :: undef :: undef :: undef :: undef :: undef :: undef :: undef :: undef :: undef :: undef :: undef :: s44 :: s45 :: s46 :: s47 :: s48 :: s49 :: s50 :: s51 :: s52 :: s53 :: s54 :: s55 :: s56 :: s57 :: s58 :: s59 :: s60 :: s61 :: s62 :: s63 :: s64 :: s65 :: s66 :: s67 :: s68 :: s69 :: s70 :: s71 :: s72 :: s73 :: s74 :: s75 :: s76 :: s77 :: s78 :: s79 :: s80 :: s81 :: s82 :: s83 :: s84 :: s85 :: s86 :: s87 :: s88 :: s89 :: s90 :: s91 :: s92 :: s93 :: s94 :: s95 :: s96 :: s97 :: s98 :: s99 :: s100 :: s101 :: s102 :: s103 :: s104 :: s105 :: s106 :: s107 :: s108 :: s109 :: s110 :: s111 :: s112 :: s113 :: s114 :: s115 :: s116 :: s117 :: s118 :: s119 :: s120 :: s121 :: s122 :: s123 :: s124 :: s125 :: s126 :: s127 :: s128 :: s129 :: s130 :: s131 :: s132 :: s133 :: s134 :: s135 :: s136 :: s137 :: s138 :: s139 :: s140 :: s141 :: s142 :: undef :: undef :: undef :: undef :: undef :: undef :: undef :: undef :: undef :: undef :: undef :: undef :: undef :: undef :: undef :: undef :: undef :: undef :: undef :: undef :: undef :: undef :: undef :: undef :: undef :: undef :: undef :: undef :: undef :: undef :: undef :: undef :: undef :: undef :: undef :: undef :: undef :: undef :: undef :: undef :: undef :: undef :: undef :: undef :: undef :: undef :: undef :: undef :: undef :: undef :: undef :: undef :: undef :: undef :: undef :: undef :: undef :: undef :: undef :: undef :: undef :: undef :: undef :: undef :: undef :: undef :: undef :: undef :: undef :: undef :: undef :: undef :: undef :: undef :: undef :: undef :: undef :: undef :: undef :: undef :: undef :: undef :: undef :: undef :: undef :: undef :: undef :: undef :: undef :: undef :: undef :: undef :: undef :: undef :: undef :: undef :: undef :: undef :: undef :: undef :: undef :: undef :: undef :: undef :: undef :: undef :: undef :: undef :: undef :: undef :: undef :: undef :: undef :: undef :: undef :: undef :: undef :: undef :: undef :: undef :: undef :: undef :: undef :: undef :: undef :: undef :: undef :: undef :: undef :: undef :: undef :: undef :: undef :: undef :: undef :: undef :: undef :: undef :: undef :: undef :: undef :: undef :: undef :: undef :: undef :: undef :: undef :: undef :: undef :: undef :: undef :: undef :: undef :: undef :: undef :: undef :: undef :: undef :: undef :: undef :: undef :: undef :: undef :: undef :: undef :: undef :: undef :: undef :: undef :: undef :: undef :: undef :: undef :: undef :: undef :: undef :: undef :: undef :: undef :: undef :: undef :: undef :: undef :: undef :: undef :: undef :: undef :: undef :: undef :: undef :: undef :: undef :: undef :: undef :: undef :: undef :: undef :: undef :: undef :: undef :: undef :: undef :: undef :: undef :: undef :: undef :: undef :: undef :: undef :: undef :: undef :: undef :: undef :: undef :: undef :: undef :: undef :: undef :: undef :: undef :: undef :: undef :: undef :: undef :: undef :: undef :: undef :: undef :: undef :: undef :: undef :: undef :: undef :: undef :: undef :: undef :: undef :: undef :: undef :: undef :: undef :: undef :: undef :: undef :: undef :: undef :: undef :: undef :: undef :: undef :: undef :: undef :: undef :: undef :: undef :: undef :: undef :: undef :: undef :: undef :: undef :: undef :: undef :: undef :: undef :: undef :: undef :: undef :: undef :: undef :: undef :: undef :: undef :: undef :: undef :: undef :: undef :: undef :: undef :: undef :: undef :: undef :: undef :: undef :: undef :: undef :: undef :: undef :: undef :: undef :: undef :: undef :: undef :: undef :: undef :: undef :: undef :: undef :: undef :: undef :: undef :: []), []⟩ W := by
  have le := Nat.le_refl
  have k1 := hs.hT
  have k2 := hs.hI
  have k3 := hs.hm
  have k4 := hs.hK1
  have k5 := hs.hT1
  have k6 := hs.hnear
  have k7 := hs.hg
  have C0 := fun wx (hx : Below W.heap.size W wx) => cloneI64_any v0 T wx (h0.below hx (le _)) (by omega)
  have C1 := fun wx (hx : Below W.heap.size W wx) => cloneInts2_any v1 vs G wx (h1.below hx (le _)) (by omega) (fun g hg => by have := k7 g hg; omega)
  have C2 := fun wx (hx : Below W.heap.size W wx) => cloneInt_any v2 I wx (h2.below hx (le _)) (by omega)
  have C3 := fun wx (hx : Below W.heap.size W wx) => cloneInt_any v3 near wx (h3.below hx (le _)) (by omega)
  have C4 := fun wx (hx : Below W.heap.size W wx) => cloneI64_any v4 AT wx (h4.below hx (le _)) (by omega)
  have C5 := fun wx (hx : Below W.heap.size W wx) => cloneInt_any v5 AK wx (h5.below hx (le _)) (by omega)
  have HSz := hidden hs
  have HR := hidden hR
  have BW : Hid (Below W.heap.size W W) := Below.refl _ _
  clear hs hR h0 h1 h2 h3 h4 h5 k1 k2 k3 k4 k5 k6 k7 hvl
  conv => arg 2; whnf
  refine wp_split (c2 := dropS 14 (Try.f7.body.getD .skip)) ?_
  go_wp2_with (go_at_call 11; refine (C0 W BW.out).mono ?_; rintro e w1 ⟨u0, rfl, o1, bw1⟩; have Bw1 : Hid (Below W.heap.size W w1) := BW.out.trans (bw1.mono BW.out.size); clear C0)
  conv => arg 2; whnf
  refine wp_split (c2 := dropS 15 (Try.f7.body.getD .skip)) ?_
  go_wp2_with (go_at_call 26; refine (C1 w1 Bw1.out).mono ?_; rintro e w2 ⟨u1, rfl, kvs, o2, g2, bw2⟩; have Bw2 : Hid (Below W.heap.size W w2) := Bw1.out.trans (bw2.mono Bw1.out.size); clear C1)
  conv => arg 2; whnf
  refine wp_split (c2 := dropS 16 (Try.f7.body.getD .skip)) ?_
  go_wp2_with (go_at_call 27; refine (C2 w2 Bw2.out).mono ?_; rintro e w3 ⟨u2, rfl, o3, bw3⟩; have Bw3 : Hid (Below W.heap.size W w3) := Bw2.out.trans (bw3.mono Bw2.out.size); clear C2)
  conv => arg 2; whnf
  refine wp_split (c2 := dropS 17 (Try.f7.body.getD .skip)) ?_
  go_wp2_with (go_at_call 27; refine (C3 w3 Bw3.out).mono ?_; rintro e w4 ⟨u3, rfl, o4, bw4⟩; have Bw4 : Hid (Below W.heap.size W w4) := Bw3.out.trans (bw4.mono Bw3.out.size); clear C3)
  conv => arg 2; whnf
  refine wp_split (c2 := dropS 18 (Try.f7.body.getD .skip)) ?_
  go_wp2_with (go_at_call 11; refine (C4 w4 Bw4.out).mono ?_; rintro e w5 ⟨u4, rfl, o5, bw5⟩; have Bw5 : Hid (Below W.heap.size W w5) := Bw4.out.trans (bw5.mono Bw4.out.size); clear C4)
  conv => arg 2; whnf
  refine wp_split (c2 := dropS 19 (Try.f7.body.getD .skip)) ?_
  go_wp2_with (go_at_call 27; refine (C5 w5 Bw5.out).mono ?_; rintro e w6 ⟨u5, rfl, o6, bw6⟩; have Bw6 : Hid (Below W.heap.size W w6) := Bw5.out.trans (bw6.mono Bw5.out.size); clear C5)
  obtain ⟨a0, c0, f0, _, _, _⟩ := o1.form
  obtain ⟨ak, ck, f1, _, _, _⟩ := o2.form
  obtain ⟨ai, ci, f2, _, _, _⟩ := o3.form
  obtain ⟨a4, c4, f4, _, _, _⟩ := o5.form
  obtain ⟨aA, cA, f5, _, _, _⟩ := o6.form
  have hcl := Cl7.born o1 o2 g2 o3 o4 o5 o6 bw2 bw3 bw4 bw5 bw6
  have gl := g2.len
  rw [nums_length] at f0 f2 f4 f5
  rw [gl] at f1
  rw [HSz.out.hI] at f2
  clear o1 o2 g2 o3 o4 o5 o6
  subst f0 f1 f2 f4 f5
  exact ph19 _ N cA ck ci c4 c0 aA ak ai a4 a0 G I AK near AT T u3 _ _ _ _ _ _ _ _ _ _ _ _ _ _ _ _ _ _ _ _ _ _ _ _ _ _ _ _ _ _ _ _ _ _ _ _ _ _ _ _ _ _ _ _ _ _ _ _ _ _ _ _ _ _ _ _ _ _ _ _ _ _ _ _ _ _ _ _ _ _ _ _ _ _ _ _ _ _ _ _ _ _ _ _ _ _ _ _ _ _ _ _ _ _ _ _ _ _ _ _ _ _ _ _ _ _ _ _ _ _ _ _ _ _ _ _ _ _ _ _ _ _ HSz.out hcl (Nat.le_trans hN Bw6.out.size) (fun w' hb => HR.out _ ((Bw6.out.mono hN).trans hb))
end Go.Proofs.Qxb6621626a
