/-
  THE LAW: the list is made, of clones.
-/
import Derived.Test.Qxb6621626aPh30
namespace Go.Proofs.Qxb6621626a
open Go.RowKit
set_option linter.unusedVariables false

theorem Run.born {W w w1 w2 w3 w4 : World} {q n m : Nat} {G : List (List Int)} {T I AK near AT : List Int} {es ads vs : List Value} {vE vT vK vM vN : Value} (hs : Sz q n m G T I AK near AT) (hb : Below W.heap.size W w) (hM : MapIs w W.heap.size vM I)
    (o1 : Own w1 w.heap.size 39 (.pointer none) vE es) (b1 : Below w.heap.size w w1) (o2 : Own w2 w1.heap.size 2 (.int .i64 0) vT (nums T)) (b2 : Below w1.heap.size w1 w2)
    (o3 : Own w3 w2.heap.size 52 (.slice none 0 0) vK vs) (g3 : Groups w3 w2.heap.size vs G) (b3 : Below w2.heap.size w2 w3) (o4 : Own w4 w3.heap.size 3 (.int .i64 0) vN (nums near)) (b4 : Below w3.heap.size w3 w4) :
    Run W w4.heap.size n es ads T AT G I AK near 0 (w4.alloc (.cells #[vE, vT, vK, vM, vN] 81)) := by
  have s0 := hb.size
  have s1 := b1.size
  have s2 := b2.size
  have s3 := b3.size
  have s4 := b4.size
  have le := Nat.le_refl
  have B1 : Below W.heap.size W w4 := (((hb.trans (b1.mono s0)).trans (b2.mono (by omega))).trans (b3.mono (by omega))).trans (b4.mono (by omega))
  refine ⟨G, I, vE, vT, vK, vM, vN, vs, ?_, Closed.start (by rw [hs.hG, hs.hI]) hs.nd, B1.alloc (by omega) _⟩
  refine ⟨by omega, Go.heap_alloc_new w4 _, ?_, ?_, ?_, ?_, ?_⟩
  · simpa using ((((o1.below b2 (le _)).below b3 (by omega)).below b4 (by omega)).alloc _).mono (by omega)
  · simpa using (((o2.below b3 (le _)).below b4 (by omega)).alloc _).mono (by omega)
  · exact ((o3.below b4 (le _)).alloc _).mono (by omega)
  · have g4 := g3.below b4 (le _)
    have g5 : Groups w4 w2.heap.size (vN :: vs) (near :: G) := g4.cons (N := w3.heap.size) (fun i y k hy hk => (g3.lt hy hk).2) (by omega) o4
    exact (g5.below ((Below.refl w4.heap.size w4).alloc (le _) _) (le _)).mono (by omega)
  · exact ((((hM.below b1 (le _)).below b2 (le _)).below b3 (le _)).below b4 (le _)).below ((Below.refl w4.heap.size w4).alloc (le _) _) (le _)

theorem ERow.ptrs {w : World} {v : Value} {es : List Value} {T : List Int} (h : ERow w v es T) : ∀ x ∈ es, ∃ p, x = .pointer p := fun x hx => by
  obtain ⟨i, hi, rfl⟩ := List.getElem_of_mem hx
  obtain ⟨_, hl, hE⟩ := h
  obtain ⟨b, hb, _⟩ := hE i (T[i]'(by omega)) (List.getElem?_eq_getElem (by omega))
  rw [List.getElem?_eq_getElem hi] at hb
  simp only [Option.some.injEq] at hb
  exact ⟨_, hb⟩

set_option maxRecDepth 100000 in
set_option maxHeartbeats 4000000 in
theorem ph29 {R : Ending → World → Prop} (W w : World) (N q n m cA ck ci c22 c4 c20 c0 : Nat) (aA ak ai a22 a4 a20 a0 : Option Addr) (G : List (List Int)) (I AK near AT T : List Int) (es ads : List Value) (v3 : Value) (vM : Value) (s6 s7 s8 s9 s10 s11 s12 s13 s14 s15 s16 s21 s23 s25 s44 s45 s46 s47 s48 s49 s50 s51 s52 s53 s54 s55 s56 s57 s58 s59 s60 s61 s62 s63 s64 s65 s66 s67 s68 s69 s70 s71 s72 s73 s74 s75 s76 s77 s78 s79 s80 s81 s82 s83 s84 s85 s86 s87 s88 s89 s90 s91 s92 s93 s94 s95 s96 s97 s98 s99 s100 s101 s102 s103 s104 s105 s106 s107 s108 s109 s110 s111 s112 s113 s114 s115 s116 s117 s118 s119 s120 s121 s122 s123 s124 s125 s126 s127 s128 s129 s130 s131 s132 s133 s134 s135 s136 s137 s138 s139 s140 s141 s142 s143 s144 s145 s146 s147 s148 s149 s150 s151 s152 s153 s154 s155 s156 s157 s158 s159 s160 s161 s162 s163 s164 s165 s166 s167 s168 s169 s170 s171 s172 s173 s174 s175 s176 s177 s178 s179 s180 s181 s182 s183 s184 s185 s186 s187 s188 s189 s190 s191 s192 s193 s194 s195 s196 s197 s198 s199 s200 s201 s202 s203 s204 s205 s206 s207 s208 s209 s210 s211 s212 : Value)
    (hb : Below W.heap.size W w) (hM : MapIs w W.heap.size vM I) (hs : Sz q n m G T I AK near AT) (hcl : Cl7 W G T I AK near AT (.slice a0 n c0) (.slice ak m ck) (.slice ai m ci) v3 (.slice a4 AT.length c4) (.slice aA AK.length cA))
    (hes : ERow W (.slice a20 n c20) es T) (had : ERow W (.slice a22 q c22) ads (AT.take q))
    (hN : N ≤ W.heap.size) (hR : ∀ w', Below N W w' → R (.returned (.bool true)) w') :
    Code.wp Try.prog (dropS 29 (Try.f7.body.getD .skip)) (bodyPost Try.prog Try.f7 R) ⟨List.toArray ((.slice a0 n c0) :: (.slice ak m ck) :: (.slice ai m ci) :: v3 :: (.slice a4 AT.length c4) :: (.slice aA AK.length cA) :: s6 :: s7 :: s8 :: s9 :: s10 :: s11 :: s12 :: s13 :: s14 :: s15 :: s16 :: (.int .i64 (q : Int)) :: (.int .i64 (n : Int)) :: (.int .i64 (m : Int)) :: (.slice a20 n c20) :: s21 :: (.slice a22 q c22) :: s23 :: vM :: s25 :: undef :: undef :: undef :: undef :: undef :: undef :: undef :: undef :: undef :: undef :: undef :: undef :: undef :: undef :: undef :: undef :: undef :: undef :: s44 :: s45 :: s46 :: s47 :: s48 :: s49 :: s50 :: s51 :: s52 :: s53 :: s54 :: s55 :: s56 :: s57 :: s58 :: s59 :: s60 :: s61 :: s62 :: s63 :: s64 :: s65 :: s66 :: s67 :: s68 :: s69 :: s70 :: s71 :: s72 :: s73 :: s74 :: s75 :: s76 :: s77 :: s78 :: s79 :: s80 :: s81 :: s82 :: s83 :: s84 :: s85 :: s86 :: s87 :: s88 :: s89 :: s90 :: s91 :: s92 :: s93 :: s94 :: s95 :: s96 :: s97 :: s98 :: s99 :: s100 :: s101 :: s102 :: s103 :: s104 :: s105 :: s106 :: s107 :: s108 :: s109 :: s110 :: s111 :: s112 :: s113 :: s114 :: s115 :: s116 :: s117 :: s118 :: s119 :: s120 :: s121 :: s122 :: s123 :: s124 :: s125 :: s126 :: s127 :: s128 :: s129 :: s130 :: s131 :: s132 :: s133 :: s134 :: s135 :: s136 :: s137 :: s138 :: s139 :: s140 :: s141 :: s142 :: s143 :: s144 :: s145 :: s146 :: s147 :: s148 :: s149 :: s150 :: s151 :: s152 :: s153 :: s154 :: s155 :: s156 :: s157 :: s158 :: s159 :: s160 :: s161 :: s162 :: s163 :: s164 :: s165 :: s166 :: s167 :: s168 :: s169 :: s170 :: s171 :: s172 :: s173 :: s174 :: s175 :: s176 :: s177 :: s178 :: s179 :: s180 :: s181 :: s182 :: s183 :: s184 :: s185 :: s186 :: s187 :: s188 :: s189 :: s190 :: s191 :: s192 :: s193 :: s194 :: s195 :: s196 :: s197 :: s198 :: s199 :: s200 :: s201 :: s202 :: s203 :: s204 :: s205 :: s206 :: s207 :: s208 :: s209 :: s210 :: s211 :: s212 :: undef :: undef :: undef :: undef :: undef :: undef :: undef :: undef :: undef :: undef :: undef :: undef :: undef :: undef :: undef :: undef :: undef :: undef :: undef :: undef :: undef :: undef :: undef :: undef :: undef :: undef :: undef :: undef :: undef :: undef :: undef :: undef :: undef :: undef :: undef :: undef :: undef :: undef :: undef :: undef :: undef :: undef :: undef :: undef :: undef :: undef :: undef :: undef :: undef :: undef :: undef :: undef :: undef :: undef :: undef :: undef :: undef :: undef :: undef :: undef :: undef :: undef :: undef :: undef :: undef :: undef :: undef :: undef :: undef :: undef :: undef :: undef :: undef :: undef :: undef :: undef :: undef :: undef :: undef :: undef :: undef :: undef :: undef :: undef :: undef :: undef :: undef :: undef :: undef :: undef :: undef :: undef :: undef :: undef :: undef :: undef :: undef :: undef :: undef :: undef :: undef :: undef :: undef :: undef :: undef :: undef :: undef :: undef :: undef :: undef :: undef :: undef :: undef :: undef :: undef :: undef :: undef :: undef :: undef :: undef :: undef :: undef :: undef :: undef :: undef :: undef :: undef :: undef :: undef :: undef :: undef :: undef :: undef :: undef :: undef :: undef :: undef :: undef :: undef :: undef :: undef :: undef :: undef :: undef :: undef :: undef :: undef :: undef :: undef :: undef :: undef :: undef :: undef :: undef :: undef :: undef :: undef :: undef :: undef :: undef :: undef :: undef :: undef :: undef :: undef :: undef :: undef :: undef :: undef :: undef :: undef :: undef :: undef :: undef :: undef :: undef :: undef :: undef :: undef :: undef :: undef :: undef :: undef :: undef :: undef :: undef :: undef :: undef :: undef :: undef :: undef :: undef :: undef :: undef :: undef :: undef :: undef :: undef :: undef :: undef :: undef :: undef :: undef :: undef :: undef :: undef :: undef :: undef :: undef :: undef :: undef :: undef :: undef :: undef :: undef :: undef :: undef :: undef :: undef :: undef :: undef :: undef :: undef :: undef :: undef :: undef :: undef :: undef :: undef :: undef :: undef :: []), []⟩ w := by
  have hnl := hs.hnear
  have hTl := hs.hT
  have hn := hs.hn
  have hm := hs.hm
  have hGl := hs.hG
  have hgl := hs.hg
  have c29 : Calls Try.prog 29 #[.slice a20 n c20] w fun e w' => ∃ v', e = .returned v' ∧ Own w' w.heap.size 39 (.pointer none) v' es ∧ Below w.heap.size w w' := by
    have hpt := hes.ptrs
    obtain ⟨⟨B, h20⟩, e20, _⟩ := hes
    exact cloneEvents_any _ es B w (h20.below hb (Nat.le_refl _)) (by omega) hpt
  have c11 : ∀ wx, Below W.heap.size W wx → Calls Try.prog 11 #[.slice a0 n c0] wx fun e w' => ∃ v', e = .returned v' ∧ Own w' wx.heap.size 2 (.int .i64 0) v' (nums T) ∧ Below wx.heap.size wx w' := fun wx hx => by
    obtain ⟨B, h⟩ := hcl.t
    exact cloneI64_any _ T wx (h.below hx (Nat.le_refl _)).ints (by omega)
  have c26 : ∀ wx, Below W.heap.size W wx → Calls Try.prog 26 #[.slice ak m ck] wx fun e w' => ∃ v', e = .returned v' ∧ ∃ vs', Own w' wx.heap.size 52 (.slice none 0 0) v' vs' ∧ Groups w' wx.heap.size vs' G ∧ Below wx.heap.size wx w' := fun wx hx => by
    obtain ⟨B, B', vs, h, hg⟩ := hcl.k
    have hvl := hg.len
    exact cloneInts2_any _ vs G wx (ints2_of (h.below hx (Nat.le_refl _)) (hg.below hx (Nat.le_refl _))) (by omega) (fun g hg => by have := hgl g hg; omega)
  have c27 : ∀ wx, Below W.heap.size W wx → Calls Try.prog 27 #[v3] wx fun e w' => ∃ v', e = .returned v' ∧ Own w' wx.heap.size 3 (.int .i64 0) v' (nums near) ∧ Below wx.heap.size wx w' := fun wx hx => by
    obtain ⟨B, h⟩ := hcl.n
    exact cloneInt_any _ near wx (h.below hx (Nat.le_refl _)).ints (by omega)
  obtain ⟨rM, hrM⟩ : ∃ r, vM = .map r := by
    rcases hM with ⟨h, _⟩ | ⟨b, h, _⟩
    · exact ⟨_, h⟩
    · exact ⟨_, h⟩
  have HM := hidden hM
  have HB := hidden hb
  have HSz := hidden hs
  have HR := hidden hR
  have HCl := hidden hcl
  have HEs := hidden hes
  have HAd := hidden had
  clear hs hcl hes had hR hTl hGl hgl hM hb
  subst hrM
  conv => arg 2; whnf
  refine wp_split (c2 := dropS 30 (Try.f7.body.getD .skip)) ?_
  go_wp2_with (first
    | (go_at_call 29; refine c29.mono ?_; rintro e w1 ⟨v1, rfl, o1, b1⟩; have B1 : Hid (Below W.heap.size W w1) := HB.out.trans (b1.mono HB.out.size))
    | (go_at_call 11; refine (c11 _ B1.out).mono ?_; rintro e w2 ⟨v2, rfl, o2, b2⟩; have B2 : Hid (Below W.heap.size W w2) := B1.out.trans (b2.mono B1.out.size))
    | (go_at_call 26; refine (c26 _ B2.out).mono ?_; rintro e w3 ⟨u3, rfl, vs, o3, g3, b3⟩; have B3 : Hid (Below W.heap.size W w3) := B2.out.trans (b3.mono B2.out.size))
    | (go_at_call 27; refine (c27 _ B3.out).mono ?_; rintro e w4 ⟨v4, rfl, o4, b4⟩; obtain ⟨x1, y1, f1, _, _, _⟩ := o1.form; obtain ⟨x2, y2, f2, _, _, _⟩ := o2.form; obtain ⟨x3, y3, f3, _, _, _⟩ := o3.form; obtain ⟨x4, y4, f4, _, _, _⟩ := o4.form; have c28 := shimNew_any v1 v2 u3 (.map rM) v4 w4 _ _ _ _ _ _ _ _ _ _ _ _ rM f1 f2 f3 rfl f4; clear f1 f2 f3 f4; have HRun := hidden (Run.born (AK := AK) (AT := AT) (ads := ads) HSz.out HB.out HM.out o1 b1 o2 b2 o3 g3 b3 o4 b4))
    | (go_at_call 28; refine c28.mono ?_; rintro e w5 ⟨rfl, rfl⟩))
  exact ph30 W _ N _ q n m cA ck ci c22 c4 c20 c0 aA ak ai a22 a4 a20 a0 G I AK near AT T es ads v3 _ _ _ _ _ _ _ _ _ _ _ _ _ _ _ _ _ _ _ _ _ _ _ _ _ _ _ _ _ _ _ _ _ _ _ _ _ _ _ _ _ _ _ _ _ _ _ _ _ _ _ _ _ _ _ _ _ _ _ _ _ _ _ _ _ _ _ _ _ _ _ _ _ _ _ _ _ _ _ _ _ _ _ _ _ _ _ _ _ _ _ _ _ _ _ _ _ _ _ _ _ _ _ _ _ _ _ _ _ _ _ _ _ _ _ _ _ _ _ _ _ _ _ _ _ _ _ _ _ _ _ _ _ _ _ _ _ _ _ _ _ _ _ _ _ _ _ _ _ _ _ _ _ _ _ _ _ _ _ _ _ _ _ _ _ _ _ _ _ _ _ _ _ _ _ _ _ _ _ _ _ _ _ _ _ _ _ _ _ _ _ _ _ _ HRun.out HSz.out HCl.out HEs.out HAd.out hN HR.out

set_option maxRecDepth 100000 in
set_option maxHeartbeats 4000000 in
theorem ph27 {R : Ending → World → Prop} (W : World) (N q n m cA ck ci c22 c4 c20 c0 : Nat) (aA ak ai a22 a4 a20 a0 : Option Addr) (G : List (List Int)) (I AK near AT T : List Int) (es ads : List Value) (v3 : Value) (s6 s7 s8 s9 s10 s11 s12 s13 s14 s15 s16 s21 s23 s44 s45 s46 s47 s48 s49 s50 s51 s52 s53 s54 s55 s56 s57 s58 s59 s60 s61 s62 s63 s64 s65 s66 s67 s68 s69 s70 s71 s72 s73 s74 s75 s76 s77 s78 s79 s80 s81 s82 s83 s84 s85 s86 s87 s88 s89 s90 s91 s92 s93 s94 s95 s96 s97 s98 s99 s100 s101 s102 s103 s104 s105 s106 s107 s108 s109 s110 s111 s112 s113 s114 s115 s116 s117 s118 s119 s120 s121 s122 s123 s124 s125 s126 s127 s128 s129 s130 s131 s132 s133 s134 s135 s136 s137 s138 s139 s140 s141 s142 s143 s144 s145 s146 s147 s148 s149 s150 s151 s152 s153 s154 s155 s156 s157 s158 s159 s160 s161 s162 s163 s164 s165 s166 s167 s168 s169 s170 s171 s172 s173 s174 s175 s176 s177 s178 s179 s180 s181 s182 s183 s184 s185 s186 s187 s188 s189 s190 s191 s192 s193 s194 s195 s196 s197 s198 : Value) (hs : Sz q n m G T I AK near AT) (hcl : Cl7 W G T I AK near AT (.slice a0 n c0) (.slice ak m ck) (.slice ai m ci) v3 (.slice a4 AT.length c4) (.slice aA AK.length cA))
    (hes : ERow W (.slice a20 n c20) es T) (had : ERow W (.slice a22 q c22) ads (AT.take q))
    (hN : N ≤ W.heap.size) (hR : ∀ w', Below N W w' → R (.returned (.bool true)) w') :
    Code.wp Try.prog (dropS 27 (Try.f7.body.getD .skip)) (bodyPost Try.prog Try.f7 R) ⟨List.toArray ((.slice a0 n c0) :: (.slice ak m ck) :: (.slice ai m ci) :: v3 :: (.slice a4 AT.length c4) :: (.slice aA AK.length cA) :: s6 :: s7 :: s8 :: s9 :: s10 :: s11 :: s12 :: s13 :: s14 :: s15 :: s16 :: (.int .i64 (q : Int)) :: (.int .i64 (n : Int)) :: (.int .i64 (m : Int)) :: (.slice a20 n c20) :: s21 :: (.slice a22 q c22) :: s23 :: undef :: undef :: undef :: undef :: undef :: undef :: undef :: undef :: undef :: undef :: undef :: undef :: undef :: undef :: undef :: undef :: undef :: undef :: undef :: undef :: s44 :: s45 :: s46 :: s47 :: s48 :: s49 :: s50 :: s51 :: s52 :: s53 :: s54 :: s55 :: s56 :: s57 :: s58 :: s59 :: s60 :: s61 :: s62 :: s63 :: s64 :: s65 :: s66 :: s67 :: s68 :: s69 :: s70 :: s71 :: s72 :: s73 :: s74 :: s75 :: s76 :: s77 :: s78 :: s79 :: s80 :: s81 :: s82 :: s83 :: s84 :: s85 :: s86 :: s87 :: s88 :: s89 :: s90 :: s91 :: s92 :: s93 :: s94 :: s95 :: s96 :: s97 :: s98 :: s99 :: s100 :: s101 :: s102 :: s103 :: s104 :: s105 :: s106 :: s107 :: s108 :: s109 :: s110 :: s111 :: s112 :: s113 :: s114 :: s115 :: s116 :: s117 :: s118 :: s119 :: s120 :: s121 :: s122 :: s123 :: s124 :: s125 :: s126 :: s127 :: s128 :: s129 :: s130 :: s131 :: s132 :: s133 :: s134 :: s135 :: s136 :: s137 :: s138 :: s139 :: s140 :: s141 :: s142 :: s143 :: s144 :: s145 :: s146 :: s147 :: s148 :: s149 :: s150 :: s151 :: s152 :: s153 :: s154 :: s155 :: s156 :: s157 :: s158 :: s159 :: s160 :: s161 :: s162 :: s163 :: s164 :: s165 :: s166 :: s167 :: s168 :: s169 :: s170 :: s171 :: s172 :: s173 :: s174 :: s175 :: s176 :: s177 :: s178 :: s179 :: s180 :: s181 :: s182 :: s183 :: s184 :: s185 :: s186 :: s187 :: s188 :: s189 :: s190 :: s191 :: s192 :: s193 :: s194 :: s195 :: s196 :: s197 :: s198 :: undef :: undef :: undef :: undef :: undef :: undef :: undef :: undef :: undef :: undef :: undef :: undef :: undef :: undef :: undef :: undef :: undef :: undef :: undef :: undef :: undef :: undef :: undef :: undef :: undef :: undef :: undef :: undef :: undef :: undef :: undef :: undef :: undef :: undef :: undef :: undef :: undef :: undef :: undef :: undef :: undef :: undef :: undef :: undef :: undef :: undef :: undef :: undef :: undef :: undef :: undef :: undef :: undef :: undef :: undef :: undef :: undef :: undef :: undef :: undef :: undef :: undef :: undef :: undef :: undef :: undef :: undef :: undef :: undef :: undef :: undef :: undef :: undef :: undef :: undef :: undef :: undef :: undef :: undef :: undef :: undef :: undef :: undef :: undef :: undef :: undef :: undef :: undef :: undef :: undef :: undef :: undef :: undef :: undef :: undef :: undef :: undef :: undef :: undef :: undef :: undef :: undef :: undef :: undef :: undef :: undef :: undef :: undef :: undef :: undef :: undef :: undef :: undef :: undef :: undef :: undef :: undef :: undef :: undef :: undef :: undef :: undef :: undef :: undef :: undef :: undef :: undef :: undef :: undef :: undef :: undef :: undef :: undef :: undef :: undef :: undef :: undef :: undef :: undef :: undef :: undef :: undef :: undef :: undef :: undef :: undef :: undef :: undef :: undef :: undef :: undef :: undef :: undef :: undef :: undef :: undef :: undef :: undef :: undef :: undef :: undef :: undef :: undef :: undef :: undef :: undef :: undef :: undef :: undef :: undef :: undef :: undef :: undef :: undef :: undef :: undef :: undef :: undef :: undef :: undef :: undef :: undef :: undef :: undef :: undef :: undef :: undef :: undef :: undef :: undef :: undef :: undef :: undef :: undef :: undef :: undef :: undef :: undef :: undef :: undef :: undef :: undef :: undef :: undef :: undef :: undef :: undef :: undef :: undef :: undef :: undef :: undef :: undef :: undef :: undef :: undef :: undef :: undef :: undef :: undef :: undef :: undef :: undef :: undef :: undef :: undef :: undef :: undef :: undef :: undef :: undef :: undef :: undef :: undef :: undef :: undef :: undef :: undef :: undef :: undef :: undef :: undef :: undef :: undef :: undef :: []), []⟩ W := by
  have hm := hs.hm
  have HSz := hidden hs
  have HR := hidden hR
  have HCl := hidden hcl
  have HEs := hidden hes
  have HAd := hidden had
  clear hs hcl hes had hR
  conv => arg 2; whnf
  refine wp_split (c2 := dropS 28 (Try.f7.body.getD .skip)) ?_
  go_wp2
  conv => arg 2; whnf
  refine wp_split (c2 := dropS 29 (Try.f7.body.getD .skip)) ?_
  by_cases h0 : m = 0
  · subst h0
    go_wp2
    exact ph29 W _ N q n 0 cA ck ci c22 c4 c20 c0 aA ak ai a22 a4 a20 a0 G I AK near AT T es ads v3 _ _ _ _ _ _ _ _ _ _ _ _ _ _ _ _ _ _ _ _ _ _ _ _ _ _ _ _ _ _ _ _ _ _ _ _ _ _ _ _ _ _ _ _ _ _ _ _ _ _ _ _ _ _ _ _ _ _ _ _ _ _ _ _ _ _ _ _ _ _ _ _ _ _ _ _ _ _ _ _ _ _ _ _ _ _ _ _ _ _ _ _ _ _ _ _ _ _ _ _ _ _ _ _ _ _ _ _ _ _ _ _ _ _ _ _ _ _ _ _ _ _ _ _ _ _ _ _ _ _ _ _ _ _ _ _ _ _ _ _ _ _ _ _ _ _ _ _ _ _ _ _ _ _ _ _ _ _ _ _ _ _ _ _ _ _ _ _ _ _ _ _ _ _ _ _ _ _ _ _ _ _ _ _ (Below.refl _ _) (.inl ⟨rfl, List.eq_nil_of_length_eq_zero HSz.out.hI⟩) HSz.out HCl.out HEs.out HAd.out hN HR.out
  · have hm0 : 0 < m := by omega
    have hm0' : (0 : Int) < (m : Int) := by omega
    have hmm := @run_makeMap Try.prog
    go_wp2
    go_loopw [25] (fun i wr => ∃ k : Nat, k ≤ m ∧ i = .int .i64 k ∧ Hid (MapAt wr W.heap.size W.heap.size (I.take k)) ∧ Hid (Below W.heap.size W wr)) (fun i _ => m - (intOf i).toNat)
    case atStart => exact ⟨0, Nat.zero_le _, rfl, MapAt.made _ _ (Nat.le_refl _), (Below.refl _ _).alloc (Nat.le_refl _) _⟩
    case round =>
      obtain ⟨k, hk, rfl, hmp, hbe⟩ := hrel
      by_cases hlt : k < m
      · have hIl := HSz.out.hI
        obtain ⟨x, hx⟩ : ∃ x, I[k]? = some x := ⟨_, List.getElem?_eq_getElem (by omega)⟩
        obtain ⟨BI, hIo⟩ := HCl.out.i
        obtain ⟨gi, rfl, d1⟩ := (hIo.below hbe.out (Nat.le_refl _)).at (nums_get hx)
        have htl : (I.take k).length = k := by rw [List.length_take]; omega
        have hno : x ∉ I.take k := fun hin => by
          obtain ⟨j, hj, hjx⟩ := List.getElem_of_mem hin
          have hjk : j < k := by omega
          have h1 : I[j]? = some x := by rw [← hjx, List.getElem_take]; exact List.getElem?_eq_getElem (by omega)
          have h2 := (List.pairwise_iff_getElem.1 HSz.out.nd) j k (by omega) (by omega) hjk
          obtain ⟨_, e1⟩ := List.getElem?_eq_some_iff.1 h1
          obtain ⟨_, e2⟩ := List.getElem?_eq_some_iff.1 hx
          exact h2 (e1.trans e2.symm)
        obtain ⟨w1, hput, hm1, hg1⟩ := hmp.out.put (HSz.out.wI x (List.mem_of_getElem? hx)) hno (by omega)
        rw [htl] at hput
        have hm2 : Hid (MapAt w1 W.heap.size W.heap.size (I.take (k + 1))) := by
          rw [List.take_add_one, hx]; exact hm1
        have hb2 : Hid (Below W.heap.size W w1) := hbe.out.grown hg1 hbe.out.size (fun j hj => by simp at hj; omega)
        clear hm1 hg1 hno htl hx hIo hIl
        go_wp2
        go_roundw
        case rel => exact ⟨k + 1, by omega, by go_num, hm2, hb2⟩
        case measure => simp [intOf]; omega
      · obtain rfl : k = m := by omega
        have hmI : Hid (MapIs wr W.heap.size (.map (some W.heap.size)) I) := .inr ⟨_, rfl, by
          have := hmp.out
          rw [List.take_of_length_le (by rw [HSz.out.hI]; exact Nat.le_refl _)] at this
          exact this⟩
        go_wp2
        exact ph29 W _ N q n k cA ck ci c22 c4 c20 c0 aA ak ai a22 a4 a20 a0 G I AK near AT T es ads v3 _ _ _ _ _ _ _ _ _ _ _ _ _ _ _ _ _ _ _ _ _ _ _ _ _ _ _ _ _ _ _ _ _ _ _ _ _ _ _ _ _ _ _ _ _ _ _ _ _ _ _ _ _ _ _ _ _ _ _ _ _ _ _ _ _ _ _ _ _ _ _ _ _ _ _ _ _ _ _ _ _ _ _ _ _ _ _ _ _ _ _ _ _ _ _ _ _ _ _ _ _ _ _ _ _ _ _ _ _ _ _ _ _ _ _ _ _ _ _ _ _ _ _ _ _ _ _ _ _ _ _ _ _ _ _ _ _ _ _ _ _ _ _ _ _ _ _ _ _ _ _ _ _ _ _ _ _ _ _ _ _ _ _ _ _ _ _ _ _ _ _ _ _ _ _ _ _ _ _ _ _ _ _ _ hbe.out hmI.out HSz.out HCl.out HEs.out HAd.out hN HR.out
end Go.Proofs.Qxb6621626a
