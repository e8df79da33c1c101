/-
  THE LAW: the adds, and the list's parts.
-/
import Derived.Test.Qxb6621626aRef
import Derived.Deep.RegionWith
namespace Go.Proofs.Qxb6621626a
open Go.RowKit
set_option linter.unusedVariables false

theorem Run.parts {W w : World} {bl q n m cA ck ci c22 c4 c20 c0 : Nat} {aA ak ai a22 a4 a20 a0 : Option Addr} {G : List (List Int)} {I AK near AT T : List Int} {es ads : List Value} {v3 : Value} (h : Run W bl n es ads T AT G I AK near q w) (hs : Sz q n m G T I AK near AT) (hcl : Cl7 W G T I AK near AT (.slice a0 n c0) (.slice ak m ck) (.slice ai m ci) v3 (.slice a4 AT.length c4) (.slice aA AK.length cA))
    (hes : ERow W (.slice a20 n c20) es T) (had : ERow W (.slice a22 q c22) ads (AT.take q)) :
    ∃ gs ids aE cE aT cT aK cK vM vN, S5 w bl (.slice aE (n + q) cE) (.slice aT (n + q) cT) (.slice aK (List.length gs) cK) vM vN ∧ Hid (∀ w', w'.heap = w.heap → Below W.heap.size W w' →
      Mid7 w' q n m cA aA gs G ids I AK (.slice aK gs.length cK) vM (.slice ak m ck) (.slice ai m ci) ∧ Ints w' v3 near ∧ Ints w' vN near ∧ (∀ i, i < q → Same w' aE a22 aT a4 (n + i) i) ∧ (∀ i, i < n → Same w' aE a20 aT a0 i i)) ∧ Below W.heap.size W w := by
  obtain ⟨gs, ids, vE, vT, vK, vM, vN, vs, h1, h2, h3⟩ := h
  have hT := hs.hT
  have hqT := hs.hqT
  obtain ⟨⟨B2, h20⟩, e20, p20⟩ := hes
  obtain ⟨⟨B3, h22⟩, e22, p22⟩ := had
  rw [List.length_take] at e22
  obtain ⟨aE, cE, rfl, _, _, _⟩ := h1.ev.form
  obtain ⟨aT, cT, rfl, _, _, _⟩ := h1.tm.form
  obtain ⟨aK, cK, rfl, _, _, _⟩ := h1.ki.form
  have hvl : vs.length = gs.length := by have := h1.gr.len; simpa using this
  have hel : (es ++ ads.take q).length = n + q := by rw [List.length_append, List.length_take]; omega
  have htl : (nums (T ++ AT.take q)).length = n + q := by simp [nums]; omega
  rw [hel, htl, hvl] at h1
  refine ⟨gs, ids, aE, cE, aT, cT, aK, cK, vM, vN, h1.st, ?_, h3⟩
  intro w' hh hb
  have h1' := h1.step (w' := w') fun k _ => by rw [hh]
  have hcl' := hcl.below hb (Nat.le_refl _)
  have h20' := h20.below hb (Nat.le_refl _)
  have h22' := h22.below hb (Nat.le_refl _)
  have hads : ads.take q = ads := List.take_of_length_le (by omega)
  refine ⟨⟨⟨_, vs, h1'.ki, h1'.gr.tail⟩, ⟨_, h1'.mp⟩, hcl'.k, hcl'.i, hcl'.ak, h2, hs.hG, hs.hI, hs.hm, hs.hqK, by have := hs.hqK; have := hs.hK1; omega, hs.hn, hs.hg, hs.wI, hs.wA⟩, ?_, ?_, ?_, ?_⟩
  · obtain ⟨B, h⟩ := hcl'.n; exact h.ints
  · exact (h1'.gr.own 0 vN near rfl rfl).ints
  · intro i hi
    obtain ⟨t, ht⟩ : ∃ t, AT[i]? = some t := ⟨_, List.getElem?_eq_getElem (by omega)⟩
    obtain ⟨b, hp, _⟩ := p22 i t (by rw [List.getElem?_take, if_pos hi]; exact ht)
    obtain ⟨B0, h0⟩ := hcl'.a
    obtain ⟨gE, r1, d1⟩ := h1'.ev.at (i := n + i) (x := .pointer (some ⟨b, 0, none⟩)) (by rw [List.getElem?_append_right (by omega), hads, show n + i - es.length = i by omega]; exact hp)
    obtain ⟨g22, r2, d2⟩ := h22'.at hp
    obtain ⟨gT, r3, d3⟩ := h1'.tm.at (i := n + i) (x := .int .i64 t) (nums_get (by rw [List.getElem?_append_right (by omega), show n + i - T.length = i by omega, List.getElem?_take, if_pos hi]; exact ht))
    obtain ⟨g4, r4, d4⟩ := h0.at (nums_get ht)
    exact ⟨gE, g22, gT, g4, _, t, r1, r2, r3, r4, d1, d2, d3, d4⟩
  · intro i hi
    obtain ⟨t, ht⟩ : ∃ t, T[i]? = some t := ⟨_, List.getElem?_eq_getElem (by omega)⟩
    obtain ⟨b, hp, _⟩ := p20 i t ht
    obtain ⟨B0, h0⟩ := hcl'.t
    obtain ⟨gE, r1, d1⟩ := h1'.ev.at (i := i) (x := .pointer (some ⟨b, 0, none⟩)) (by rw [List.getElem?_append_left (by omega)]; exact hp)
    obtain ⟨g20, r2, d2⟩ := h20'.at hp
    obtain ⟨gT, r3, d3⟩ := h1'.tm.at (i := i) (x := .int .i64 t) (nums_get (by rw [List.getElem?_append_left (by omega)]; exact ht))
    obtain ⟨g0, r4, d4⟩ := h0.at (nums_get ht)
    exact ⟨gE, g20, gT, g0, _, t, r1, r2, r3, r4, d1, d2, d3, d4⟩

set_option maxRecDepth 100000 in
set_option maxHeartbeats 4000000 in
theorem ph31 {R : Ending → World → Prop} (W w : World) (N bl q n m cA ck ci c22 c4 c20 c0 : Nat) (aA ak ai a22 a4 a20 a0 : Option Addr) (G : List (List Int)) (I AK near AT T : List Int) (es ads : List Value) (v3 : Value) (s6 s7 s8 s9 s10 s11 s12 s13 s14 s15 s16 s21 s23 s24 s25 s27 s44 s45 s46 s47 s48 s49 s50 s51 s52 s53 s54 s55 s56 s57 s58 s59 s60 s61 s62 s63 s64 s65 s66 s67 s68 s69 s70 s71 s72 s73 s74 s75 s76 s77 s78 s79 s80 s81 s82 s83 s84 s85 s86 s87 s88 s89 s90 s91 s92 s93 s94 s95 s96 s97 s98 s99 s100 s101 s102 s103 s104 s105 s106 s107 s108 s109 s110 s111 s112 s113 s114 s115 s116 s117 s118 s119 s120 s121 s122 s123 s124 s125 s126 s127 s128 s129 s130 s131 s132 s133 s134 s135 s136 s137 s138 s139 s140 s141 s142 s143 s144 s145 s146 s147 s148 s149 s150 s151 s152 s153 s154 s155 s156 s157 s158 s159 s160 s161 s162 s163 s164 s165 s166 s167 s168 s169 s170 s171 s172 s173 s174 s175 s176 s177 s178 s179 s180 s181 s182 s183 s184 s185 s186 s187 s188 s189 s190 s191 s192 s193 s194 s195 s196 s197 s198 s199 s200 s201 s202 s203 s204 s205 s206 s207 s208 s209 s210 s211 s212 s213 s214 s215 s216 s217 s218 s219 s220 s221 s222 s223 s224 s225 s226 s227 s228 s229 s230 s231 s232 s233 s234 s235 s236 s237 : Value)
    (h : Run W bl n es ads T AT G I AK near q w) (hs : Sz q n m G T I AK near AT) (hcl : Cl7 W G T I AK near AT (.slice a0 n c0) (.slice ak m ck) (.slice ai m ci) v3 (.slice a4 AT.length c4) (.slice aA AK.length cA))
    (hes : ERow W (.slice a20 n c20) es T) (had : ERow W (.slice a22 q c22) ads (AT.take q))
    (hN : N ≤ W.heap.size) (hR : ∀ w', Below N W w' → R (.returned (.bool true)) w') :
    Code.wp Try.prog (dropS 31 (Try.f7.body.getD .skip)) (bodyPost Try.prog Try.f7 R) ⟨List.toArray ((.slice a0 n c0) :: (.slice ak m ck) :: (.slice ai m ci) :: v3 :: (.slice a4 AT.length c4) :: (.slice aA AK.length cA) :: s6 :: s7 :: s8 :: s9 :: s10 :: s11 :: s12 :: s13 :: s14 :: s15 :: s16 :: (.int .i64 (q : Int)) :: (.int .i64 (n : Int)) :: (.int .i64 (m : Int)) :: (.slice a20 n c20) :: s21 :: (.slice a22 q c22) :: s23 :: s24 :: s25 :: (.pointer (some ⟨bl, 0, none⟩)) :: s27 :: undef :: undef :: undef :: undef :: undef :: undef :: undef :: undef :: undef :: undef :: undef :: undef :: undef :: undef :: undef :: undef :: s44 :: s45 :: s46 :: s47 :: s48 :: s49 :: s50 :: s51 :: s52 :: s53 :: s54 :: s55 :: s56 :: s57 :: s58 :: s59 :: s60 :: s61 :: s62 :: s63 :: s64 :: s65 :: s66 :: s67 :: s68 :: s69 :: s70 :: s71 :: s72 :: s73 :: s74 :: s75 :: s76 :: s77 :: s78 :: s79 :: s80 :: s81 :: s82 :: s83 :: s84 :: s85 :: s86 :: s87 :: s88 :: s89 :: s90 :: s91 :: s92 :: s93 :: s94 :: s95 :: s96 :: s97 :: s98 :: s99 :: s100 :: s101 :: s102 :: s103 :: s104 :: s105 :: s106 :: s107 :: s108 :: s109 :: s110 :: s111 :: s112 :: s113 :: s114 :: s115 :: s116 :: s117 :: s118 :: s119 :: s120 :: s121 :: s122 :: s123 :: s124 :: s125 :: s126 :: s127 :: s128 :: s129 :: s130 :: s131 :: s132 :: s133 :: s134 :: s135 :: s136 :: s137 :: s138 :: s139 :: s140 :: s141 :: s142 :: s143 :: s144 :: s145 :: s146 :: s147 :: s148 :: s149 :: s150 :: s151 :: s152 :: s153 :: s154 :: s155 :: s156 :: s157 :: s158 :: s159 :: s160 :: s161 :: s162 :: s163 :: s164 :: s165 :: s166 :: s167 :: s168 :: s169 :: s170 :: s171 :: s172 :: s173 :: s174 :: s175 :: s176 :: s177 :: s178 :: s179 :: s180 :: s181 :: s182 :: s183 :: s184 :: s185 :: s186 :: s187 :: s188 :: s189 :: s190 :: s191 :: s192 :: s193 :: s194 :: s195 :: s196 :: s197 :: s198 :: s199 :: s200 :: s201 :: s202 :: s203 :: s204 :: s205 :: s206 :: s207 :: s208 :: s209 :: s210 :: s211 :: s212 :: s213 :: s214 :: s215 :: s216 :: s217 :: s218 :: s219 :: s220 :: s221 :: s222 :: s223 :: s224 :: s225 :: s226 :: s227 :: s228 :: s229 :: s230 :: s231 :: s232 :: s233 :: s234 :: s235 :: s236 :: s237 :: undef :: undef :: undef :: undef :: undef :: undef :: undef :: undef :: undef :: undef :: undef :: undef :: undef :: undef :: undef :: undef :: undef :: undef :: undef :: undef :: undef :: undef :: undef :: undef :: undef :: undef :: undef :: undef :: undef :: undef :: undef :: undef :: undef :: undef :: undef :: undef :: undef :: undef :: undef :: undef :: undef :: undef :: undef :: undef :: undef :: undef :: undef :: undef :: undef :: undef :: undef :: undef :: undef :: undef :: undef :: undef :: undef :: undef :: undef :: undef :: undef :: undef :: undef :: undef :: undef :: undef :: undef :: undef :: undef :: undef :: undef :: undef :: undef :: undef :: undef :: undef :: undef :: undef :: undef :: undef :: undef :: undef :: undef :: undef :: undef :: undef :: undef :: undef :: undef :: undef :: undef :: undef :: undef :: undef :: undef :: undef :: undef :: undef :: undef :: undef :: undef :: undef :: undef :: undef :: undef :: undef :: undef :: undef :: undef :: undef :: undef :: undef :: undef :: undef :: undef :: undef :: undef :: undef :: undef :: undef :: undef :: undef :: undef :: undef :: undef :: undef :: undef :: undef :: undef :: undef :: undef :: undef :: undef :: undef :: undef :: undef :: undef :: undef :: undef :: undef :: undef :: undef :: undef :: undef :: undef :: undef :: undef :: undef :: undef :: undef :: undef :: undef :: undef :: undef :: undef :: undef :: undef :: undef :: undef :: undef :: undef :: undef :: undef :: undef :: undef :: undef :: undef :: undef :: undef :: undef :: undef :: undef :: undef :: undef :: undef :: undef :: undef :: undef :: undef :: undef :: undef :: undef :: undef :: undef :: undef :: undef :: undef :: undef :: undef :: undef :: undef :: undef :: undef :: undef :: undef :: undef :: undef :: undef :: undef :: undef :: undef :: undef :: undef :: undef :: undef :: undef :: []), []⟩ w := by
  obtain ⟨gs, ids, aE, cE, aT, cT, aK, cK, vM, vN, hS, H, hbw⟩ := h.parts hs hcl hes had
  have hc := shimParts_any _ _ _ _ _ w bl hS
  have HB := hidden hbw
  have HSz := hidden hs
  have HR := hidden hR
  clear h hs hcl hes had hR hbw hS
  conv => arg 2; whnf
  refine wp_split (c2 := dropS 32 (Try.f7.body.getD .skip)) ?_
  go_wp2_with (go_at_call 31; refine hc.mono ?_; rintro e w' ⟨rfl, qq, rfl⟩)
  have hb2 := below_drewN HB.out qq
  obtain ⟨m1, m2, m3, m4, m5⟩ := H.out (w.drewN qq) rfl hb2
  exact ph32 _ N q n m cA cK ck ci cE c22 cT c4 c20 c0 aA aK ak ai aE a22 aT a4 a20 a0 gs G ids I AK near AT vM v3 vN _ _ _ _ _ _ _ _ _ _ _ _ _ _ _ _ _ _ _ _ _ _ _ _ _ _ _ _ _ _ _ _ _ _ _ _ _ _ _ _ _ _ _ _ _ _ _ _ _ _ _ _ _ _ _ _ _ _ _ _ _ _ _ _ _ _ _ _ _ _ _ _ _ _ _ _ _ _ _ _ _ _ _ _ _ _ _ _ _ _ _ _ _ _ _ _ _ _ _ _ _ _ _ _ _ _ _ _ _ _ _ _ _ _ _ _ _ _ _ _ _ _ _ _ _ _ _ _ _ _ _ _ _ _ _ _ _ _ _ _ _ _ _ _ _ _ _ _ _ _ _ _ _ _ _ _ _ _ _ _ _ _ _ _ _ _ _ _ _ _ _ _ _ _ _ _ _ _ _ _ _ _ _ _ _ _ _ _ _ _ _ _ _ _ _ _ _ _ _ _ _ _ _ _ _ _ _ _ _ _ _ _ _ _ _ _ _ _ _ m1 m2 m3 (by have := HSz.out.hnear; omega) HSz.out.hqT HSz.out.hT1 m4 m5 (Nat.le_trans hN hb2.size) (fun w' hb => HR.out _ ((hb2.mono hN).trans hb))

set_option maxRecDepth 100000 in
set_option maxHeartbeats 4000000 in
theorem ph30 {R : Ending → World → Prop} (W w : World) (N bl q n m cA ck ci c22 c4 c20 c0 : Nat) (aA ak ai a22 a4 a20 a0 : Option Addr) (G : List (List Int)) (I AK near AT T : List Int) (es ads : List Value) (v3 : Value) (s6 s7 s8 s9 s10 s11 s12 s13 s14 s15 s16 s21 s23 s24 s25 s44 s45 s46 s47 s48 s49 s50 s51 s52 s53 s54 s55 s56 s57 s58 s59 s60 s61 s62 s63 s64 s65 s66 s67 s68 s69 s70 s71 s72 s73 s74 s75 s76 s77 s78 s79 s80 s81 s82 s83 s84 s85 s86 s87 s88 s89 s90 s91 s92 s93 s94 s95 s96 s97 s98 s99 s100 s101 s102 s103 s104 s105 s106 s107 s108 s109 s110 s111 s112 s113 s114 s115 s116 s117 s118 s119 s120 s121 s122 s123 s124 s125 s126 s127 s128 s129 s130 s131 s132 s133 s134 s135 s136 s137 s138 s139 s140 s141 s142 s143 s144 s145 s146 s147 s148 s149 s150 s151 s152 s153 s154 s155 s156 s157 s158 s159 s160 s161 s162 s163 s164 s165 s166 s167 s168 s169 s170 s171 s172 s173 s174 s175 s176 s177 s178 s179 s180 s181 s182 s183 s184 s185 s186 s187 s188 s189 s190 s191 s192 s193 s194 s195 s196 s197 s198 s199 s200 s201 s202 s203 s204 s205 s206 s207 s208 s209 s210 s211 s212 s213 s214 s215 s216 s217 s218 s219 s220 s221 s222 : Value)
    (h : Run W bl n es ads T AT G I AK near 0 w) (hs : Sz q n m G T I AK near AT) (hcl : Cl7 W G T I AK near AT (.slice a0 n c0) (.slice ak m ck) (.slice ai m ci) v3 (.slice a4 AT.length c4) (.slice aA AK.length cA))
    (hes : ERow W (.slice a20 n c20) es T) (had : ERow W (.slice a22 q c22) ads (AT.take q))
    (hN : N ≤ W.heap.size) (hR : ∀ w', Below N W w' → R (.returned (.bool true)) w') :
    Code.wp Try.prog (dropS 30 (Try.f7.body.getD .skip)) (bodyPost Try.prog Try.f7 R) ⟨List.toArray ((.slice a0 n c0) :: (.slice ak m ck) :: (.slice ai m ci) :: v3 :: (.slice a4 AT.length c4) :: (.slice aA AK.length cA) :: s6 :: s7 :: s8 :: s9 :: s10 :: s11 :: s12 :: s13 :: s14 :: s15 :: s16 :: (.int .i64 (q : Int)) :: (.int .i64 (n : Int)) :: (.int .i64 (m : Int)) :: (.slice a20 n c20) :: s21 :: (.slice a22 q c22) :: s23 :: s24 :: s25 :: (.pointer (some ⟨bl, 0, none⟩)) :: undef :: undef :: undef :: undef :: undef :: undef :: undef :: undef :: undef :: undef :: undef :: undef :: undef :: undef :: undef :: undef :: undef :: s44 :: s45 :: s46 :: s47 :: s48 :: s49 :: s50 :: s51 :: s52 :: s53 :: s54 :: s55 :: s56 :: s57 :: s58 :: s59 :: s60 :: s61 :: s62 :: s63 :: s64 :: s65 :: s66 :: s67 :: s68 :: s69 :: s70 :: s71 :: s72 :: s73 :: s74 :: s75 :: s76 :: s77 :: s78 :: s79 :: s80 :: s81 :: s82 :: s83 :: s84 :: s85 :: s86 :: s87 :: s88 :: s89 :: s90 :: s91 :: s92 :: s93 :: s94 :: s95 :: s96 :: s97 :: s98 :: s99 :: s100 :: s101 :: s102 :: s103 :: s104 :: s105 :: s106 :: s107 :: s108 :: s109 :: s110 :: s111 :: s112 :: s113 :: s114 :: s115 :: s116 :: s117 :: s118 :: s119 :: s120 :: s121 :: s122 :: s123 :: s124 :: s125 :: s126 :: s127 :: s128 :: s129 :: s130 :: s131 :: s132 :: s133 :: s134 :: s135 :: s136 :: s137 :: s138 :: s139 :: s140 :: s141 :: s142 :: s143 :: s144 :: s145 :: s146 :: s147 :: s148 :: s149 :: s150 :: s151 :: s152 :: s153 :: s154 :: s155 :: s156 :: s157 :: s158 :: s159 :: s160 :: s161 :: s162 :: s163 :: s164 :: s165 :: s166 :: s167 :: s168 :: s169 :: s170 :: s171 :: s172 :: s173 :: s174 :: s175 :: s176 :: s177 :: s178 :: s179 :: s180 :: s181 :: s182 :: s183 :: s184 :: s185 :: s186 :: s187 :: s188 :: s189 :: s190 :: s191 :: s192 :: s193 :: s194 :: s195 :: s196 :: s197 :: s198 :: s199 :: s200 :: s201 :: s202 :: s203 :: s204 :: s205 :: s206 :: s207 :: s208 :: s209 :: s210 :: s211 :: s212 :: s213 :: s214 :: s215 :: s216 :: s217 :: s218 :: s219 :: s220 :: s221 :: s222 :: undef :: undef :: undef :: undef :: undef :: undef :: undef :: undef :: undef :: undef :: undef :: undef :: undef :: undef :: undef :: undef :: undef :: undef :: undef :: undef :: undef :: undef :: undef :: undef :: undef :: undef :: undef :: undef :: undef :: undef :: undef :: undef :: undef :: undef :: undef :: undef :: undef :: undef :: undef :: undef :: undef :: undef :: undef :: undef :: undef :: undef :: undef :: undef :: undef :: undef :: undef :: undef :: undef :: undef :: undef :: undef :: undef :: undef :: undef :: undef :: undef :: undef :: undef :: undef :: undef :: undef :: undef :: undef :: undef :: undef :: undef :: undef :: undef :: undef :: undef :: undef :: undef :: undef :: undef :: undef :: undef :: undef :: undef :: undef :: undef :: undef :: undef :: undef :: undef :: undef :: undef :: undef :: undef :: undef :: undef :: undef :: undef :: undef :: undef :: undef :: undef :: undef :: undef :: undef :: undef :: undef :: undef :: undef :: undef :: undef :: undef :: undef :: undef :: undef :: undef :: undef :: undef :: undef :: undef :: undef :: undef :: undef :: undef :: undef :: undef :: undef :: undef :: undef :: undef :: undef :: undef :: undef :: undef :: undef :: undef :: undef :: undef :: undef :: undef :: undef :: undef :: undef :: undef :: undef :: undef :: undef :: undef :: undef :: undef :: undef :: undef :: undef :: undef :: undef :: undef :: undef :: undef :: undef :: undef :: undef :: undef :: undef :: undef :: undef :: undef :: undef :: undef :: undef :: undef :: undef :: undef :: undef :: undef :: undef :: undef :: undef :: undef :: undef :: undef :: undef :: undef :: undef :: undef :: undef :: undef :: undef :: undef :: undef :: undef :: undef :: undef :: undef :: undef :: undef :: undef :: undef :: undef :: undef :: undef :: undef :: undef :: undef :: undef :: undef :: undef :: undef :: undef :: undef :: undef :: undef :: undef :: undef :: undef :: undef :: undef :: undef :: undef :: undef :: undef :: undef :: undef :: []), []⟩ w := by
  have hqK := hs.hqK
  have hK1 := hs.hK1
  have HH := hidden h
  have HSz := hidden hs
  have HR := hidden hR
  have HCl := hidden hcl
  have HEs := hidden hes
  have HAd := hidden had
  clear h hs hcl hes had hR
  conv => arg 2; whnf
  refine wp_split (c2 := dropS 31 (Try.f7.body.getD .skip)) ?_
  go_wp2
  go_loopw [27] (fun i wr => ∃ k : Nat, k ≤ q ∧ i = .int .i64 k ∧ Hid (Run W bl n es ads T AT G I AK near k wr)) (fun i _ => q - (intOf i).toNat)
  case atStart => exact ⟨0, Nat.zero_le _, rfl, HH⟩
  case round =>
    obtain ⟨k, hk, rfl, hrun⟩ := hrel
    clear HH
    by_cases hlt : k < q
    · have hlk : k < AK.length := by omega
      obtain ⟨x, hx⟩ : ∃ x, AK[k]? = some x := ⟨_, List.getElem?_eq_getElem (by omega)⟩
      obtain ⟨t, ht⟩ : ∃ t, AT[k]? = some t := ⟨_, List.getElem?_eq_getElem (by have := HSz.out.hqT; omega)⟩
      have hbw : Below W.heap.size W wr := by obtain ⟨_, _, _, _, _, _, _, _, _, _, hb⟩ := hrun.out; exact hb
      obtain ⟨⟨B3, h22⟩, e22, p22⟩ := HAd.out
      have hal : ads.length = q := by rw [e22, List.length_take]; have := HSz.out.hqT; omega
      obtain ⟨b, hp, hcw⟩ := p22 k t (by rw [List.getElem?_take, if_pos hlt]; exact ht)
      obtain ⟨g22, rfl, d1⟩ := (h22.below hbw (Nat.le_refl _)).at hp
      obtain ⟨BK, hKo⟩ := HCl.out.ak
      obtain ⟨gA, rfl, d2⟩ := (hKo.below hbw (Nat.le_refl _)).at (nums_get hx)
      have hesl : es.length = n := by have := HEs.out.2.1; have := HSz.out.hT; omega
      have hc : ∀ wx : World, wx.heap = wr.heap → Below W.heap.size W wx → Calls Try.prog 30 #[.pointer (some ⟨bl, 0, none⟩), .pointer (some ⟨b, 0, none⟩), .int .i64 x] wx fun e w' => e = .returned (.tuple #[]) ∧ Run W bl n es ads T AT G I AK near (k + 1) w' := fun wx hh hb =>
        (hrun.out.drawn hh hb).add HSz.out hesl hal hlt hx ht hp hcw
      have HBW := hidden hbw
      clear hbw hp hcw hKo h22 e22 p22 hal hesl hx ht
      go_wp2
      go_region_with (go_at_call 30; refine (hc _ ?_ ?_).mono ?_; exact rfl; exact ⟨HBW.out.os, HBW.out.tape, HBW.out.output, HBW.out.size, HBW.out.block⟩; rintro e w' ⟨rfl, hp⟩)
      all_goals
        go_wp2
        go_roundw
        case rel => exact ⟨k + 1, by omega, by go_num, hp⟩
        case measure => simp [intOf]; omega
    · obtain rfl : k = q := by omega
      go_wp2
      exact ph31 W _ N bl k n m cA ck ci c22 c4 c20 c0 aA ak ai a22 a4 a20 a0 G I AK near AT T es ads v3 _ _ _ _ _ _ _ _ _ _ _ _ _ _ _ _ _ _ _ _ _ _ _ _ _ _ _ _ _ _ _ _ _ _ _ _ _ _ _ _ _ _ _ _ _ _ _ _ _ _ _ _ _ _ _ _ _ _ _ _ _ _ _ _ _ _ _ _ _ _ _ _ _ _ _ _ _ _ _ _ _ _ _ _ _ _ _ _ _ _ _ _ _ _ _ _ _ _ _ _ _ _ _ _ _ _ _ _ _ _ _ _ _ _ _ _ _ _ _ _ _ _ _ _ _ _ _ _ _ _ _ _ _ _ _ _ _ _ _ _ _ _ _ _ _ _ _ _ _ _ _ _ _ _ _ _ _ _ _ _ _ _ _ _ _ _ _ _ _ _ _ _ _ _ _ _ _ _ _ _ _ _ _ _ _ _ _ _ _ _ _ _ _ _ _ _ _ _ _ _ _ _ _ _ _ _ _ _ _ _ hrun.out HSz.out HCl.out HEs.out HAd.out hN HR.out
end Go.Proofs.Qxb6621626a
