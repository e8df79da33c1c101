/-
  THE LAW: its events.
-/
import Derived.Test.Qxb6621626aPh29
namespace Go.Proofs.Qxb6621626a
open Go.RowKit
set_option linter.unusedVariables false

/-- While a row of q events is made: k stand. -/
structure EvRel (W : World) (q : Nat) (T : List Int) (k : Nat) (w : World) : Prop where
  ex : ∃ es : List Value, es.length = k ∧ Blk w W.heap.size 39 (es ++ List.replicate (q - k) (.pointer none)) ∧
    ∀ (i : Nat) (t : Int), (T.take k)[i]? = some t → ∃ b, es[i]? = some (.pointer (some ⟨b, 0, none⟩)) ∧ w.cell? ⟨b, 0, none⟩ = some (.int .i64 t) ∧ W.heap.size < b
  bel : Below W.heap.size W w
  lt : W.heap.size < w.heap.size

section
variable {W w : World} {q k : Nat} {T : List Int}
theorem EvRel.start (h : Blk w W.heap.size 39 (List.replicate q (.pointer none))) (hb : Below W.heap.size W w) (hs : w.heap.size = W.heap.size + 1) : EvRel W q T 0 w :=
  ⟨⟨[], rfl, by simpa using h, fun i t h => by simp at h⟩, hb, by omega⟩
theorem EvRel.cell (h : EvRel W q T k w) (hk : k < q) : w.cell? ⟨W.heap.size, k, none⟩ = some (.pointer none) := by
  obtain ⟨es, h1, h2, _⟩ := h.ex
  rw [h2.cell, List.getElem?_append_right (by omega), h1, Nat.sub_self, List.getElem?_replicate, if_pos (by omega)]
theorem EvRel.free (h : EvRel W q T k w) (i : Nat) : w.frozen? ⟨W.heap.size, i, none⟩ = false := by
  obtain ⟨es, h1, h2, _⟩ := h.ex
  exact h2.free i
theorem EvRel.step (h : EvRel W q T k w) (hk : k < q) {t : Int} (ht : T[k]? = some t) (cs : Array Value) (hcs : cs[0]? = some (.int .i64 t)) :
    EvRel W q T (k + 1) ((w.setCell ⟨W.heap.size, k, none⟩ (.pointer (some ⟨w.heap.size, 0, none⟩))).alloc (.cells cs 43)) := by
  obtain ⟨⟨es, h1, h2, h3⟩, hb, hl⟩ := h
  have hb' := Blk.setBelow hb (Nat.le_refl _) k (.pointer (some ⟨w.heap.size, 0, none⟩))
  have hsz : (w.setCell ⟨W.heap.size, k, none⟩ (.pointer (some ⟨w.heap.size, 0, none⟩))).heap.size = w.heap.size := by simp [World.setCell]
  refine ⟨⟨es ++ [.pointer (some ⟨w.heap.size, 0, none⟩)], by simp [h1], ?_, ?_⟩, hb'.alloc (by omega) _, by simp; omega⟩
  · have h4 := h2.set k (.pointer (some ⟨w.heap.size, 0, none⟩))
    have e : (es ++ List.replicate (q - k) (Value.pointer none)).set k (.pointer (some ⟨w.heap.size, 0, none⟩)) = (es ++ [.pointer (some ⟨w.heap.size, 0, none⟩)]) ++ List.replicate (q - (k + 1)) (.pointer none) := by
      rw [List.set_append_right _ _ (by omega), h1, Nat.sub_self, show q - k = (q - (k + 1)) + 1 by omega, List.replicate_succ, List.set_cons_zero, List.append_assoc]; rfl
    rw [e] at h4
    exact h4.below (N := W.heap.size + 1) ((Below.refl _ _).alloc (by omega) _) (by omega)
  · intro i s hi
    by_cases hik : i < k
    · rw [List.getElem?_take, if_pos (by omega)] at hi
      obtain ⟨b, e1, e2, e3⟩ := h3 i s (by rw [List.getElem?_take, if_pos hik]; exact hi)
      have hbl := World.block_lt_of_cell? _ _ e2
      refine ⟨b, by rw [List.getElem?_append_left (by omega)]; exact e1, ?_, e3⟩
      have c1 : (w.setCell ⟨W.heap.size, k, none⟩ (.pointer (some ⟨w.heap.size, 0, none⟩))).cell? ⟨b, 0, none⟩ = w.cell? ⟨b, 0, none⟩ := World.cell?_of_block (w := w) (Below.heap_setCell _ _ _ _ (by simp; omega))
      refine Eq.trans (World.cell?_of_block (w := w.setCell ⟨W.heap.size, k, none⟩ (.pointer (some ⟨w.heap.size, 0, none⟩))) (Below.heap_alloc _ _ _ (by rw [hsz]; exact hbl))) (c1.trans e2)
    · have hi' : i < k + 1 := by
        have := (List.getElem?_eq_some_iff.1 hi).1
        rw [List.length_take] at this
        omega
      obtain rfl : i = k := by omega
      rw [List.getElem?_take, if_pos hi', ht] at hi
      simp only [Option.some.injEq] at hi
      subst hi
      refine ⟨w.heap.size, by rw [List.getElem?_append_right (by omega), h1, Nat.sub_self]; rfl, ?_, hl⟩
      rw [cell_of_row _ w.heap.size 0 cs 43 (0, 0) (by
        have e := Go.heap_alloc_new (w.setCell ⟨W.heap.size, i, none⟩ (.pointer (some ⟨w.heap.size, 0, none⟩))) (.cells cs 43)
        rw [hsz] at e
        exact e)]
      exact hcs
theorem EvRel.ends (h : EvRel W q T q w) (hq : q ≤ T.length) (hm : q ≤ maxLen) : ∃ es, ERow w (.slice (some ⟨W.heap.size, 0, none⟩) q q) es (T.take q) := by
  obtain ⟨⟨es, h1, h2, h3⟩, hb, hl⟩ := h
  rw [Nat.sub_self, List.replicate_zero, List.append_nil] at h2
  refine ⟨es, ⟨0, ?_⟩, by rw [h1, List.length_take]; omega, fun i t hi => ?_⟩
  · have := h2.own (B := 0) (Nat.zero_le _) (by rw [h1]; exact hm) (.pointer none)
    rwa [h1] at this
  · obtain ⟨b, e1, e2, _⟩ := h3 i t hi
    exact ⟨b, e1, e2⟩
end

set_option maxRecDepth 100000 in
set_option maxHeartbeats 4000000 in
theorem ph25 {R : Ending → World → Prop} (W : World) (N q n m cA ck ci c4 c20 c0 : Nat) (aA ak ai a4 a20 a0 : Option Addr) (G : List (List Int)) (I AK near AT T : List Int) (es0 : List Value) (v3 : Value) (s6 s7 s8 s9 s10 s11 s12 s13 s14 s15 s16 s21 s44 s45 s46 s47 s48 s49 s50 s51 s52 s53 s54 s55 s56 s57 s58 s59 s60 s61 s62 s63 s64 s65 s66 s67 s68 s69 s70 s71 s72 s73 s74 s75 s76 s77 s78 s79 s80 s81 s82 s83 s84 s85 s86 s87 s88 s89 s90 s91 s92 s93 s94 s95 s96 s97 s98 s99 s100 s101 s102 s103 s104 s105 s106 s107 s108 s109 s110 s111 s112 s113 s114 s115 s116 s117 s118 s119 s120 s121 s122 s123 s124 s125 s126 s127 s128 s129 s130 s131 s132 s133 s134 s135 s136 s137 s138 s139 s140 s141 s142 s143 s144 s145 s146 s147 s148 s149 s150 s151 s152 s153 s154 s155 s156 s157 s158 s159 s160 s161 s162 s163 s164 s165 s166 s167 s168 s169 s170 s171 s172 s173 s174 s175 s176 s177 s178 s179 s180 s181 s182 : Value) (hs : Sz q n m G T I AK near AT) (hcl : Cl7 W G T I AK near AT (.slice a0 n c0) (.slice ak m ck) (.slice ai m ci) v3 (.slice a4 AT.length c4) (.slice aA AK.length cA)) (hes : ERow W (.slice a20 n c20) es0 T)
    (hN : N ≤ W.heap.size) (hR : ∀ w', Below N W w' → R (.returned (.bool true)) w') :
    Code.wp Try.prog (dropS 25 (Try.f7.body.getD .skip)) (bodyPost Try.prog Try.f7 R) ⟨List.toArray ((.slice a0 n c0) :: (.slice ak m ck) :: (.slice ai m ci) :: v3 :: (.slice a4 AT.length c4) :: (.slice aA AK.length cA) :: s6 :: s7 :: s8 :: s9 :: s10 :: s11 :: s12 :: s13 :: s14 :: s15 :: s16 :: (.int .i64 (q : Int)) :: (.int .i64 (n : Int)) :: (.int .i64 (m : Int)) :: (.slice a20 n c20) :: s21 :: undef :: undef :: undef :: undef :: undef :: undef :: undef :: undef :: undef :: undef :: undef :: undef :: undef :: undef :: undef :: undef :: undef :: undef :: undef :: undef :: undef :: undef :: s44 :: s45 :: s46 :: s47 :: s48 :: s49 :: s50 :: s51 :: s52 :: s53 :: s54 :: s55 :: s56 :: s57 :: s58 :: s59 :: s60 :: s61 :: s62 :: s63 :: s64 :: s65 :: s66 :: s67 :: s68 :: s69 :: s70 :: s71 :: s72 :: s73 :: s74 :: s75 :: s76 :: s77 :: s78 :: s79 :: s80 :: s81 :: s82 :: s83 :: s84 :: s85 :: s86 :: s87 :: s88 :: s89 :: s90 :: s91 :: s92 :: s93 :: s94 :: s95 :: s96 :: s97 :: s98 :: s99 :: s100 :: s101 :: s102 :: s103 :: s104 :: s105 :: s106 :: s107 :: s108 :: s109 :: s110 :: s111 :: s112 :: s113 :: s114 :: s115 :: s116 :: s117 :: s118 :: s119 :: s120 :: s121 :: s122 :: s123 :: s124 :: s125 :: s126 :: s127 :: s128 :: s129 :: s130 :: s131 :: s132 :: s133 :: s134 :: s135 :: s136 :: s137 :: s138 :: s139 :: s140 :: s141 :: s142 :: s143 :: s144 :: s145 :: s146 :: s147 :: s148 :: s149 :: s150 :: s151 :: s152 :: s153 :: s154 :: s155 :: s156 :: s157 :: s158 :: s159 :: s160 :: s161 :: s162 :: s163 :: s164 :: s165 :: s166 :: s167 :: s168 :: s169 :: s170 :: s171 :: s172 :: s173 :: s174 :: s175 :: s176 :: s177 :: s178 :: s179 :: s180 :: s181 :: s182 :: undef :: undef :: undef :: undef :: undef :: undef :: undef :: undef :: undef :: undef :: undef :: undef :: undef :: undef :: undef :: undef :: undef :: undef :: undef :: undef :: undef :: undef :: undef :: undef :: undef :: undef :: undef :: undef :: undef :: undef :: undef :: undef :: undef :: undef :: undef :: undef :: undef :: undef :: undef :: undef :: undef :: undef :: undef :: undef :: undef :: undef :: undef :: undef :: undef :: undef :: undef :: undef :: undef :: undef :: undef :: undef :: undef :: undef :: undef :: undef :: undef :: undef :: undef :: undef :: undef :: undef :: undef :: undef :: undef :: undef :: undef :: undef :: undef :: undef :: undef :: undef :: undef :: undef :: undef :: undef :: undef :: undef :: undef :: undef :: undef :: undef :: undef :: undef :: undef :: undef :: undef :: undef :: undef :: undef :: undef :: undef :: undef :: undef :: undef :: undef :: undef :: undef :: undef :: undef :: undef :: undef :: undef :: undef :: undef :: undef :: undef :: undef :: undef :: undef :: undef :: undef :: undef :: undef :: undef :: undef :: undef :: undef :: undef :: undef :: undef :: undef :: undef :: undef :: undef :: undef :: undef :: undef :: undef :: undef :: undef :: undef :: undef :: undef :: undef :: undef :: undef :: undef :: undef :: undef :: undef :: undef :: undef :: undef :: undef :: undef :: undef :: undef :: undef :: undef :: undef :: undef :: undef :: undef :: undef :: undef :: undef :: undef :: undef :: undef :: undef :: undef :: undef :: undef :: undef :: undef :: undef :: undef :: undef :: undef :: undef :: undef :: undef :: undef :: undef :: undef :: undef :: undef :: undef :: undef :: undef :: undef :: undef :: undef :: undef :: undef :: undef :: undef :: undef :: undef :: undef :: undef :: undef :: undef :: undef :: undef :: undef :: undef :: undef :: undef :: undef :: undef :: undef :: undef :: undef :: undef :: undef :: undef :: undef :: undef :: undef :: undef :: undef :: undef :: undef :: undef :: undef :: undef :: undef :: undef :: undef :: undef :: undef :: undef :: undef :: undef :: undef :: undef :: undef :: undef :: undef :: undef :: undef :: undef :: undef :: undef :: undef :: undef :: undef :: undef :: undef :: undef :: undef :: undef :: undef :: undef :: undef :: undef :: undef :: undef :: undef :: undef :: undef :: undef :: undef :: undef :: undef :: []), []⟩ W := by
  have hn := hs.hn
  have hqT := hs.hqT
  have hT1 := hs.hT1
  have HT := hidden hs.hT
  have HSz := hidden hs
  have HR := hidden hR
  have HCl := hidden hcl
  have HEs := hidden hes
  clear hes
  clear hs hcl hR
  obtain ⟨i39, hi39, p0, p1, p2⟩ := info_parts Try.info39
  conv => arg 2; whnf
  refine wp_split (c2 := dropS 26 (Try.f7.body.getD .skip)) ?_
  go_wp2_with (at_make; refine wpList_make_Blk _ rfl _ _ 56 rfl 39 i39 (.pointer none) 8 Try.underlying56 hi39 p0 p1 p2 rfl q q (Nat.le_refl _) rfl rfl (by decide) (by omega) ?_; intro w1 hb1 bel1 hs1)
  have HE : Hid (EvRel W q AT 0 w1) := EvRel.start hb1 bel1 hs1
  clear hb1 bel1 hs1
  conv => arg 2; whnf
  refine wp_split (c2 := dropS 27 (Try.f7.body.getD .skip)) ?_
  go_wp2
  go_loopw [23] (fun i wr => ∃ k : Nat, k ≤ q ∧ i = .int .i64 k ∧ Hid (EvRel W q AT k wr)) (fun i _ => q - (intOf i).toNat)
  case atStart => exact ⟨0, Nat.zero_le _, rfl, HE⟩
  case round =>
    obtain ⟨k, hk, rfl, hrel⟩ := hrel
    clear HE
    by_cases hlt : k < q
    · have hkl : k < AT.length := by have := HT.out; omega
      obtain ⟨t, ht⟩ : ∃ t, AT[k]? = some t := ⟨_, List.getElem?_eq_getElem hkl⟩
      obtain ⟨BI, hIo⟩ := HCl.out.a
      obtain ⟨gi, rfl, d1⟩ := (hIo.below hrel.out.bel (Nat.le_refl _)).at (nums_get ht)
      have hco := hrel.out.cell hlt
      have hfo := hrel.out.free k
      have hWl := hrel.out.lt
      have hWn : W.heap.size ≠ wr.heap.size := by omega
      have hnext := hidden (hrel.out.step hlt ht)
      clear hIo ht
      go_wp2
      go_roundw
      case rel => exact ⟨k + 1, by omega, by go_num, hnext.out _ rfl⟩
      case measure => simp [intOf]; omega
    · obtain rfl : k = q := by omega
      obtain ⟨es, he⟩ := hrel.out.ends (by have := HT.out; omega) (by unfold maxLen; omega)
      have hbel := hrel.out.bel
      have HE := hidden he
      have HB := hidden hbel
      clear he hbel
      go_wp2
      exact ph27 _ N k n m cA ck ci _ c4 c20 c0 aA ak ai _ _ a20 a0 G I AK near AT T es0 es v3 _ _ _ _ _ _ _ _ _ _ _ _ _ _ _ _ _ _ _ _ _ _ _ _ _ _ _ _ _ _ _ _ _ _ _ _ _ _ _ _ _ _ _ _ _ _ _ _ _ _ _ _ _ _ _ _ _ _ _ _ _ _ _ _ _ _ _ _ _ _ _ _ _ _ _ _ _ _ _ _ _ _ _ _ _ _ _ _ _ _ _ _ _ _ _ _ _ _ _ _ _ _ _ _ _ _ _ _ _ _ _ _ _ _ _ _ _ _ _ _ _ _ _ _ _ _ _ _ _ _ _ _ _ _ _ _ _ _ _ _ _ _ _ _ _ _ _ _ _ _ _ _ _ _ _ _ _ _ _ _ _ _ _ _ _ _ _ _ HSz.out (HCl.out.below HB.out (Nat.le_refl _)) (HEs.out.below HB.out (Nat.le_refl _)) HE.out (Nat.le_trans hN HB.out.size) (fun w' hb => HR.out _ ((HB.out.mono hN).trans hb))

set_option maxRecDepth 100000 in
set_option maxHeartbeats 4000000 in
theorem ph23 {R : Ending → World → Prop} (W : World) (N q n m cA ck ci c4 c0 : Nat) (aA ak ai a4 a0 : Option Addr) (G : List (List Int)) (I AK near AT T : List Int) (v3 : Value) (s6 s7 s8 s9 s10 s11 s12 s13 s14 s15 s16 s44 s45 s46 s47 s48 s49 s50 s51 s52 s53 s54 s55 s56 s57 s58 s59 s60 s61 s62 s63 s64 s65 s66 s67 s68 s69 s70 s71 s72 s73 s74 s75 s76 s77 s78 s79 s80 s81 s82 s83 s84 s85 s86 s87 s88 s89 s90 s91 s92 s93 s94 s95 s96 s97 s98 s99 s100 s101 s102 s103 s104 s105 s106 s107 s108 s109 s110 s111 s112 s113 s114 s115 s116 s117 s118 s119 s120 s121 s122 s123 s124 s125 s126 s127 s128 s129 s130 s131 s132 s133 s134 s135 s136 s137 s138 s139 s140 s141 s142 s143 s144 s145 s146 s147 s148 s149 s150 s151 s152 s153 s154 s155 s156 s157 s158 s159 s160 s161 s162 s163 s164 s165 s166 : Value) (hs : Sz q n m G T I AK near AT) (hcl : Cl7 W G T I AK near AT (.slice a0 n c0) (.slice ak m ck) (.slice ai m ci) v3 (.slice a4 AT.length c4) (.slice aA AK.length cA)) 
    (hN : N ≤ W.heap.size) (hR : ∀ w', Below N W w' → R (.returned (.bool true)) w') :
    Code.wp Try.prog (dropS 23 (Try.f7.body.getD .skip)) (bodyPost Try.prog Try.f7 R) ⟨List.toArray ((.slice a0 n c0) :: (.slice ak m ck) :: (.slice ai m ci) :: v3 :: (.slice a4 AT.length c4) :: (.slice aA AK.length cA) :: s6 :: s7 :: s8 :: s9 :: s10 :: s11 :: s12 :: s13 :: s14 :: s15 :: s16 :: (.int .i64 (q : Int)) :: (.int .i64 (n : Int)) :: (.int .i64 (m : Int)) :: undef :: undef :: undef :: undef :: undef :: undef :: undef :: undef :: undef :: undef :: undef :: undef :: undef :: undef :: undef :: undef :: undef :: undef :: undef :: undef :: undef :: undef :: undef :: undef :: s44 :: s45 :: s46 :: s47 :: s48 :: s49 :: s50 :: s51 :: s52 :: s53 :: s54 :: s55 :: s56 :: s57 :: s58 :: s59 :: s60 :: s61 :: s62 :: s63 :: s64 :: s65 :: s66 :: s67 :: s68 :: s69 :: s70 :: s71 :: s72 :: s73 :: s74 :: s75 :: s76 :: s77 :: s78 :: s79 :: s80 :: s81 :: s82 :: s83 :: s84 :: s85 :: s86 :: s87 :: s88 :: s89 :: s90 :: s91 :: s92 :: s93 :: s94 :: s95 :: s96 :: s97 :: s98 :: s99 :: s100 :: s101 :: s102 :: s103 :: s104 :: s105 :: s106 :: s107 :: s108 :: s109 :: s110 :: s111 :: s112 :: s113 :: s114 :: s115 :: s116 :: s117 :: s118 :: s119 :: s120 :: s121 :: s122 :: s123 :: s124 :: s125 :: s126 :: s127 :: s128 :: s129 :: s130 :: s131 :: s132 :: s133 :: s134 :: s135 :: s136 :: s137 :: s138 :: s139 :: s140 :: s141 :: s142 :: s143 :: s144 :: s145 :: s146 :: s147 :: s148 :: s149 :: s150 :: s151 :: s152 :: s153 :: s154 :: s155 :: s156 :: s157 :: s158 :: s159 :: s160 :: s161 :: s162 :: s163 :: s164 :: s165 :: s166 :: undef :: undef :: undef :: undef :: undef :: undef :: undef :: undef :: undef :: undef :: undef :: undef :: undef :: undef :: undef :: undef :: undef :: undef :: undef :: undef :: undef :: undef :: undef :: undef :: undef :: undef :: undef :: undef :: undef :: undef :: undef :: undef :: undef :: undef :: undef :: undef :: undef :: undef :: undef :: undef :: undef :: undef :: undef :: undef :: undef :: undef :: undef :: undef :: undef :: undef :: undef :: undef :: undef :: undef :: undef :: undef :: undef :: undef :: undef :: undef :: undef :: undef :: undef :: undef :: undef :: undef :: undef :: undef :: undef :: undef :: undef :: undef :: undef :: undef :: undef :: undef :: undef :: undef :: undef :: undef :: undef :: undef :: undef :: undef :: undef :: undef :: undef :: undef :: undef :: undef :: undef :: undef :: undef :: undef :: undef :: undef :: undef :: undef :: undef :: undef :: undef :: undef :: undef :: undef :: undef :: undef :: undef :: undef :: undef :: undef :: undef :: undef :: undef :: undef :: undef :: undef :: undef :: undef :: undef :: undef :: undef :: undef :: undef :: undef :: undef :: undef :: undef :: undef :: undef :: undef :: undef :: undef :: undef :: undef :: undef :: undef :: undef :: undef :: undef :: undef :: undef :: undef :: undef :: undef :: undef :: undef :: undef :: undef :: undef :: undef :: undef :: undef :: undef :: undef :: undef :: undef :: undef :: undef :: undef :: undef :: undef :: undef :: undef :: undef :: undef :: undef :: undef :: undef :: undef :: undef :: undef :: undef :: undef :: undef :: undef :: undef :: undef :: undef :: undef :: undef :: undef :: undef :: undef :: undef :: undef :: undef :: undef :: undef :: undef :: undef :: undef :: undef :: undef :: undef :: undef :: undef :: undef :: undef :: undef :: undef :: undef :: undef :: undef :: undef :: undef :: undef :: undef :: undef :: undef :: undef :: undef :: undef :: undef :: undef :: undef :: undef :: undef :: undef :: undef :: undef :: undef :: undef :: undef :: undef :: undef :: undef :: undef :: undef :: undef :: undef :: undef :: undef :: undef :: undef :: undef :: undef :: undef :: undef :: undef :: undef :: undef :: undef :: undef :: undef :: undef :: undef :: undef :: undef :: undef :: undef :: undef :: undef :: undef :: undef :: undef :: undef :: undef :: undef :: undef :: undef :: undef :: undef :: undef :: undef :: undef :: undef :: undef :: undef :: undef :: undef :: undef :: undef :: undef :: undef :: undef :: undef :: undef :: []), []⟩ W := by
  have hn := hs.hn
  have hqT := hs.hqT
  have hT1 := hs.hT1
  have HT := hidden hs.hT
  have HSz := hidden hs
  have HR := hidden hR
  have HCl := hidden hcl
  have HX := hidden trivial
  clear hs hcl hR
  obtain ⟨i39, hi39, p0, p1, p2⟩ := info_parts Try.info39
  conv => arg 2; whnf
  refine wp_split (c2 := dropS 24 (Try.f7.body.getD .skip)) ?_
  go_wp2_with (at_make; refine wpList_make_Blk _ rfl _ _ 56 rfl 39 i39 (.pointer none) 8 Try.underlying56 hi39 p0 p1 p2 rfl n n (Nat.le_refl _) rfl rfl (by decide) (by omega) ?_; intro w1 hb1 bel1 hs1)
  have HE : Hid (EvRel W n T 0 w1) := EvRel.start hb1 bel1 hs1
  clear hb1 bel1 hs1
  conv => arg 2; whnf
  refine wp_split (c2 := dropS 25 (Try.f7.body.getD .skip)) ?_
  go_wp2
  go_loopw [21] (fun i wr => ∃ k : Nat, k ≤ n ∧ i = .int .i64 k ∧ Hid (EvRel W n T k wr)) (fun i _ => n - (intOf i).toNat)
  case atStart => exact ⟨0, Nat.zero_le _, rfl, HE⟩
  case round =>
    obtain ⟨k, hk, rfl, hrel⟩ := hrel
    clear HE
    by_cases hlt : k < n
    · have hkl : k < T.length := by have := HT.out; omega
      obtain ⟨t, ht⟩ : ∃ t, T[k]? = some t := ⟨_, List.getElem?_eq_getElem hkl⟩
      obtain ⟨BI, hIo⟩ := HCl.out.t
      obtain ⟨gi, rfl, d1⟩ := (hIo.below hrel.out.bel (Nat.le_refl _)).at (nums_get ht)
      have hco := hrel.out.cell hlt
      have hfo := hrel.out.free k
      have hWl := hrel.out.lt
      have hWn : W.heap.size ≠ wr.heap.size := by omega
      have hnext := hidden (hrel.out.step hlt ht)
      clear hIo ht
      go_wp2
      go_roundw
      case rel => exact ⟨k + 1, by omega, by go_num, hnext.out _ rfl⟩
      case measure => simp [intOf]; omega
    · obtain rfl : k = n := by omega
      obtain ⟨es, he⟩ := hrel.out.ends (by have := HT.out; omega) (by unfold maxLen; omega)
      have hbel := hrel.out.bel
      have HE := hidden he
      have HB := hidden hbel
      clear he hbel
      go_wp2
      exact ph25 _ N q k m cA ck ci c4 _ c0 aA ak ai a4 _ _ G I AK near AT T es v3 _ _ _ _ _ _ _ _ _ _ _ _ _ _ _ _ _ _ _ _ _ _ _ _ _ _ _ _ _ _ _ _ _ _ _ _ _ _ _ _ _ _ _ _ _ _ _ _ _ _ _ _ _ _ _ _ _ _ _ _ _ _ _ _ _ _ _ _ _ _ _ _ _ _ _ _ _ _ _ _ _ _ _ _ _ _ _ _ _ _ _ _ _ _ _ _ _ _ _ _ _ _ _ _ _ _ _ _ _ _ _ _ _ _ _ _ _ _ _ _ _ _ _ _ _ _ _ _ _ _ _ _ _ _ _ _ _ _ _ _ _ _ _ _ _ _ _ _ _ _ _ HSz.out (HCl.out.below HB.out (Nat.le_refl _)) (by have := HE.out; rwa [List.take_of_length_le (Nat.le_of_eq HT.out)] at this) (Nat.le_trans hN HB.out.size) (fun w' hb => HR.out _ ((HB.out.mono hN).trans hb))
end Go.Proofs.Qxb6621626a
