/-
  add, region 11 and what follows it, on the list.
-/
import Derived.Test.Qxb6621626aAdd11
namespace Go.Proofs.Qxb6621626a
open Go.RowKit
set_option linter.unusedVariables false

theorem wp_split {P : Program} {c1 c2 : Code} {Q : Exit → Act → World → Prop} {a : Act} {w : World} (h : Code.wp P c1 (Exit.then (fun a' w' => Code.wp P c2 Q a' w') Q) a w) : Code.wp P (.seq c1 c2) Q a w := wp_seq h

set_option maxRecDepth 100000 in
set_option maxHeartbeats 4000000 in
theorem r11_then {R : Ending → World → Prop} (w : World) (B bl be oe j : Nat) (evs : List Value) (tms : List Int) (gs : List (List Int)) (ids near : List Int) (vE vT vK vM vN : Value) (vs : List Value) (t : Int) (s2 s3 s4 s5 s7 s8 s9 s10 s11 s12 s13 s14 s15 s16 s17 s18 s19 s20 s21 s22 s23 s24 s25 s26 s27 s28 s29 s30 s31 s32 s33 s34 s35 s36 s37 s38 s39 s40 s41 s42 s43 s44 s45 s46 s47 s48 s49 s50 s51 s52 s53 s54 s55 s56 s57 s58 s59 s60 s61 s62 s63 s64 s65 s66 s67 s68 s69 s70 s71 s72 s73 s74 s75 s76 s77 s78 s79 s80 : Value)
    (h : LS w B bl evs tms gs ids near vE vT vK vM vN vs) (hj : j < gs.length) (he : w.cell? ⟨be, oe, none⟩ = some (.int .i64 t)) (hbe : be < B) (hn1 : evs.length ≤ 1048576) (hn2 : tms.length ≤ 1048576) (hn3 : gs.length ≤ 1048576) (hn4 : gs[j].length ≤ 1048576) (hB : B ≤ w.heap.size)
    (hR : ∀ (w' : World) (vE' vT' vK' : Value) (vs' : List Value), LS w' B bl (evs ++ [.pointer (some ⟨be, oe, none⟩)]) (tms ++ [t]) (gs.set j (gs[j] ++ [(evs.length : Int)])) ids near vE' vT' vK' vM vN vs' → Below B w w' → R (.returned (.tuple #[])) w') :
    Code.wp Try.prog (cR (cR (cT (cR (cL (Try.f40.body.getD .skip)))))) (Exit.then (fun a' w' => Code.wp Try.prog (cR (Try.f40.body.getD .skip)) (bodyPost Try.prog Try.f40 R) a' w') (bodyPost Try.prog Try.f40 R)) ⟨List.toArray ((.pointer (some ⟨bl, 0, none⟩)) :: (.pointer (some ⟨be, oe, none⟩)) :: s2 :: s3 :: s4 :: s5 :: (.int .i64 (j : Int)) :: s7 :: s8 :: s9 :: s10 :: s11 :: s12 :: s13 :: s14 :: s15 :: s16 :: s17 :: s18 :: s19 :: s20 :: s21 :: s22 :: s23 :: s24 :: s25 :: s26 :: s27 :: s28 :: s29 :: s30 :: s31 :: s32 :: s33 :: s34 :: s35 :: s36 :: s37 :: s38 :: s39 :: s40 :: s41 :: s42 :: s43 :: s44 :: s45 :: s46 :: s47 :: s48 :: s49 :: s50 :: s51 :: s52 :: s53 :: s54 :: s55 :: s56 :: s57 :: s58 :: s59 :: s60 :: s61 :: s62 :: s63 :: s64 :: s65 :: s66 :: s67 :: s68 :: s69 :: s70 :: s71 :: s72 :: s73 :: s74 :: s75 :: s76 :: s77 :: s78 :: s79 :: s80 :: undef :: undef :: undef :: undef :: undef :: undef :: undef :: undef :: undef :: undef :: undef :: undef :: undef :: undef :: undef :: undef :: undef :: undef :: undef :: undef :: undef :: undef :: undef :: undef :: undef :: undef :: undef :: undef :: undef :: undef :: undef :: undef :: undef :: undef :: undef :: undef :: undef :: undef :: undef :: undef :: undef :: undef :: undef :: []), []⟩ w := by
  have hlen : vs.length = gs.length := by have := h.gr.len; simpa using this
  have hjv : j < vs.length := by omega
  obtain ⟨ak, ck, hvK, hk1, hk2, hk3⟩ := h.ki.form
  obtain ⟨gk, rfl⟩ : ∃ gk, ak = some ⟨gk, 0, none⟩ := by
    rcases hk3 with ⟨_, h0, _⟩ | ⟨g, hg, _⟩
    · rw [h0] at hjv; simp at hjv
    · exact ⟨g, hg⟩
  subst hvK
  obtain ⟨aE, cE, hvE, _, _, _⟩ := h.ev.form
  have hx : vs[j]? = some vs[j] := List.getElem?_eq_getElem hjv
  have hz : gs[j]? = some gs[j] := List.getElem?_eq_getElem hj
  have hX := h.gr.own (j + 1) vs[j] gs[j] (by simp) (by simp)
  obtain ⟨xa, xc, hxv, _, _, _⟩ := hX.form
  simp only [nums, List.length_map] at hxv
  rw [hxv] at hx hX
  have hS := h.st
  rw [hvE] at hS
  refine r11_any w B bl gk vs.length ck j gs[j].length xc evs.length cE xa aE vT vM vN vs gs[j] _ _ _ _ _ _ _ _ _ _ _ _ _ _ _ _ _ _ _ _ _ _ _ _ _ _ _ _ _ _ _ _ _ _ _ _ _ _ _ _ _ _ _ _ _ _ _ _ _ _ _ _ _ _ _ _ _ _ _ _ _ _ _ _ _ _ _ _ _ _ _ _ _ _ _ _ _ _ _ hS h.ki rfl hjv (by omega) hx hX (by simp) hn4 hB ?_
  intro u81 u82 u83 u84 u85 u86 u87 u88 u89 u90 u91 u92 u93 u94 u95 u96 u97 u98 u99 u100 g c' w1 w2 hb hs hg ho hloc
  have L2 := h.setK (zs' := gs[j] ++ [(evs.length : Int)]) hx hz hb hg (by simpa using ho) hloc
  have bel : Below B w (w2.setCell ⟨gk, j, none⟩ (.slice (some ⟨g, 0, none⟩) (gs[j].length + 1) c')) :=
    (((hb.mono hB)).grown hg (Nat.le_trans hB hb.size) (fun k hk => (hX.lt k hk).1)).setCell (p := ⟨gk, j, none⟩) (h.ki.lt gk rfl).1 _
  exact tail_any _ B bl be oe evs tms _ ids near vE vT _ vM vN _ t _ _ _ _ _ _ _ _ _ _ _ _ _ _ _ _ _ _ _ _ _ _ _ _ _ _ _ _ _ _ _ _ _ _ _ _ _ _ _ _ _ _ _ _ _ _ _ _ _ _ _ _ _ _ _ _ _ _ _ _ _ _ _ _ _ _ _ _ _ _ _ _ _ _ _ _ _ _ _ _ _ _ _ _ _ _ _ _ _ _ _ _ _ _ _ _ _ _ _ L2 (by rw [bel.cell (p := ⟨be, oe, none⟩) hbe]; exact he) hbe hn1 hn2 (Nat.le_trans hB bel.size) (fun w' vE' vT' hL hb' => hR w' vE' vT' _ _ hL (bel.trans hb'))
end Go.Proofs.Qxb6621626a
