/-
  add, region 11: 'l.kinds[k] = append(l.kinds[k], len(l.events))': one region that draws its order.
-/
import Derived.Test.Qxb6621626aAddT
namespace Go.Proofs.Qxb6621626a
open Go.RowKit
set_option linter.unusedVariables false

set_option maxRecDepth 100000 in
set_option maxHeartbeats 4000000 in
theorem r11_any {K : Act → World → Prop} {R : Ending → World → Prop} (w : World) (B bl gk m ck j xn xc nE cE : Nat) (xa aE : Option Addr) (vT vM vN : Value) (vs : List Value) (zs : List Int) (s1 s2 s3 s4 s5 s7 s8 s9 s10 s11 s12 s13 s14 s15 s16 s17 s18 s19 s20 s21 s22 s23 s24 s25 s26 s27 s28 s29 s30 s31 s32 s33 s34 s35 s36 s37 s38 s39 s40 s41 s42 s43 s44 s45 s46 s47 s48 s49 s50 s51 s52 s53 s54 s55 s56 s57 s58 s59 s60 s61 s62 s63 s64 s65 s66 s67 s68 s69 s70 s71 s72 s73 s74 s75 s76 s77 s78 s79 s80 : Value)
    (hS : S5 w bl (.slice aE nE cE) vT (.slice (some ⟨gk, 0, none⟩) m ck) vM vN) (hKi : Own w B 52 (.slice none 0 0) (.slice (some ⟨gk, 0, none⟩) m ck) vs) (hm : vs.length = m) (hj : j < m) (hm1 : m ≤ 1048576)
    (hv : vs[j]? = some (.slice xa xn xc)) (hX : Own w B 3 (.int .i64 0) (.slice xa xn xc) (nums zs)) (hxn : (nums zs).length = xn) (hx1 : xn ≤ 1048576) (hB : B ≤ w.heap.size)
    (hK : ∀ (u81 u82 u83 u84 u85 u86 u87 u88 u89 u90 u91 u92 u93 u94 u95 u96 u97 u98 u99 u100 : Value) (g c' : Nat) (w1 w2 : World), Below w.heap.size w w1 → w1.heap.size = w.heap.size + 1 → w1.grownBy w2 (Value.slice xa xn xc).ownBlock → Own w2 B 3 (.int .i64 0) (.slice (some ⟨g, 0, none⟩) (xn + 1) c') (nums zs ++ [.int .i64 (nE : Int)]) →
      ((Value.slice xa xn xc).ownBlock = some g ∨ g = w1.heap.size) → K ⟨List.toArray ((.pointer (some ⟨bl, 0, none⟩)) :: s1 :: s2 :: s3 :: s4 :: s5 :: (.int .i64 (j : Int)) :: s7 :: s8 :: s9 :: s10 :: s11 :: s12 :: s13 :: s14 :: s15 :: s16 :: s17 :: s18 :: s19 :: s20 :: s21 :: s22 :: s23 :: s24 :: s25 :: s26 :: s27 :: s28 :: s29 :: s30 :: s31 :: s32 :: s33 :: s34 :: s35 :: s36 :: s37 :: s38 :: s39 :: s40 :: s41 :: s42 :: s43 :: s44 :: s45 :: s46 :: s47 :: s48 :: s49 :: s50 :: s51 :: s52 :: s53 :: s54 :: s55 :: s56 :: s57 :: s58 :: s59 :: s60 :: s61 :: s62 :: s63 :: s64 :: s65 :: s66 :: s67 :: s68 :: s69 :: s70 :: s71 :: s72 :: s73 :: s74 :: s75 :: s76 :: s77 :: s78 :: s79 :: s80 :: u81 :: u82 :: u83 :: u84 :: u85 :: u86 :: u87 :: u88 :: u89 :: u90 :: u91 :: u92 :: u93 :: u94 :: u95 :: u96 :: u97 :: u98 :: u99 :: u100 :: undef :: undef :: undef :: undef :: undef :: undef :: undef :: undef :: undef :: undef :: undef :: undef :: undef :: undef :: undef :: undef :: undef :: undef :: undef :: undef :: undef :: undef :: undef :: []), []⟩ (w2.setCell ⟨gk, j, none⟩ (.slice (some ⟨g, 0, none⟩) (xn + 1) c'))) :
    Code.wp Try.prog (cR (cR (cT (cR (cL (Try.f40.body.getD .skip)))))) (Exit.then K (bodyPost Try.prog Try.f40 R)) ⟨List.toArray ((.pointer (some ⟨bl, 0, none⟩)) :: s1 :: s2 :: s3 :: s4 :: s5 :: (.int .i64 (j : Int)) :: s7 :: s8 :: s9 :: s10 :: s11 :: s12 :: s13 :: s14 :: s15 :: s16 :: s17 :: s18 :: s19 :: s20 :: s21 :: s22 :: s23 :: s24 :: s25 :: s26 :: s27 :: s28 :: s29 :: s30 :: s31 :: s32 :: s33 :: s34 :: s35 :: s36 :: s37 :: s38 :: s39 :: s40 :: s41 :: s42 :: s43 :: s44 :: s45 :: s46 :: s47 :: s48 :: s49 :: s50 :: s51 :: s52 :: s53 :: s54 :: s55 :: s56 :: s57 :: s58 :: s59 :: s60 :: s61 :: s62 :: s63 :: s64 :: s65 :: s66 :: s67 :: s68 :: s69 :: s70 :: s71 :: s72 :: s73 :: s74 :: s75 :: s76 :: s77 :: s78 :: s79 :: s80 :: undef :: undef :: undef :: undef :: undef :: undef :: undef :: undef :: undef :: undef :: undef :: undef :: undef :: undef :: undef :: undef :: undef :: undef :: undef :: undef :: undef :: undef :: undef :: undef :: undef :: undef :: undef :: undef :: undef :: undef :: undef :: undef :: undef :: undef :: undef :: undef :: undef :: undef :: undef :: undef :: undef :: undef :: undef :: []), []⟩ w := by
  obtain ⟨c0, _, c2, _, _⟩ := hS.cells
  have hlt := hS.lt
  have ck0 : w.cell? ⟨gk, j, none⟩ = some (.slice xa xn xc) := hKi.cell rfl j _ hv
  have hgk := (hKi.lt gk rfl).2
  have hji : (j : Int) < (m : Int) := by omega
  obtain ⟨i0, hi, hz0, hz1, hz2⟩ := info_parts Try.info3
  have hgkr := hKi.row gk rfl
  have haft : ∀ w1 w2 : World, Below w.heap.size w w1 → w1.grownBy w2 (Value.slice xa xn xc).ownBlock → w2.cell? ⟨bl, 0, none⟩ = some (.slice aE nE cE) ∧ w2.cell? ⟨bl, 2, none⟩ = some (.slice (some ⟨gk, 0, none⟩) m ck) ∧ w2.cell? ⟨gk, j, none⟩ = some (.slice xa xn xc) ∧ w2.frozen? ⟨gk, j, none⟩ = false := by
    intro w1 w2 hb hg
    obtain ⟨cs, hcs⟩ := hgkr
    have e1 : w1.heap[bl]? = w.heap[bl]? := hb.block bl hlt
    have e2 : w1.heap[gk]? = w.heap[gk]? := hb.block gk hgk
    have hs := hb.size
    have b1 : w2.heap[bl]? = w.heap[bl]? := by
      rw [hg.block bl (by omega) (fun e => ?_), e1]
      obtain ⟨c, hc⟩ := hX.row bl e.symm
      exact hS.ne_row hc (by decide) rfl
    have b2 : w2.heap[gk]? = w.heap[gk]? := by
      rw [hg.block gk (by omega) (fun e => ?_), e2]
      obtain ⟨c, hc⟩ := hX.row gk e.symm
      rw [hcs] at hc
      simp at hc
    refine ⟨?_, ?_, ?_, ?_⟩
    · rw [World.cell?_of_block (w := w) (a := ⟨bl, 0, none⟩) b1]; exact c0
    · rw [World.cell?_of_block (w := w) (a := ⟨bl, 2, none⟩) b1]; exact c2
    · rw [World.cell?_of_block (w := w) (a := ⟨gk, j, none⟩) b2]; exact ck0
    · rw [World.frozen?_of_block (w := w) (a := ⟨gk, j, none⟩) b2]; exact frozen_of_row w gk j _ 52 hcs
  clear hv hm hKi hgkr
  conv => arg 2; whnf
  go_region_law ((refine step_append_At (by rfl) _ _ 52 (by rfl) B 3 i0 (.int .i64 0) 8 Try.underlying52 hi hz0 hz1 hz2 rfl (.slice xa xn xc) (nums zs) xn hxn (by rfl) (by exact hX.alloc _) ⟨w.heap.size, 0, none⟩ 1 (.int .i64 (nE : Int)) (by rfl) (by simp) rfl rfl hx1 (by decide) (by simp; omega) ?_; intro g c' w2 hown' hgrow hloc; obtain ⟨q0, q2, q3, q4⟩ := haft _ w2 (by exact ((Below.refl _ w).alloc (Nat.le_refl _) _).drew) hgrow))
  all_goals exact hK _ _ _ _ _ _ _ _ _ _ _ _ _ _ _ _ _ _ _ _ g c' ((w.alloc (.cells #[.int .i64 (nE : Int)] 3)).drew) w2 (((Below.refl _ w).alloc (Nat.le_refl _) _).drew) (by simp) hgrow hown' hloc
end Go.Proofs.Qxb6621626a
