/-
  add, its last two statements: 'l.events = append(l.events, ev); l.times = append(l.times, ev.Time)'.
-/
import Derived.Test.Qxb6621626aSteps
import Derived.Deep.RegionLaw
import Derived.Outline
namespace Go.Proofs.Qxb6621626a
open Go.RowKit
set_option linter.unusedVariables false

def cL : Code → Code
  | .seq a _ => a
  | c => c
def cR : Code → Code
  | .seq _ b => b
  | c => c
def cT : Code → Code
  | .cond _ a _ => a
  | c => c

set_option maxRecDepth 100000 in
set_option maxHeartbeats 4000000 in
theorem tail_any {R : Ending → World → Prop} (w : World) (B bl be oe : Nat) (evs : List Value) (tms : List Int) (gs : List (List Int)) (ids near : List Int) (vE vT vK vM vN : Value) (vs : List Value) (t : Int) (s2 s3 s4 s5 s6 s7 s8 s9 s10 s11 s12 s13 s14 s15 s16 s17 s18 s19 s20 s21 s22 s23 s24 s25 s26 s27 s28 s29 s30 s31 s32 s33 s34 s35 s36 s37 s38 s39 s40 s41 s42 s43 s44 s45 s46 s47 s48 s49 s50 s51 s52 s53 s54 s55 s56 s57 s58 s59 s60 s61 s62 s63 s64 s65 s66 s67 s68 s69 s70 s71 s72 s73 s74 s75 s76 s77 s78 s79 s80 s81 s82 s83 s84 s85 s86 s87 s88 s89 s90 s91 s92 s93 s94 s95 s96 s97 s98 s99 s100 : Value)
    (h : LS w B bl evs tms gs ids near vE vT vK vM vN vs) (he : w.cell? ⟨be, oe, none⟩ = some (.int .i64 t)) (hbe : be < B) (hn1 : evs.length ≤ 1048576) (hn2 : tms.length ≤ 1048576) (hB : B ≤ w.heap.size)
    (hR : ∀ (w' : World) (vE' vT' : Value), LS w' B bl (evs ++ [.pointer (some ⟨be, oe, none⟩)]) (tms ++ [t]) gs ids near vE' vT' vK vM vN vs → Below B w w' → R (.returned (.tuple #[])) w') :
    Code.wp Try.prog (cR (Try.f40.body.getD .skip)) (bodyPost Try.prog Try.f40 R) ⟨List.toArray ((.pointer (some ⟨bl, 0, none⟩)) :: (.pointer (some ⟨be, oe, none⟩)) :: s2 :: s3 :: s4 :: s5 :: s6 :: s7 :: s8 :: s9 :: s10 :: s11 :: s12 :: s13 :: s14 :: s15 :: s16 :: s17 :: s18 :: s19 :: s20 :: s21 :: s22 :: s23 :: s24 :: s25 :: s26 :: s27 :: s28 :: s29 :: s30 :: s31 :: s32 :: s33 :: s34 :: s35 :: s36 :: s37 :: s38 :: s39 :: s40 :: s41 :: s42 :: s43 :: s44 :: s45 :: s46 :: s47 :: s48 :: s49 :: s50 :: s51 :: s52 :: s53 :: s54 :: s55 :: s56 :: s57 :: s58 :: s59 :: s60 :: s61 :: s62 :: s63 :: s64 :: s65 :: s66 :: s67 :: s68 :: s69 :: s70 :: s71 :: s72 :: s73 :: s74 :: s75 :: s76 :: s77 :: s78 :: s79 :: s80 :: s81 :: s82 :: s83 :: s84 :: s85 :: s86 :: s87 :: s88 :: s89 :: s90 :: s91 :: s92 :: s93 :: s94 :: s95 :: s96 :: s97 :: s98 :: s99 :: s100 :: undef :: undef :: undef :: undef :: undef :: undef :: undef :: undef :: undef :: undef :: undef :: undef :: undef :: undef :: undef :: undef :: undef :: undef :: undef :: undef :: undef :: undef :: undef :: []), []⟩ w := by
  obtain ⟨c0, k1, _, _, _⟩ := h.st.cells
  have f0 := h.st.free 0
  have hlt := h.st.lt
  obtain ⟨i39, hi39, p0, p1, p2⟩ := info_parts Try.info39
  obtain ⟨i2, hi2, q0, q1, q2⟩ := info_parts Try.info2
  obtain ⟨aE, cE, hvE, _, _, _⟩ := h.ev.form
  have evo := h.ev
  rw [hvE] at c0 evo
  have haft : ∀ w1 w2 : World, Below w.heap.size w w1 → w1.grownBy w2 (Value.slice aE evs.length cE).ownBlock → w2.cell? ⟨bl, 0, none⟩ = some (.slice aE evs.length cE) ∧ w2.frozen? ⟨bl, 0, none⟩ = false := by
    intro w1 w2 hb hg
    have st2 := h.st.keep (kept_row hb (hvE ▸ hg) h.ev.row h.st (by decide))
    have := st2.cells.1
    rw [hvE] at this
    exact ⟨this, st2.free 0⟩
  conv => arg 2; whnf
  go_wp2_with (at_builtin; refine wpList_append_At _ rfl _ _ 56 rfl B 39 i39 (.pointer none) 8 Try.underlying56 hi39 p0 p1 p2 rfl (.slice aE evs.length cE) evs evs.length rfl rfl (by exact evo.alloc _) ⟨w.heap.size, 0, none⟩ 1 (.pointer (some ⟨be, oe, none⟩)) rfl (by simp) rfl rfl hn1 (by decide) (by simp; omega) ?_; intro g c' w2 hown hgrow hloc; obtain ⟨z0, z1⟩ := haft _ w2 (by exact (Below.refl _ w).alloc (Nat.le_refl _) _) hgrow)
  have hgrow' : (w.alloc (.cells #[.pointer (some ⟨be, oe, none⟩)] 39)).grownBy w2 vE.ownBlock := hvE ▸ hgrow
  have L3 := h.setE (w1 := w.alloc (.cells #[.pointer (some ⟨be, oe, none⟩)] 39)) ((Below.refl _ w).alloc (Nat.le_refl _) _) hgrow' hown
  have bel3 : Below B w (w2.setCell ⟨bl, 0, none⟩ (.slice (some ⟨g, 0, none⟩) (evs.length + 1) c')) :=
    (((Below.refl B w).alloc hB _).grown hgrow' (by simp; omega) (fun k hk => (h.ev.lt k hk).1)).setCell (p := ⟨bl, 0, none⟩) h.base _
  generalize w2.setCell ⟨bl, 0, none⟩ (.slice (some ⟨g, 0, none⟩) (evs.length + 1) c') = w3 at L3 bel3 ⊢
  have he3 : w3.cell? ⟨be, oe, none⟩ = some (.int .i64 t) := by rw [bel3.cell (p := ⟨be, oe, none⟩) hbe]; exact he
  have hB3 : B ≤ w3.heap.size := Nat.le_trans hB bel3.size
  clear hgrow hgrow' hown z0 z1 haft evo c0 k1 f0 hlt he hloc
  obtain ⟨aT, cT, hvT, _, _, _⟩ := L3.tm.form
  simp only [nums, List.length_map] at hvT
  obtain ⟨_, k1, _, _, _⟩ := L3.st.cells
  have f1 := L3.st.free 1
  have hlt := L3.st.lt
  have hbelt : be < w3.heap.size := Nat.lt_of_lt_of_le hbe hB3
  have tmo := L3.tm
  rw [hvT] at k1 tmo
  have haft : ∀ w1 w4 : World, Below w3.heap.size w3 w1 → w1.grownBy w4 (Value.slice aT tms.length cT).ownBlock → w4.cell? ⟨bl, 1, none⟩ = some (.slice aT tms.length cT) ∧ w4.frozen? ⟨bl, 1, none⟩ = false := by
    intro w1 w4 hb hg
    have st2 := L3.st.keep (kept_row hb (hvT ▸ hg) L3.tm.row L3.st (by decide))
    have := st2.cells.2.1
    rw [hvT] at this
    exact ⟨this, st2.free 1⟩
  have fin : ∀ (w1 w4 : World) (g4 c4 : Nat), Below w3.heap.size w3 w1 → w1.grownBy w4 (Value.slice aT tms.length cT).ownBlock → Own w4 B 2 (.int .i64 0) (.slice (some ⟨g4, 0, none⟩) (tms.length + 1) c4) (nums tms ++ [.int .i64 t]) → R (.returned (.tuple #[])) (w4.setCell ⟨bl, 1, none⟩ (.slice (some ⟨g4, 0, none⟩) (tms.length + 1) c4)) := by
    intro w1 w4 g4 c4 hb hg ho
    refine hR _ _ _ (L3.setT (tms' := tms ++ [t]) hb (hvT ▸ hg) (by simpa using ho)) ?_
    exact ((bel3.trans (hb.mono hB3)).grown hg (Nat.le_trans hB3 hb.size) (fun k hk => (tmo.lt k hk).1)).setCell (p := ⟨bl, 1, none⟩) h.base _
  go_region_law ((refine step_append_At (by rfl) _ _ 22 (by rfl) B 2 i2 (.int .i64 0) 8 Try.underlying22 hi2 q0 q1 q2 rfl (.slice aT tms.length cT) (nums tms) tms.length (by simp) (by rfl) (by exact tmo.alloc _) ⟨w3.heap.size, 0, none⟩ 1 (.int .i64 t) (by rfl) (by simp) rfl rfl hn2 (by decide) (by simp; omega) ?_; intro g4 c4 w4 hown4 hgrow4 hloc4; obtain ⟨z0, z1⟩ := haft _ w4 (by exact ((Below.refl _ w3).alloc (Nat.le_refl _) _).drew) hgrow4))
  all_goals (go_end0; exact fin _ _ _ _ (by exact ((Below.refl _ w3).alloc (Nat.le_refl _) _).drew) hgrow4 hown4)
end Go.Proofs.Qxb6621626a
