import Derived.Test.Qxb6619391aRows
import Derived.WalkKit
import Derived.WalkSpells
import Derived.StillTactics
import Derived.Laws.Pointers
import Derived.RowKit3
import Derived.Below
import Derived.WalkLawsBesides
namespace Go.Proofs.Qxb6619391a
open Go.RowKit

/-- A pointer to a bool: nil, and then the answer is the default 'd'; or it leads to a cell that holds the answer. -/
def BoolAt (w : World) (p : Option Addr) (d r : Bool) : Prop :=
  (p = none ∧ r = d) ∨ ∃ b off, p = some ⟨b, off, none⟩ ∧ w.cell? ⟨b, off, none⟩ = some (.bool r)
/-- The same at an int64. -/
def IntAt (w : World) (p : Option Addr) (d r : Int) : Prop :=
  (p = none ∧ r = d) ∨ ∃ b off, p = some ⟨b, off, none⟩ ∧ w.cell? ⟨b, off, none⟩ = some (.int .i64 r)

theorem cell1 {w : World} {a : Addr} {v : Value} (h : w.cell? a = some v) (x : Obj) : (w.alloc x).cell? a = some v := by
  rw [World.cell?_alloc_lt _ _ _ (World.block_lt_of_cell? _ _ h)]; exact h
theorem cell3 {w : World} {a : Addr} {v : Value} (h : w.cell? a = some v) (x y z : Obj) : (((w.alloc x).alloc y).alloc z).cell? a = some v := cell1 (cell1 (cell1 h x) y) z
theorem BoolAt.alloc {w : World} {p : Option Addr} {d r : Bool} (h : BoolAt w p d r) (o : Obj) : BoolAt (w.alloc o) p d r := by
  rcases h with h | ⟨b, off, rfl, hc⟩
  · exact .inl h
  · exact .inr ⟨b, off, rfl, cell1 hc o⟩
theorem IntAt.alloc {w : World} {p : Option Addr} {d r : Int} (h : IntAt w p d r) (o : Obj) : IntAt (w.alloc o) p d r := by
  rcases h with h | ⟨b, off, rfl, hc⟩
  · exact .inl h
  · exact .inr ⟨b, off, rfl, cell1 hc o⟩

set_option maxHeartbeats 400000 in
/-- (scheduleChange).apply. -/
theorem method_any (p q : Option Addr) (e e' : Bool) (i i' : Int) (w : World) (hp : BoolAt w p e e') (hq : IntAt w q i i') :
    Calls Try.prog 12 #[.agg #[.pointer p, .pointer q], .agg #[.bool e, .int .i64 i]] w fun r w' => r = .returned (.agg #[.bool e', .int .i64 i']) ∧
      ∃ c1 c2 c3 : Array Value, w' = ((w.alloc (.cells c1 42)).alloc (.cells c2 25)).alloc (.cells c3 25) := by
  rcases hp with ⟨rfl, rfl⟩ | ⟨b, o, rfl, hb⟩ <;> rcases hq with ⟨rfl, rfl⟩ | ⟨b2, o2, rfl, hb2⟩
  · go_enter Try.func12, Try.ntmps12
    go_wp2
    simp [bodyPost, results, Try.results12, go_sem]
    exact ⟨_, _, _, rfl⟩
  · have g2 := cell3 hb2
    go_enter Try.func12, Try.ntmps12
    go_wp2
    simp [bodyPost, results, Try.results12, go_sem]
    exact ⟨_, _, _, rfl⟩
  · have g1 := cell3 hb
    go_enter Try.func12, Try.ntmps12
    go_wp2
    simp [bodyPost, results, Try.results12, go_sem]
    exact ⟨_, _, _, rfl⟩
  · have g1 := cell3 hb
    have g2 := cell3 hb2
    go_enter Try.func12, Try.ntmps12
    go_wp2
    simp [bodyPost, results, Try.results12, go_sem]
    exact ⟨_, _, _, rfl⟩

set_option maxHeartbeats 400000 in
/-- ZZApplySchedule. -/
theorem apply_any (p q : Option Addr) (e e' : Bool) (i i' : Int) (w : World) (hp : BoolAt w p e e') (hq : IntAt w q i i') :
    Calls Try.prog 5 #[.pointer p, .pointer q, .agg #[.bool e, .int .i64 i]] w fun r w' => r = .returned (.agg #[.bool e', .int .i64 i']) ∧
      ∃ c1 c2 c3 c4 c5 : Array Value, w' = ((((w.alloc (.cells c1 25)).alloc (.cells c2 25)).alloc (.cells c3 42)).alloc (.cells c4 25)).alloc (.cells c5 25) := by
  go_enter Try.func5, Try.ntmps5
  go_wp2_with (go_at_call 12; refine (method_any p q e e' i i' _ ((hp.alloc _).alloc _) ((hq.alloc _).alloc _)).mono ?_; rintro r w' ⟨rfl, c1, c2, c3, rfl⟩)
  simp [bodyPost, results, Try.results5, go_sem]
  exact ⟨_, _, _, _, _, rfl⟩

theorem below_alloc {a w : World} {o : Obj} (h : Below a.heap.size a w) : Below a.heap.size a (w.alloc o) := h.alloc h.size o
theorem te_at {w : World} {t : Bool} {o1 : Obj} {d : Bool} {n : Nat} (h : n = w.heap.size) : BoolAt ((w.alloc (.cells #[.bool t] 4)).alloc o1) (some ⟨n, 0, none⟩) d t :=
  .inr ⟨_, 0, rfl, cell1 (by subst h; simp [go_sem]) _⟩
theorem ti_at {w : World} {t : Int} {d : Int} {n : Nat} (h : n = w.heap.size) : IntAt (w.alloc (.cells #[.int .i64 t] 2)) (some ⟨n, 0, none⟩) d t :=
  .inr ⟨_, 0, rfl, by subst h; simp [go_sem]⟩

set_option maxHeartbeats 1000000 in
theorem law_any (sE tE : Bool) (sI tI : Int) (c1 c2 c3 c4 : Option Addr) (e1 e2 : Bool) (i1 i2 : Int) (w : World)
    (h1 : BoolAt w c1 sE e1) (h2 : IntAt w c2 sI i1) (h3 : BoolAt w c3 e1 e2) (h4 : IntAt w c4 i1 i2) :
    Calls Try.prog 3 #[.bool sE, .int .i64 sI, .pointer c1, .pointer c2, .pointer c3, .pointer c4, .bool tE, .int .i64 tI] w fun r w' => r = .returned (.bool true) ∧ Below w.heap.size w w' := by
  obtain ⟨mE, hmE, gE⟩ : ∃ mE, BoolAt w mE sE e2 ∧ ((c3 = none ∧ mE = c1) ∨ (∃ x, c3 = some x ∧ mE = some x)) := by
    rcases h3 with ⟨rfl, rfl⟩ | ⟨b, o, rfl, hc⟩
    · exact ⟨c1, h1, .inl ⟨rfl, rfl⟩⟩
    · exact ⟨_, .inr ⟨b, o, rfl, hc⟩, .inr ⟨_, rfl, rfl⟩⟩
  obtain ⟨mI, hmI, gI⟩ : ∃ mI, IntAt w mI sI i2 ∧ ((c4 = none ∧ mI = c2) ∨ (∃ x, c4 = some x ∧ mI = some x)) := by
    rcases h4 with ⟨rfl, rfl⟩ | ⟨b, o, rfl, hc⟩
    · exact ⟨c2, h2, .inl ⟨rfl, rfl⟩⟩
    · exact ⟨_, .inr ⟨b, o, rfl, hc⟩, .inr ⟨_, rfl, rfl⟩⟩
  rcases gE with ⟨rfl, rfl⟩ | ⟨x, rfl, rfl⟩ <;> rcases gI with ⟨rfl, rfl⟩ | ⟨y, rfl, rfl⟩
  all_goals
    go_enter Try.func3, Try.ntmps3
    go_wp2_with fail
    refine (apply_any _ _ sE e1 sI i1 _ ?_ ?_).mono ?_
    · repeat (first | apply BoolAt.alloc | exact h1)
    · repeat (first | apply IntAt.alloc | exact h2)
    rintro r w' ⟨rfl, k1, k2, k3, k4, k5, rfl⟩
    go_wp2_with fail
    refine (apply_any _ _ e1 e2 i1 i2 _ ?_ ?_).mono ?_
    · repeat (first | apply BoolAt.alloc | exact h3)
    · repeat (first | apply IntAt.alloc | exact h4)
    rintro r w' ⟨rfl, l1, l2, l3, l4, l5, rfl⟩
    go_wp2_with fail
    refine (apply_any _ _ sE e2 sI i2 _ ?_ ?_).mono ?_
    · repeat (first | apply BoolAt.alloc | exact hmE)
    · repeat (first | apply IntAt.alloc | exact hmI)
    rintro r w' ⟨rfl, m1, m2, m3, m4, m5, rfl⟩
    go_wp2_with fail
    refine (apply_any _ _ sE sE sI sI _ ?_ ?_).mono ?_
    · exact .inl ⟨rfl, rfl⟩
    · exact .inl ⟨rfl, rfl⟩
    rintro r w' ⟨rfl, n1, n2, n3, n4, n5, rfl⟩
    go_wp2_with fail
    refine (apply_any _ _ sE tE sI tI _ ?_ ?_).mono ?_
    · refine te_at ?_; simp
    · refine ti_at ?_; simp
    rintro r w' ⟨rfl, q1, q2, q3, q4, q5, rfl⟩
    go_wp2
    go_ret
    refine ⟨rfl, ?_⟩
    repeat (first | apply below_alloc | exact Below.refl _ _)
end Go.Proofs.Qxb6619391a
