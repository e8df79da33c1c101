import Derived.Test.Qxb6619588aFmtRows
import Derived.WalkKit
import Derived.WalkSpells
import Derived.StillTactics
import Derived.Laws.Pointers
import Derived.RowKit3
import Derived.Below
import Derived.WalkLawsBesides
import Derived.Stop.CallBack
import Derived.Stop.IfaceNil
namespace Go.Proofs.Qxb6619588aFmt
open Go.RowKit Go.Extern.Stop Go.Stop Go.Extern

theorem call9 (args : Array Value) (w : World) : (callFunc 9 args).run Tryf.prog w = ((FmtStop.errorf #[9, 35] #[27] args).run Tryf.prog w).andThen fun v w' => .ok (.value v) w' :=
  run_callFunc_extern Tryf.func9 (by kernel_rfl) (by kernel_rfl) (by kernel_rfl) (by kernel_rfl) args w
theorem guardOk (name : String) (w : World) : (FmtStop.guard name).run Tryf.prog w = .ok () w := by kernel_rfl
theorem fmtA (w : World) : (FmtDoors.printed ⟨#[114, 111, 117, 110, 100, 105, 110, 103, 32, 37, 113, 32, 105, 115, 32, 110, 101, 105, 116, 104, 101, 114, 32, 37, 113, 32, 110, 111, 114, 32, 37, 113]⟩ 3).run Tryf.prog w = .ok [(0, 113, false), (1, 113, false), (2, 113, false)] w := by kernel_rfl
theorem fmtB (w : World) : (FmtDoors.printed ⟨#[100, 101, 99, 105, 109, 97, 108, 115, 32, 37, 100, 32, 111, 117, 116, 115, 105, 100, 101, 32, 48, 32, 116, 111, 32, 37, 100]⟩ 2).run Tryf.prog w = .ok [(0, 100, false), (1, 100, false)] w := by kernel_rfl
def shape23 : List UInt8 := 12 :: FmtStop.pack "terms.Mode".toUTF8.data.toList
def shape21 : List UInt8 := 4 :: FmtStop.pack "int32".toUTF8.data.toList
theorem op23 (name : String) (x : ByteArray) (w : World) : (FmtStop.operand name true 113 false (.iface 23 (.string x))).run Tryf.prog w = .ok (shape23, FmtStop.pack x.data.toList) w := by kernel_rfl
theorem op21 (name : String) (x : Int) (w : World) : (FmtStop.operand name true 100 false (.iface 21 (.int .i32 x))).run Tryf.prog w = .ok (shape21, Go.Extern.Stop.digits 8 (x % 2 ^ 64).toNat) w := by kernel_rfl
theorem ptr32 (w : World) : (FmtStop.ptrTo "errors.errorString").run Tryf.prog w = .ok 32 w := by kernel_rfl
theorem elem32 (w : World) : (elemOf 32).run Tryf.prog w = .ok 34 w := by kernel_rfl
attribute [local go_sem] call9 guardOk fmtA fmtB op23 op21 ptr32 elem32

def hu : List UInt8 := [104, 97, 108, 102, 45, 117, 112]
def tr : List UInt8 := [116, 114, 117, 110, 99, 97, 116, 101]
/-- Is the mode known? -/
def known (L : List UInt8) : Bool := L == hu || L == tr
/-- Is the rule accepted at the ceiling m? -/
def okB (L : List UInt8) (d m : Int) : Bool := known L && decide (0 ≤ d) && decide (d ≤ m)
/-- What an error value looks like: nil where the rule is accepted, else a new error. -/
def Answers (b : Bool) (v : Value) : Prop := (b = true ∧ v = .nilIface) ∨ (b = false ∧ ∃ a, v = .iface 32 (.pointer (some a)))
theorem below_alloc {a w : World} {o : Obj} (h : Below a.heap.size a w) : Below a.heap.size a (w.alloc o) := h.alloc h.size o

theorem ok_true {L : List UInt8} {d m : Int} (h : L = hu ∨ L = tr) (h1 : 0 ≤ d) (h2 : d ≤ m) : okB L d m = true := by
  unfold okB known; rcases h with h | h <;> simp [h, h1, h2]
theorem ok_empty {L : List UInt8} {d m : Int} (h : L.isEmpty = true) : okB L d m = false := by
  cases L with
  | nil => simp [okB, known, hu, tr]
  | cons a l => simp at h
theorem ok_out {L : List UInt8} {d m : Int} (h : d < 0 ∨ m < d) : okB L d m = false := by
  unfold okB; rcases h with h | h
  · have : ¬ 0 ≤ d := by omega
    simp [this]
  · have : ¬ d ≤ m := by omega
    simp [this]
theorem ok_other {L : List UInt8} {d m : Int} (h : (!L == hu) = true ∧ (!L == tr) = true) : okB L d m = false := by
  unfold okB known; simp at h; simp [h.1, h.2]
theorem ok_one {L : List UInt8} (h : (!L == hu) = false ∨ (!L == tr) = false) : L = hu ∨ L = tr := by
  simpa using h

set_option maxHeartbeats 1000000 in
theorem check_any (F : Interp) (d m : Int) (s : ByteArray) (b : Bool) (w : World) (hF : F.answers w.tape) (HB : Hid (okB s.toList d m = b)) :
    Calls Tryf.prog 5 #[.agg #[.int .i32 d, .string s], .int .i32 m] w fun e w' => ∃ v, e = .returned v ∧ Answers b v ∧ Below w.heap.size w w' := by
  have hF' := answers_open hF
  go_enter Tryf.func5, Tryf.ntmps5
  go_wp2
  all_goals
    go_ret
    have hb := HB.out
    refine ⟨_, rfl, ?_, ?_⟩
    case refine_2 => repeat (first | apply below_alloc | apply Below.drew | exact Below.refl _ _)
    first
      | exact .inr ⟨by rw [← hb]; exact ok_empty ‹_›, _, rfl⟩
      | exact .inr ⟨by rw [← hb]; exact ok_out (by omega), _, rfl⟩
      | exact .inr ⟨by rw [← hb]; exact ok_other ‹_›, _, rfl⟩
      | exact .inl ⟨by rw [← hb]; exact ok_true (.inl ‹_›) (by omega) (by omega), rfl⟩
      | exact .inl ⟨by rw [← hb]; exact ok_true (ok_one ‹_›) (by omega) (by omega), rfl⟩

theorem zz_any (d m : Int) (s : ByteArray) (w : World) (hs : (s.size : Int) ≤ 65536) :
    Calls Tryf.prog 4 #[.int .i32 d, .string s, .int .i32 m] w fun e w' => e = .returned (.bool true) ∧ w = w' := by
  have h0 : (0 : Int) ≤ (s.size : Int) := by omega
  have h1 : ¬ ((1048576 : Int) < (s.size : Int)) := by omega
  go_enter Tryf.func4, Tryf.ntmps4
  go_wp2
  go_ret
  exact ⟨rfl, rfl⟩
theorem zz_long (d m : Int) (s : ByteArray) (w : World) (hs : (65536 : Int) < (s.size : Int)) (hm : s.size ≤ maxLen) :
    Calls Tryf.prog 4 #[.int .i32 d, .string s, .int .i32 m] w fun e w' => ∃ b, e = .returned (.bool b) ∧ w = w' := by
  unfold maxLen at hm
  go_enter Tryf.func4, Tryf.ntmps4
  go_wp2
  all_goals go_ret
  all_goals exact ⟨_, rfl, rfl⟩

theorem known_any (s : ByteArray) (w : World) : Calls Tryf.prog 6 #[.string s] w fun e w' => e = .returned (.bool (known s.toList)) ∧ w = w' := by
  go_enter Tryf.func6, Tryf.ntmps6
  go_wp2
  all_goals go_ret
  · exact ⟨by simp [known, hu, *], rfl⟩
  · refine ⟨?_, rfl⟩
    have h : (s.toList == hu) = false := ‹_›
    simp [known, h, tr]

set_option maxHeartbeats 1000000 in
theorem law_any (F : Interp) (d m : Int) (s : ByteArray) (w : World) (hF : F.answers w.tape) (hm : s.size ≤ maxLen) :
    Calls Tryf.prog 3 #[.int .i32 d, .string s, .int .i32 m] w fun e w' => e = .returned (.bool true) ∧ Below w.heap.size w w' := by
  by_cases hl : (65536 : Int) < (s.size : Int)
  · go_enter Tryf.func3, Tryf.ntmps3
    go_wp2_with (go_at_call 4; refine (zz_long d m s _ hl hm).mono ?_; rintro e w' ⟨b, rfl, rfl⟩)
    all_goals go_ret
    all_goals exact ⟨rfl, Below.refl _ _⟩
  · obtain ⟨b1, H1⟩ : ∃ b, okB s.toList d m = b := ⟨_, rfl⟩
    obtain ⟨b2, H2⟩ : ∃ b, okB s.toList d d = b := ⟨_, rfl⟩
    obtain ⟨k, HK⟩ : ∃ b, known s.toList = b := ⟨_, rfl⟩
    have h1 : Hid (okB s.toList d m = b1) := H1
    have h2 : Hid (okB s.toList d d = b2) := H2
    have hk : Hid (known s.toList = k) := HK
    clear H1 H2 HK
    go_enter Tryf.func3, Tryf.ntmps3
    go_wp2_with fail
    refine (zz_any d m s _ (by omega)).mono ?_
    rintro e w' ⟨rfl, rfl⟩
    go_wp2_with fail
    refine (check_any F d m s b1 _ (by exact hF) h1).mono ?_
    rintro e w1 ⟨v1, rfl, ha1, bel1⟩
    have c0 : w1.cell? ⟨w.heap.size, 0, none⟩ = some (.int .i32 d) := by rw [bel1.cell (p := ⟨w.heap.size, 0, none⟩) (by simp)]; simp [go_sem]
    have c1 : w1.cell? ⟨w.heap.size, 1, none⟩ = some (.string s) := by rw [bel1.cell (p := ⟨w.heap.size, 1, none⟩) (by simp)]; simp [go_sem]
    have hF1 : F.answers w1.tape := by rw [bel1.tape]; exact hF
    have B1 : Below w.heap.size w w1 := (below_alloc (Below.refl _ w)).trans (bel1.mono (by simp))
    go_wp2_with fail
    refine (check_any F d d s b2 _ (by exact hF1) h2).mono ?_
    rintro e w2 ⟨v2, rfl, ha2, bel2⟩
    have B2 : Below w.heap.size w w2 := B1.trans (bel2.mono B1.size)
    have HKN : known s.toList = k := hk.out
    have H1 : okB s.toList d m = b1 := h1.out
    have H2 : okB s.toList d d = b2 := h2.out
    have kc : Calls Tryf.prog 6 #[.string s] w2 fun e w' => e = .returned (.bool k) ∧ w2 = w' := by rw [← HKN]; exact known_any s w2
    unfold okB at H1 H2
    rw [HKN] at H1 H2
    clear h1 h2 hk HKN
    rcases ha1 with ⟨rfl, rfl⟩ | ⟨rfl, a1, rfl⟩ <;> rcases ha2 with ⟨rfl, rfl⟩ | ⟨rfl, a2, rfl⟩
    · -- accepted at both
      simp at H1
      obtain ⟨⟨rfl, hd⟩, hdm⟩ := H1
      clear H2
      go_wp2_with (go_at_call 6; refine kc.mono ?_; rintro e w' ⟨rfl, rfl⟩)
      go_ret
      exact ⟨rfl, B2⟩
    · -- accepted at m, refused at its own: not so
      exfalso
      simp at H1 H2
      exact absurd H2 (by simp [H1.1.1]; omega)
    · -- refused at m, accepted at its own
      simp at H2
      obtain ⟨rfl, hd⟩ := H2
      have hdm : ¬ d ≤ m := by intro h; simp [hd, h] at H1
      clear H1
      go_wp2_with (go_at_call 6; refine kc.mono ?_; rintro e w' ⟨rfl, rfl⟩)
      go_ret
      exact ⟨by simpa using hdm, B2⟩
    · -- refused at both
      cases k with
      | false =>
        clear H1 H2
        go_wp2_with (go_at_call 6; refine kc.mono ?_; rintro e w' ⟨rfl, rfl⟩)
        go_ret
        exact ⟨rfl, B2⟩
      | true =>
        have hd : ¬ 0 ≤ d := by intro h; simp [h] at H2
        clear H1 H2
        go_wp2_with (go_at_call 6; refine kc.mono ?_; rintro e w' ⟨rfl, rfl⟩)
        go_ret
        exact ⟨rfl, B2⟩
end Go.Proofs.Qxb6619588aFmt
