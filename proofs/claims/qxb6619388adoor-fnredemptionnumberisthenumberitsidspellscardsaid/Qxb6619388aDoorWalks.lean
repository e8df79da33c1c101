import Derived.Test.Qxb6619388aDoorRows
import Derived.Test.Qxb6619388aDoorShelf
import Derived.Test.Qxb6619388aDoorPlain
import Derived.WalkKit
import Derived.WalkSpells
import Derived.StillTactics
import Derived.Laws.Pointers
import Derived.RowKit3
import Derived.Below
import Derived.WalkLawsBesides
import Derived.Stop.IfaceNil
import Derived.Lib.AtoiErrMem
namespace Go.Proofs.Qxb6619388aDoor
open Go.RowKit

/-- zzSpells at a string that has not seven bytes. -/
theorem spells_short (s : ByteArray) (c : Int) (w : World) (h : ((s.size : Int) == 7) = false) :
    Calls Tryd.prog 6 #[.string s, .int .i64 c] w fun e w' => e = .returned (.bool false) ∧ w = w' := by
  go_enter Tryd.func6, Tryd.ntmps6
  go_wp2
  go_ret
  exact ⟨rfl, rfl⟩

theorem spells_iff (s : ByteArray) (c : Int) (h : s.size = 7) : Spells s.data.toList c ↔ Spells7 (s[0]'(by omega)).toNat (s[1]'(by omega)).toNat (s[2]'(by omega)).toNat (s[3]'(by omega)).toNat (s[4]'(by omega)).toNat (s[5]'(by omega)).toNat (s[6]'(by omega)).toNat c := by
  obtain ⟨⟨l⟩⟩ := s
  have hl : l.length = 7 := h
  obtain ⟨b0, b1, b2, b3, b4, b5, b6, rfl⟩ := len7 hl
  constructor
  · rintro ⟨c0, c1, c2, c3, c4, c5, c6, e, g⟩
    simp only [List.cons.injEq, and_true] at e
    obtain ⟨rfl, rfl, rfl, rfl, rfl, rfl, rfl⟩ := e
    exact g
  · intro g
    exact ⟨b0, b1, b2, b3, b4, b5, b6, rfl, g⟩

set_option maxHeartbeats 1000000 in
theorem spells_any (s : ByteArray) (c : Int) (w : World) (h : s.size = 7) (h1 : 1 ≤ c) (h2 : c ≤ 9999) :
    Calls Tryd.prog 6 #[.string s, .int .i64 c] w fun e w' => ∃ b, e = .returned (.bool b) ∧ (b = true ↔ Spells s.data.toList c) ∧ w = w' := by
  have HS : Hid (Spells s.data.toList c ↔ Spells7 (s[0]'(by omega)).toNat (s[1]'(by omega)).toNat (s[2]'(by omega)).toNat (s[3]'(by omega)).toNat (s[4]'(by omega)).toNat (s[5]'(by omega)).toNat (s[6]'(by omega)).toNat c) := spells_iff s c h
  go_enter Tryd.func6, Tryd.ntmps6
  go_wp2
  all_goals
    go_ret
    refine ⟨_, rfl, ?_, rfl⟩
    rw [HS.out]
    clear HS
    try simp only [bne_iff_ne, ne_eq, bne_eq_false_iff_eq, beq_iff_eq, beq_eq_false_iff_ne] at *
    unfold Spells7
    first
      | exact iff_of_false (by decide) (by omega)
      | exact iff_of_true trivial (by omega)
      | omega

/-- What the two results are. -/
def two (x : Int × Bool) : Value := .tuple #[.int .i64 x.1, .bool x.2]

theorem cut_any (s : ByteArray) (t : List UInt8) (b : Bool) (w : World) (ht : Lib.trimPrefix s.data.toList [114, 45, 98] = t) (hb : Lib.hasPrefix s.data.toList [114, 45, 98] = b) :
    Calls Tryd.prog 8 #[.string s, .string ⟨#[114, 45, 98]⟩] w fun e w' => e = .returned (.tuple #[.string ⟨t.toArray⟩, .bool b]) ∧ w = w' := by
  refine (Tryd.strings_CutPrefix s ⟨#[114, 45, 98]⟩ w).mono fun e w' ⟨he, hw⟩ => ?_
  rw [← ht, ← hb]
  exact ⟨he, hw.symm⟩

theorem red_none {L : List UInt8} (h : ¬ (Lib.hasPrefix L [114, 45, 98] = true ∧ L.length = 7)) : red L = (0, false) := by
  unfold red; rw [if_neg h]
theorem red_err {L : List UInt8} (h : Lib.atoi (L.drop 3) = none) : red L = (0, false) := by
  unfold red; rw [h]; split <;> rfl
theorem red_low {L : List UInt8} {n : Int} (h : Lib.atoi (L.drop 3) = some n) (hn : n < 1) : red L = (0, false) := by
  unfold red; rw [h]; simp only [if_pos hn]; split <;> rfl
theorem red_ok {L : List UInt8} {n : Int} (hp : Lib.hasPrefix L [114, 45, 98] = true ∧ L.length = 7) (h : Lib.atoi (L.drop 3) = some n) (hn : ¬ n < 1) : red L = (n, true) := by
  unfold red; rw [h, if_pos hp]; simp only [if_neg hn]

set_option maxHeartbeats 1000000 in
theorem redemption_any (s : ByteArray) (ev : Value) (w : World) (hv : w.cell? ⟨0, 0, none⟩ = some ev) (hev : ev = .nilIface ∨ ∃ te pe, ev = .iface te pe) :
    Calls Tryd.prog 7 #[.string s] w fun e w' => e = .returned (two (red s.data.toList)) ∧ Below w.heap.size w w' := by
  by_cases hp : Lib.hasPrefix s.data.toList [114, 45, 98] = true
  case neg =>
    have hr := red_none (L := s.data.toList) (fun h => hp h.1)
    rw [hr]
    have hc := cut_any s _ false w rfl (by simpa using hp)
    generalize Lib.trimPrefix s.data.toList [114, 45, 98] = t at hc
    clear hp hr
    go_enter Tryd.func7, Tryd.ntmps7
    go_wp2_with (go_at_call 8; refine hc.mono ?_; rintro e w' ⟨rfl, rfl⟩)
    go_ret2
    exact ⟨rfl, Below.refl _ _⟩
  have ht : Lib.trimPrefix s.data.toList [114, 45, 98] = s.data.toList.drop 3 := by simp [Lib.trimPrefix, hp]
  have hc := cut_any s _ true w ht hp
  by_cases hl : s.data.toList.length = 7
  case neg =>
    have hr := red_none (L := s.data.toList) (fun h => hl h.2)
    rw [hr]
    have h3 : 3 ≤ s.data.toList.length := by
      have : ([114, 45, 98] : List UInt8) <+: s.data.toList := List.isPrefixOf_iff_prefix.1 hp
      simpa using this.length_le
    have hl4 : (((s.data.toList.drop 3).length : Int) == 4) = false := by
      simp only [List.length_drop, beq_eq_false_iff_ne, ne_eq]; omega
    generalize s.data.toList.drop 3 = t at hc hl4
    clear hp hr h3 hl ht
    go_enter Tryd.func7, Tryd.ntmps7
    go_wp2_with (go_at_call 8; refine hc.mono ?_; rintro e w' ⟨rfl, rfl⟩)
    go_ret2
    exact ⟨rfl, Below.refl _ _⟩
  have hl4 : (((s.data.toList.drop 3).length : Int) == 4) = true := by
    simp only [List.length_drop, beq_iff_eq]; omega
  have hz : (⟨(s.data.toList.drop 3).toArray⟩ : ByteArray).size ≤ 18 := by
    show (s.data.toList.drop 3).toArray.size ≤ 18
    simp only [List.size_toArray, List.length_drop]; omega
  cases ha : Lib.atoi (s.data.toList.drop 3) with
  | none =>
    rw [red_err ha]
    have hA := Tryd.strconv_Atoi_err ⟨(s.data.toList.drop 3).toArray⟩ hz (by simpa using ha) ev w hv hev
    generalize s.data.toList.drop 3 = t at hc hl4 hA
    clear hp hl ht ha hz
    go_enter Tryd.func7, Tryd.ntmps7
    go_wp2_with (first | (go_at_call 8; refine hc.mono ?_; rintro e w' ⟨rfl, rfl⟩) | (go_at_call 9; refine hA.mono ?_; rintro e w' ⟨N, rfl, _, _, hb⟩))
    go_ret2
    exact ⟨rfl, hb⟩
  | some n =>
    have hA := Tryd.strconv_Atoi ⟨(s.data.toList.drop 3).toArray⟩ n hz (by simpa using ha) w
    by_cases hn : n < 1
    · rw [red_low ha hn]
      generalize s.data.toList.drop 3 = t at hc hl4 hA
      clear hp hl ht ha hz
      go_enter Tryd.func7, Tryd.ntmps7
      go_wp2_with (first | (go_at_call 8; refine hc.mono ?_; rintro e w' ⟨rfl, rfl⟩) | (go_at_call 9; refine hA.mono ?_; rintro e w' ⟨rfl, t, rfl⟩))
      go_ret2
      exact ⟨rfl, Lib.bytesWorld_below _ _ _⟩
    · rw [red_ok ⟨hp, hl⟩ ha hn]
      generalize s.data.toList.drop 3 = t at hc hl4 hA
      clear hp hl ht ha hz
      go_enter Tryd.func7, Tryd.ntmps7
      go_wp2_with (first | (go_at_call 8; refine hc.mono ?_; rintro e w' ⟨rfl, rfl⟩) | (go_at_call 9; refine hA.mono ?_; rintro e w' ⟨rfl, t, rfl⟩))
      go_ret2
      exact ⟨rfl, Lib.bytesWorld_below _ _ _⟩
end Go.Proofs.Qxb6619388aDoor
