/-
  zzBytes: whatever it answers, it returns; where it answers true every inner slice is short.
-/
import Derived.Test.Qxb6621626aReads
namespace Go.Proofs.Qxb6621626a
open Go.RowKit
set_option linter.unusedVariables false

def ZZPost (gs : List (List Int)) (w : World) (e : Ending) (w' : World) : Prop := ∃ b, e = .returned (.bool b) ∧ (b = true → ∀ g ∈ gs, g.length ≤ 1048576) ∧ w = w'
theorem ZZPost.no {gs : List (List Int)} {w : World} : ZZPost gs w (.returned (.bool false)) w := ⟨false, rfl, (fun h => by cases h), rfl⟩
theorem ZZPost.yes {gs : List (List Int)} {w : World} (h : ∀ g ∈ gs, g.length ≤ 1048576) : ZZPost gs w (.returned (.bool true)) w := ⟨true, rfl, fun _ => h, rfl⟩

set_option maxHeartbeats 1000000 in
theorem zzBytes_any (a0 a2 a3 a4 a5 : Option Addr) (n0 c0 n2 c2 n3 c3 n4 c4 n5 c5 : Nat) (vk : Value) (vs : List Value) (gs : List (List Int)) (w : World)
    (hk : Ints2 w vk vs gs) (h0 : n0 ≤ maxLen) (h2 : n2 ≤ maxLen) (h3 : n3 ≤ maxLen) (h4 : n4 ≤ maxLen) (h5 : n5 ≤ maxLen) :
    Calls Try.prog 25 #[.slice a0 n0 c0, vk, .slice a2 n2 c2, .slice a3 n3 c3, .slice a4 n4 c4, .slice a5 n5 c5] w fun e w' => ZZPost gs w e w' := by
  obtain ⟨hlen, hins, a, cap, rfl, hc1, hc2, hcl⟩ := hk
  unfold maxLen at *
  have HL : Hid (vs.length = gs.length) := hlen
  clear hlen
  go_enter Try.func25, Try.ntmps25
  go_wp2
  all_goals (try (go_ret; exact ZZPost.no))
  go_loop [13, 14] (fun z i => ∃ (k : Nat) (y : Int), k ≤ vs.length ∧ i = .int .i64 k ∧ z = .int .i64 y ∧ 0 ≤ y ∧ y ≤ 1048576 ∧ ∀ j (g : List Int), j < k → gs[j]? = some g → g.length ≤ 1048576) (fun _ i => vs.length - (intOf i).toNat)
  case atStart => exact ⟨0, _, Nat.zero_le _, rfl, rfl, by omega, by omega, fun j g hj => by omega⟩
  case round =>
    obtain ⟨k, y, hk, rfl, rfl, hy0, hy1, hall⟩ := hrel
    have HA : Hid (∀ j (g : List Int), j < k → gs[j]? = some g → g.length ≤ 1048576) := hall
    clear hall
    by_cases hlt : k < vs.length
    · rcases hcl with rfl | ⟨b, off, rfl, hcell⟩
      · simp at hlt
      have hg : vs[k]? = some vs[k] := List.getElem?_eq_getElem hlt
      have hltg : k < gs.length := by have := HL.out; omega
      have hgg : gs[k]? = some gs[k] := List.getElem?_eq_getElem hltg
      obtain ⟨xa, xc, hxv, hx1, hx2, _⟩ := hins k _ _ hg hgg
      have hcx : w.cell? ⟨b, off + k, none⟩ = some vs[k] := hcell k _ hg
      rw [hxv] at hcx
      have HG : Hid (gs[k]? = some gs[k]) := hgg
      unfold maxLen at hx2
      generalize gs[k] = g at *
      clear hgg hg hxv hcell hins
      go_wp2
      all_goals (try (go_ret; exact ZZPost.no))
      go_round
      case rel => exact ⟨k + 1, _, by omega, by go_num, rfl, by omega, by omega, fun j g' hj hj' => by
        by_cases hjk : j < k
        · exact HA.out j g' hjk hj'
        · obtain rfl : j = k := by omega
          rw [HG.out] at hj'
          simp at hj'
          subst hj'
          omega⟩
      case measure => simp [intOf]; omega
    · have fin : ∀ g ∈ gs, g.length ≤ 1048576 := fun g hg => by
        obtain ⟨j, hj, he⟩ := List.getElem_of_mem hg
        have := HL.out
        exact HA.out j g (by omega) (by rw [List.getElem?_eq_getElem hj, he])
      clear HA hins hcl
      go_wp2
      all_goals (try (go_ret; exact ZZPost.no))
      all_goals (go_ret; exact ZZPost.yes fin)
end Go.Proofs.Qxb6621626a
