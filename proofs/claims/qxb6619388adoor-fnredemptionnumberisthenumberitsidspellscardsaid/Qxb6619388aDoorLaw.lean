import Derived.Test.Qxb6619388aDoorWalks
import Derived.LoopTactic
namespace Go.Proofs.Qxb6619388aDoor
open Go.RowKit

/-- zzSpells at c, where the bytes spell no number. -/
theorem spells_no (s : ByteArray) (c : Int) (w : World) (h1 : 1 ≤ c) (h2 : c ≤ 9999) (hr : red s.data.toList = (0, false)) :
    Calls Tryd.prog 6 #[.string s, .int .i64 c] w fun e w' => e = .returned (.bool false) ∧ w = w' := by
  by_cases h7 : s.size = 7
  · refine (spells_any s c w h7 h1 h2).mono fun e w' ⟨b, he, hb, hw⟩ => ?_
    cases b with
    | false => exact ⟨he, hw⟩
    | true =>
      have := red_of_spells h1 h2 (hb.1 rfl)
      rw [hr] at this
      simp at this
  · exact spells_short s c w (by simp only [beq_eq_false_iff_ne, ne_eq]; omega)

theorem size7_of_red {s : ByteArray} {k : Int} (hr : red s.data.toList = (k, true)) : s.size = 7 := by
  obtain ⟨_, _, b0, b1, b2, b3, b4, b5, b6, h, _⟩ := spells_of_red hr
  have := congrArg List.length h
  simpa using this

/-- zzSpells at c, where the bytes spell k: false below k .. -/
theorem spells_below (s : ByteArray) (c k : Int) (w : World) (h1 : 1 ≤ c) (h2 : c < k) (hr : red s.data.toList = (k, true)) :
    Calls Tryd.prog 6 #[.string s, .int .i64 c] w fun e w' => e = .returned (.bool false) ∧ w = w' := by
  obtain ⟨k1, k2, _⟩ := spells_of_red hr
  refine (spells_any s c w (size7_of_red hr) h1 (by omega)).mono fun e w' ⟨b, he, hb, hw⟩ => ?_
  cases b with
  | false => exact ⟨he, hw⟩
  | true =>
    have := red_of_spells h1 (by omega) (hb.1 rfl)
    rw [hr] at this
    simp at this
    omega
/-- .. and true at k. -/
theorem spells_at (s : ByteArray) (k : Int) (w : World) (hr : red s.data.toList = (k, true)) :
    Calls Tryd.prog 6 #[.string s, .int .i64 k] w fun e w' => e = .returned (.bool true) ∧ w = w' := by
  obtain ⟨k1, k2, hs⟩ := spells_of_red hr
  refine (spells_any s k w (size7_of_red hr) k1 k2).mono fun e w' ⟨b, he, hb, hw⟩ => ?_
  rw [hb.2 hs] at he
  exact ⟨he, hw⟩

theorem zz_any (s : ByteArray) (w : World) (hs : (s.size : Int) ≤ 1048576) :
    Calls Tryd.prog 4 #[.string s] w fun e w' => e = .returned (.bool true) ∧ w = w' := by
  have h0 : (0 : Int) ≤ (s.size : Int) := by omega
  have h1 : ¬ ((1048576 : Int) < (s.size : Int)) := by omega
  go_enter Tryd.func4, Tryd.ntmps4
  go_wp2
  go_ret
  exact ⟨rfl, rfl⟩
theorem zz_long (s : ByteArray) (w : World) (hs : (1048576 : Int) < (s.size : Int)) :
    Calls Tryd.prog 4 #[.string s] w fun e w' => e = .returned (.bool false) ∧ w = w' := by
  go_enter Tryd.func4, Tryd.ntmps4
  go_wp2
  go_ret
  exact ⟨rfl, rfl⟩

theorem shim_any (s : ByteArray) (ev : Value) (w : World) (hv : w.cell? ⟨0, 0, none⟩ = some ev) (hev : ev = .nilIface ∨ ∃ te pe, ev = .iface te pe) (k : Int) (b : Bool) (hr : red s.data.toList = (k, b)) :
    Calls Tryd.prog 5 #[.string s] w fun e w' => e = .returned (.tuple #[.int .i64 k, .bool b]) ∧ Below w.heap.size w w' := by
  have hR := redemption_any s ev w hv hev
  rw [hr] at hR
  clear hr
  unfold two at hR
  simp only at hR
  go_enter Tryd.func5, Tryd.ntmps5
  go_wp2_with (go_at_call 7; refine hR.mono ?_; rintro e w' ⟨rfl, hb⟩)
  go_ret2
  exact ⟨rfl, hb⟩

set_option maxHeartbeats 1000000 in
theorem law_any (s : ByteArray) (ev : Value) (w : World) (hv : w.cell? ⟨0, 0, none⟩ = some ev) (hev : ev = .nilIface ∨ ∃ te pe, ev = .iface te pe) :
    Calls Tryd.prog 3 #[.string s] w fun e w' => e = .returned (.bool true) ∧ Below w.heap.size w w' := by
  by_cases hl : (1048576 : Int) < (s.size : Int)
  · go_enter Tryd.func3, Tryd.ntmps3
    go_wp2_with (go_at_call 4; refine (zz_long s _ hl).mono ?_; rintro e w' ⟨rfl, rfl⟩)
    go_ret
    exact ⟨rfl, Below.refl _ _⟩
  · cases hb : (red s.data.toList).2 with
    | false =>
      have hr := red_false hb
      have hR := shim_any s ev w hv hev 0 false hr
      have HR := fun (c : Int) (h1 : 1 ≤ c) (h2 : c ≤ 9999) (wx : World) => spells_no s c wx h1 h2 hr
      clear hb hr hv hev
      go_enter Tryd.func3, Tryd.ntmps3
      go_wp2_with (first | (go_at_call 4; refine (zz_any s _ (by omega)).mono ?_; rintro e w' ⟨rfl, rfl⟩) | (go_at_call 5; refine hR.mono ?_; rintro e w' ⟨rfl, bel⟩))
      clear hR
      go_loop [5, 6] (fun a c => a = .int .i64 0 ∧ ∃ k : Int, 1 ≤ k ∧ k ≤ 10000 ∧ c = .int .i64 k) (fun _ c => (10000 - intOf c).toNat)
      case atStart => exact ⟨rfl, 1, by omega, by omega, rfl⟩
      case round =>
        obtain ⟨rfl, k, k1, k2, rfl⟩ := hrel
        by_cases hk : k ≤ 9999
        · go_wp2_with (go_at_call 6; refine (HR k k1 hk _).mono ?_; rintro e w' ⟨rfl, rfl⟩)
          go_round
          case rel => exact ⟨rfl, k + 1, by omega, by omega, rfl⟩
          case measure => simp [intOf]; omega
        · go_wp2
          go_ret
          exact ⟨rfl, bel⟩
    | true =>
      obtain ⟨K, hr⟩ : ∃ K, red s.data.toList = (K, true) := ⟨(red s.data.toList).1, by rw [← hb]⟩
      obtain ⟨K1, K2, _⟩ := spells_of_red hr
      have hR := shim_any s ev w hv hev K true hr
      have HB := fun (c : Int) (h1 : 1 ≤ c) (h2 : c < K) (wx : World) => spells_below s c K wx h1 h2 hr
      have HA := fun (wx : World) => spells_at s K wx hr
      clear hb hr hv hev
      go_enter Tryd.func3, Tryd.ntmps3
      go_wp2_with (first | (go_at_call 4; refine (zz_any s _ (by omega)).mono ?_; rintro e w' ⟨rfl, rfl⟩) | (go_at_call 5; refine hR.mono ?_; rintro e w' ⟨rfl, bel⟩))
      clear hR
      go_loop [5, 6] (fun a c => a = .int .i64 0 ∧ ∃ k : Int, 1 ≤ k ∧ k ≤ K ∧ c = .int .i64 k) (fun _ c => (10000 - intOf c).toNat)
      case atStart => exact ⟨rfl, 1, by omega, by omega, rfl⟩
      case round =>
        obtain ⟨rfl, k, k1, k2, rfl⟩ := hrel
        by_cases hk : k < K
        · go_wp2_with (go_at_call 6; refine (HB k k1 hk _).mono ?_; rintro e w' ⟨rfl, rfl⟩)
          go_round
          case rel => exact ⟨rfl, k + 1, by omega, by omega, rfl⟩
          case measure => simp [intOf]; omega
        · obtain rfl : k = K := by omega
          have hz : (k == 0) = false := by simp; omega
          go_wp2_with (go_at_call 6; refine (HA _).mono ?_; rintro e w' ⟨rfl, rfl⟩)
          go_ret
          exact ⟨rfl, bel⟩
end Go.Proofs.Qxb6619388aDoor
