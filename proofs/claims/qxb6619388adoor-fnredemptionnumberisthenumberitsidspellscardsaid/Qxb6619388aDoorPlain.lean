/-
  THE PLAIN LAW: no Go in sight. What 'redemptionNumber' answers ('red'), what 'zzSpells' asks ('Spells'), and that the one is the other's inverse on 1 .. 9999.
-/
import Derived.Lib.Atoi
import Derived.Lib.Strings
namespace Go.Proofs.Qxb6619388aDoor

/-- What redemptionNumber answers. -/
def red (L : List UInt8) : Int × Bool :=
  if Lib.hasPrefix L [114, 45, 98] = true ∧ L.length = 7 then
    match Lib.atoi (L.drop 3) with
    | some n => if n < 1 then (0, false) else (n, true)
    | none => (0, false)
  else (0, false)

/-- What zzSpells asks, of seven bytes. -/
def Spells7 (b0 b1 b2 b3 b4 b5 b6 : Nat) (c : Int) : Prop :=
  b0 = 114 ∧ b1 = 45 ∧ b2 = 98 ∧ (b4 : Int) = 48 + c / 100 % 10 ∧ (b5 : Int) = 48 + c / 10 % 10 ∧ (b6 : Int) = 48 + c % 10 ∧
    ((b3 : Int) = 48 + c / 1000 % 10 ∨ (c / 1000 % 10 = 0 ∧ b3 = 43))

def Spells (L : List UInt8) (c : Int) : Prop :=
  ∃ b0 b1 b2 b3 b4 b5 b6 : UInt8, L = [b0, b1, b2, b3, b4, b5, b6] ∧ Spells7 b0.toNat b1.toNat b2.toNat b3.toNat b4.toNat b5.toNat b6.toNat c

theorem u8eq (b : UInt8) (n : Nat) (h : n < 256) : (b == UInt8.ofNat n) = decide (b.toNat = n) := by
  rw [Bool.eq_iff_iff]
  simp only [beq_iff_eq, decide_eq_true_eq, ← UInt8.toNat_inj]
  rw [UInt8.toNat_ofNat', Nat.mod_eq_of_lt h]

theorem pre7 (b0 b1 b2 b3 b4 b5 b6 : UInt8) : Lib.hasPrefix [b0, b1, b2, b3, b4, b5, b6] [114, 45, 98] = true ↔ b0.toNat = 114 ∧ b1.toNat = 45 ∧ b2.toNat = 98 := by
  simp [Lib.hasPrefix, List.isPrefixOf, ← UInt8.toNat_inj]
  omega

/-- A digit's number, none at what is no digit. -/
def dig (n : Nat) : Option Nat := if 48 ≤ n ∧ n ≤ 57 then some (n - 48) else none
theorem dig_some {n d : Nat} (h : dig n = some d) : n = 48 + d ∧ d ≤ 9 := by
  unfold dig at h; split at h
  · simp at h; omega
  · cases h

theorem dec1 (acc : Nat) (b : UInt8) (r : List UInt8) : Lib.decFrom acc (b :: r) = (dig b.toNat).bind fun d => Lib.decFrom (acc * 10 + d) r := by
  have e : Lib.digitVal b = dig b.toNat := rfl
  rw [← e, Lib.decFrom]
  cases Lib.digitVal b <;> rfl
theorem dec0 (acc : Nat) : Lib.decFrom acc [] = some acc := rfl

theorem atoi4 (b0 b1 b2 b3 : UInt8) : Lib.atoi [b0, b1, b2, b3] =
    if b0.toNat = 45 then ((dig b1.toNat).bind fun x => (dig b2.toNat).bind fun y => (dig b3.toNat).bind fun z => some (-((x * 100 + y * 10 + z : Nat) : Int)))
    else if b0.toNat = 43 then ((dig b1.toNat).bind fun x => (dig b2.toNat).bind fun y => (dig b3.toNat).bind fun z => some ((x * 100 + y * 10 + z : Nat) : Int))
    else ((dig b0.toNat).bind fun u => (dig b1.toNat).bind fun x => (dig b2.toNat).bind fun y => (dig b3.toNat).bind fun z => some ((u * 1000 + x * 100 + y * 10 + z : Nat) : Int)) := by
  have e1 : (b0 == 45) = decide (b0.toNat = 45) := u8eq b0 45 (by omega)
  have e2 : (b0 == 43) = decide (b0.toNat = 43) := u8eq b0 43 (by omega)
  simp only [Lib.atoi, e1, e2, Lib.decNat, List.isEmpty_cons, dec1, dec0, decide_eq_true_eq, Bool.false_eq_true, if_false]
  have a3 : ∀ x y z : Nat, ((0 * 10 + x) * 10 + y) * 10 + z = x * 100 + y * 10 + z := by intro x y z; omega
  have a4 : ∀ u x y z : Nat, (u * 100 + x * 10 + y) * 10 + z = u * 1000 + x * 100 + y * 10 + z := by intro u x y z; omega
  simp only [a3, a4]
  split
  · cases dig b1.toNat <;> cases dig b2.toNat <;> cases dig b3.toNat <;> rfl
  · split
    · cases dig b1.toNat <;> cases dig b2.toNat <;> cases dig b3.toNat <;> rfl
    · cases dig b0.toNat <;> cases dig b1.toNat <;> cases dig b2.toNat <;> cases dig b3.toNat <;> rfl

theorem len7 {L : List UInt8} (h : L.length = 7) : ∃ b0 b1 b2 b3 b4 b5 b6, L = [b0, b1, b2, b3, b4, b5, b6] := by
  match L, h with
  | [b0, b1, b2, b3, b4, b5, b6], _ => exact ⟨b0, b1, b2, b3, b4, b5, b6, rfl⟩

theorem dig_of {n d : Nat} (h : n = 48 + d) (hd : d ≤ 9) : dig n = some d := by
  unfold dig; rw [if_pos (by omega)]; congr 1; omega

/-- ████ ONE WAY: what spells c is answered by c. -/
theorem red_of_spells {L : List UInt8} {c : Int} (h1 : 1 ≤ c) (h2 : c ≤ 9999) (h : Spells L c) : red L = (c, true) := by
  obtain ⟨b0, b1, b2, b3, b4, b5, b6, rfl, g0, g1, g2, g4, g5, g6, g3⟩ := h
  unfold red
  rw [if_pos ⟨(pre7 ..).2 ⟨g0, g1, g2⟩, rfl⟩]
  simp only [List.drop_succ_cons, List.drop_zero]
  rw [atoi4]
  obtain ⟨x, hx⟩ : ∃ x : Nat, (x : Int) = c / 100 % 10 := ⟨(c / 100 % 10).toNat, by omega⟩
  obtain ⟨y, hy⟩ : ∃ x : Nat, (x : Int) = c / 10 % 10 := ⟨(c / 10 % 10).toNat, by omega⟩
  obtain ⟨z, hz⟩ : ∃ x : Nat, (x : Int) = c % 10 := ⟨(c % 10).toNat, by omega⟩
  obtain ⟨u, hu⟩ : ∃ x : Nat, (x : Int) = c / 1000 % 10 := ⟨(c / 1000 % 10).toNat, by omega⟩
  rw [dig_of (n := b4.toNat) (d := x) (by omega) (by omega), dig_of (n := b5.toNat) (d := y) (by omega) (by omega), dig_of (n := b6.toNat) (d := z) (by omega) (by omega)]
  rcases g3 with g3 | ⟨g3, g3'⟩
  · rw [if_neg (by omega), if_neg (by omega), dig_of (n := b3.toNat) (d := u) (by omega) (by omega)]
    simp only [Option.bind_some]
    have e : ((u * 1000 + x * 100 + y * 10 + z : Nat) : Int) = c := by omega
    rw [e, if_neg (by omega)]
  · rw [if_neg (by omega), if_pos g3']
    simp only [Option.bind_some]
    have e : ((x * 100 + y * 10 + z : Nat) : Int) = c := by omega
    rw [e, if_neg (by omega)]

theorem bind3 {f g h : Option Nat} {F : Nat → Nat → Nat → Int} {n : Int} (e : (f.bind fun x => g.bind fun y => h.bind fun z => some (F x y z)) = some n) : ∃ x y z, f = some x ∧ g = some y ∧ h = some z ∧ F x y z = n := by
  cases f <;> cases g <;> cases h <;> simp at e
  exact ⟨_, _, _, rfl, rfl, rfl, e⟩

/-- ████ THE OTHER WAY: what is answered is spelt. -/
theorem spells_of_red {L : List UInt8} {k : Int} (h : red L = (k, true)) : 1 ≤ k ∧ k ≤ 9999 ∧ Spells L k := by
  unfold red at h
  split at h
  case isFalse => simp at h
  case isTrue hp =>
    obtain ⟨b0, b1, b2, b3, b4, b5, b6, rfl⟩ := len7 hp.2
    obtain ⟨g0, g1, g2⟩ := (pre7 ..).1 hp.1
    simp only [List.drop_succ_cons, List.drop_zero] at h
    split at h
    case h_2 => simp at h
    case h_1 n hn =>
      split at h
      case isTrue => simp at h
      case isFalse hge =>
        simp at h
        subst h
        rw [atoi4] at hn
        split at hn
        case isTrue =>
          obtain ⟨x, y, z, _, _, _, e⟩ := bind3 (F := fun x y z => -((x * 100 + y * 10 + z : Nat) : Int)) hn
          omega
        case isFalse =>
          split at hn
          case isTrue h43 =>
            obtain ⟨x, y, z, hx, hy, hz, e⟩ := bind3 (F := fun x y z => ((x * 100 + y * 10 + z : Nat) : Int)) hn
            obtain ⟨ex, lx⟩ := dig_some hx
            obtain ⟨ey, ly⟩ := dig_some hy
            obtain ⟨ez, lz⟩ := dig_some hz
            refine ⟨by omega, by omega, b0, b1, b2, b3, b4, b5, b6, rfl, g0, g1, g2, by omega, by omega, by omega, .inr ⟨by omega, h43⟩⟩
          case isFalse =>
            cases hu : dig b3.toNat with
            | none => rw [hu] at hn; simp at hn
            | some u =>
              rw [hu] at hn
              simp only [Option.bind_some] at hn
              obtain ⟨x, y, z, hx, hy, hz, e⟩ := bind3 (F := fun x y z => ((u * 1000 + x * 100 + y * 10 + z : Nat) : Int)) hn
              obtain ⟨ex, lx⟩ := dig_some hx
              obtain ⟨ey, ly⟩ := dig_some hy
              obtain ⟨ez, lz⟩ := dig_some hz
              obtain ⟨eu, lu⟩ := dig_some hu
              refine ⟨by omega, by omega, b0, b1, b2, b3, b4, b5, b6, rfl, g0, g1, g2, by omega, by omega, by omega, .inl (by omega)⟩

/-- The answer is (0, false) or (k, true). -/
theorem red_false {L : List UInt8} (h : (red L).2 = false) : red L = (0, false) := by
  unfold red at h ⊢
  split
  · rename_i hp
    rw [if_pos hp] at h
    cases ha : Lib.atoi (L.drop 3) with
    | none => rfl
    | some n =>
      rw [ha] at h
      simp only at h ⊢
      split at h
      · rename_i h1; rw [if_pos h1]
      · cases h
  · rfl
end Go.Proofs.Qxb6619388aDoor
