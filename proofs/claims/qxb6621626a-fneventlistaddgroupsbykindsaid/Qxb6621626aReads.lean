/-
  WHAT ONLY READS: indexOfInt, eqInt, groupIs, zzBytes.
-/
import Derived.Test.Qxb6621626aGroups
import Derived.Deep.QuietTactic
import Derived.BigQuiet
namespace Go.Proofs.Qxb6621626a
open Go.RowKit
set_option linter.unusedVariables false

/-- Where the first x stands, -1 where none does. -/
def idx (x : Int) : List Int → Int
  | [] => -1
  | z :: zs => if z = x then 0 else if idx x zs < 0 then -1 else idx x zs + 1
theorem idx_ge (x : Int) (zs : List Int) : -1 ≤ idx x zs ∧ idx x zs < zs.length ∧ (0 ≤ idx x zs ↔ x ∈ zs) := by
  induction zs with
  | nil => simp [idx]
  | cons z zs ih =>
    obtain ⟨h1, h2, h3⟩ := ih
    unfold idx
    by_cases h : z = x
    · simp [h]
    · simp only [h, if_false, List.mem_cons, List.length_cons, Ne.symm (Ne.intro h : z ≠ x), false_or, ← h3]
      split <;> omega
theorem idx_at {x : Int} {zs : List Int} {k : Nat} (hk : zs[k]? = some x) (hno : ∀ j, j < k → zs[j]? ≠ some x) : idx x zs = k := by
  induction zs generalizing k with
  | nil => simp at hk
  | cons z zs ih =>
    unfold idx
    cases k with
    | zero => simp at hk; simp [hk]
    | succ k =>
      have h0 : z ≠ x := fun e => hno 0 (by omega) (by simp [e])
      have := ih (k := k) (by simpa using hk) (fun j hj => by have := hno (j + 1) (by omega); simpa using this)
      simp only [h0, if_false, this]
      rw [if_neg (by omega)]; omega
theorem idx_none {x : Int} {zs : List Int} (hno : ∀ j, j < zs.length → zs[j]? ≠ some x) : idx x zs = -1 := by
  obtain ⟨h1, _, h3⟩ := idx_ge x zs
  have : ¬ x ∈ zs := fun hm => by
    obtain ⟨j, hj, he⟩ := List.getElem_of_mem hm
    exact hno j hj (by rw [List.getElem?_eq_getElem hj, he])
  have : ¬ 0 ≤ idx x zs := fun h => this (h3.1 h)
  omega

set_option maxHeartbeats 400000 in
/-- indexOfInt. -/
theorem indexOf_any (v : Value) (zs : List Int) (x : Int) (w : World) (h : Ints w v zs) (hz : zs.length ≤ 1048576) :
    Calls Try.prog 33 #[v, .int .i64 x] w fun e w' => e = .returned (.int .i64 (idx x zs)) ∧ w = w' := by
  obtain ⟨a, cap, rfl, hc1, hc2, h3⟩ := h
  unfold maxLen at hc2
  go_enter Try.func33, Try.ntmps33
  go_wp2
  go_loop [5] (fun i => ∃ k : Nat, k ≤ zs.length ∧ i = .int .i64 k ∧ ∀ j, j < k → zs[j]? ≠ some x) (fun i => zs.length - (intOf i).toNat)
  case atStart => exact ⟨0, Nat.zero_le _, rfl, fun j hj => by omega⟩
  case round =>
    obtain ⟨k, hk, rfl, hno⟩ := hrel
    have HN : Hid (∀ j, j < k → zs[j]? ≠ some x) := hno
    clear hno
    by_cases hlt : k < zs.length
    · rcases h3 with rfl | ⟨b, off, rfl, hcell⟩
      · simp at hlt
      · have hcx : w.cell? ⟨b, off + k, none⟩ = some (.int .i64 zs[k]) := hcell k _ (List.getElem?_eq_getElem hlt)
        have HC : Hid (zs[k]? = some zs[k]) := List.getElem?_eq_getElem hlt
        clear hcell
        generalize zs[k] = y at hcx HC
        by_cases hyx : y = x
        · subst hyx
          go_wp2
          go_ret
          exact ⟨by rw [idx_at HC.out HN.out]; rfl, rfl⟩
        · have hq : (y == x) = false := by simpa using hyx
          go_wp2
          go_round
          case rel => exact ⟨k + 1, by omega, by go_num, fun j hj => by
            by_cases hjk : j < k
            · exact HN.out j hjk
            · obtain rfl : j = k := by omega
              rw [HC.out]; simpa using hyx⟩
          case measure => simp [intOf]; omega
    · have hn := idx_none (x := x) (zs := zs) (fun j hj => HN.out j (by omega))
      clear HN
      go_wp2
      go_ret
      exact ⟨rfl, rfl⟩

set_option maxHeartbeats 400000 in
/-- eqInt, where the two read alike. -/
theorem eqInt_true (v u : Value) (zs : List Int) (w : World) (h : Ints w v zs) (h' : Ints w u zs) (hz : zs.length ≤ 1048576) :
    Calls Try.prog 32 #[v, u] w fun e w' => e = .returned (.bool true) ∧ ∃ q, w.drewN q = w' := by
  obtain ⟨a, cap, rfl, hc1, hc2, h3⟩ := h
  obtain ⟨a', cap', rfl, hc1', hc2', h3'⟩ := h'
  unfold maxLen at hc2 hc2'
  go_enter Try.func32, Try.ntmps32
  go_wp2
  go_loopw [5] (fun i wr => ∃ k q : Nat, k ≤ zs.length ∧ i = .int .i64 k ∧ wr = w.drewN q) (fun i _ => zs.length - (intOf i).toNat)
  case atStart => exact ⟨0, 0, Nat.zero_le _, rfl, rfl⟩
  case round =>
    obtain ⟨k, q, hk, rfl, rfl⟩ := hrel
    by_cases hlt : k < zs.length
    · rcases h3 with rfl | ⟨b, off, rfl, hcell⟩
      · simp at hlt
      rcases h3' with rfl | ⟨b', off', rfl, hcell'⟩
      · simp at hlt
      have hcx : w.cell? ⟨b, off + k, none⟩ = some (.int .i64 zs[k]) := hcell k _ (List.getElem?_eq_getElem hlt)
      have hcy : w.cell? ⟨b', off' + k, none⟩ = some (.int .i64 zs[k]) := hcell' k _ (List.getElem?_eq_getElem hlt)
      clear hcell hcell'
      generalize zs[k] = y at hcx hcy
      have hl : (k : Int) < (zs.length : Int) := by omega
      go_wp2
      go_quiet (fail)
      go_wp2
      go_roundw
      case rel => exact ⟨k + 1, _, by omega, by go_num, rfl⟩
      case measure => simp [intOf]; omega
    · go_wp2
      go_ret
      exact ⟨rfl, _, rfl⟩

/-- The places n + i (i below k) at which A holds id, in rising order. -/
def posTo (n id : Int) (A : List Int) : Nat → List Int
  | 0 => []
  | k + 1 => posTo n id A k ++ if A[k]? = some id then [n + k] else []
theorem posTo_hit {n id : Int} {A : List Int} {k : Nat} (h : A[k]? = some id) : posTo n id A (k + 1) = posTo n id A k ++ [n + k] := by simp [posTo, h]
theorem posTo_miss {n id : Int} {A : List Int} {k : Nat} (h : A[k]? ≠ some id) : posTo n id A (k + 1) = posTo n id A k := by simp [posTo, h]
theorem posTo_le (n id : Int) (A : List Int) (k : Nat) : (posTo n id A k).length ≤ k := by
  induction k with
  | zero => simp [posTo]
  | succ k ih => unfold posTo; split <;> simp <;> omega
theorem posTo_more (n id : Int) (A : List Int) (k m : Nat) (h : k ≤ m) : ∃ r, posTo n id A m = posTo n id A k ++ r := by
  induction m with
  | zero => obtain rfl : k = 0 := by omega
            exact ⟨[], by simp⟩
  | succ m ih =>
    by_cases hk : k = m + 1
    · subst hk; exact ⟨[], by simp⟩
    · obtain ⟨r, hr⟩ := ih (by omega)
      exact ⟨r ++ if A[m]? = some id then [n + m] else [], by rw [posTo, hr, List.append_assoc]⟩
theorem posTo_get {n id : Int} {A : List Int} {k m : Nat} (hk : k < m) (h : A[k]? = some id) (pre : List Int) : (pre ++ posTo n id A m)[pre.length + (posTo n id A k).length]? = some (n + k) := by
  obtain ⟨r, hr⟩ := posTo_more n id A (k + 1) m (by omega)
  rw [hr, posTo_hit h, List.getElem?_append_right (by omega), Nat.add_sub_cancel_left, List.append_assoc, List.getElem?_append_right (by omega)]
  simp

set_option maxHeartbeats 1000000 in
/-- groupIs, where got is the prefix and behind it the places of id. -/
theorem groupIs_true (vg vp va : Value) (pre A : List Int) (id n : Int) (w : World) (hg : Ints w vg (pre ++ posTo n id A A.length)) (hp : Ints w vp pre) (ha : Ints w va A) (hb : pre.length + A.length ≤ 2097152) (hn0 : 0 ≤ n) (hn1 : n ≤ 1048576) :
    Calls Try.prog 34 #[vg, vp, .int .i64 id, va, .int .i64 n] w fun e w' => e = .returned (.bool true) ∧ ∃ q, w.drewN q = w' := by
  obtain ⟨ag, cg, rfl, hg1, hg2, hg3⟩ := hg
  obtain ⟨ap, cp, rfl, hp1, hp2, hp3⟩ := hp
  obtain ⟨aa, ca, rfl, ha1, ha2, ha3⟩ := ha
  unfold maxLen at hg2 hp2 ha2
  have hpl := posTo_le n id A A.length
  obtain ⟨L, HL⟩ : ∃ L, L = pre ++ posTo n id A A.length := ⟨_, rfl⟩
  rw [← HL] at hg1 hg3 ⊢
  have hLl : pre.length ≤ L.length := by rw [HL]; simp
  have hLu : L.length ≤ pre.length + A.length := by rw [HL]; simp; omega
  have hLi : ∀ i, i < pre.length → L[i]? = pre[i]? := fun i hi => by rw [HL, List.getElem?_append_left hi]
  have hLp : Hid (∀ k, k < A.length → A[k]? = some id → L[pre.length + (posTo n id A k).length]? = some (n + k)) := fun k hk h => by rw [HL]; exact posTo_get hk h pre
  have hLe : Hid (L.length = pre.length + (posTo n id A A.length).length) := by rw [HL]; exact List.length_append
  have HLi : Hid (∀ i, i < pre.length → L[i]? = pre[i]?) := hLi
  clear HL hLi
  have hd0 : decide (L.length < pre.length) = false := by simp; omega
  have hd1 : decide ((L.length : Int) < (pre.length : Int)) = false := by simp; omega
  go_enter Try.func34, Try.ntmps34
  go_wp2
  go_loopw [11] (fun i wr => ∃ k q : Nat, k ≤ pre.length ∧ i = .int .i64 k ∧ wr = w.drewN q) (fun i _ => pre.length - (intOf i).toNat)
  case atStart => exact ⟨0, 0, Nat.zero_le _, rfl, rfl⟩
  case round =>
    obtain ⟨k, q, hk, rfl, rfl⟩ := hrel
    by_cases hlt : k < pre.length
    · rcases hg3 with h0 | ⟨b, off, rfl, hcell⟩
      · rw [h0] at hLl; simp only [List.length_nil] at hLl; omega
      rcases hp3 with rfl | ⟨b', off', rfl, hcell'⟩
      · simp at hlt
      have hcy : w.cell? ⟨b', off' + k, none⟩ = some (.int .i64 pre[k]) := hcell' k _ (List.getElem?_eq_getElem hlt)
      have hcx : w.cell? ⟨b, off + k, none⟩ = some (.int .i64 pre[k]) := hcell k _ (by rw [HLi.out k hlt]; exact List.getElem?_eq_getElem hlt)
      clear hcell hcell'
      generalize pre[k] = y at hcx hcy
      have hl : (k : Int) < (pre.length : Int) := by omega
      have hl' : (k : Int) < (L.length : Int) := by omega
      go_wp2
      go_quiet (fail)
      go_wp2
      go_roundw
      case rel => exact ⟨k + 1, _, by omega, by go_num, rfl⟩
      case measure => simp [intOf]; omega
    · go_wp2
      go_loopw [12, 13] (fun p i wr => ∃ k P : Nat, k ≤ A.length ∧ i = .int .i64 k ∧ p = .int .i64 P ∧ P = pre.length + (posTo n id A k).length ∧ wr = w.drewN q) (fun _ i _ => A.length - (intOf i).toNat)
      case atStart => exact ⟨0, pre.length, Nat.zero_le _, rfl, rfl, by simp [posTo], rfl⟩
      case round =>
        obtain ⟨j, P, hj, rfl, rfl, hP, rfl⟩ := hrel
        have hpj := posTo_le n id A j
        have hP1 : P ≤ 2097152 := by omega
        have HP : Hid (P = pre.length + (posTo n id A j).length) := hP
        clear hP hpj
        by_cases hjt : j < A.length
        · rcases ha3 with rfl | ⟨b2, off2, rfl, hcell2⟩
          · simp at hjt
          have hca : w.cell? ⟨b2, off2 + j, none⟩ = some (.int .i64 A[j]) := hcell2 j _ (List.getElem?_eq_getElem hjt)
          have HA : Hid (A[j]? = some A[j]) := List.getElem?_eq_getElem hjt
          clear hcell2
          generalize A[j] = y at hca HA
          by_cases hy : y = id
          · subst hy
            have hat := hLp.out j hjt HA.out
            rw [← HP.out] at hat
            have hlt2 : P < L.length := (List.getElem?_eq_some_iff.1 hat).1
            have hstep : Hid (posTo n y A (j + 1) = posTo n y A j ++ [n + j]) := posTo_hit HA.out
            rcases hg3 with rfl | ⟨b, off, rfl, hcell⟩
            · simp at hlt2
            have hcg : w.cell? ⟨b, off + P, none⟩ = some (.int .i64 (n + j)) := hcell _ _ hat
            clear hcell hat hp3
            go_wp2
            go_roundw
            case rel => exact ⟨j + 1, P + 1, by omega, by go_num, by go_num, by rw [hstep.out, HP.out]; simp; omega, by first | rfl | trivial⟩
            case measure => simp [intOf]; omega
          · have hq : (y == id) = false := by simpa using hy
            have hstep : Hid (posTo n id A (j + 1) = posTo n id A j) := posTo_miss (by rw [HA.out]; simpa using hy)
            clear hg3 hp3 hy
            go_wp2
            go_roundw
            case rel => exact ⟨j + 1, P, by omega, by go_num, rfl, by rw [hstep.out]; exact HP.out, by first | rfl | trivial⟩
            case measure => simp [intOf]; omega
        · obtain rfl : j = A.length := by omega
          have he : P = L.length := by rw [HP.out, hLe.out]
          subst he
          clear hg3 hp3 ha3
          go_wp2
          go_ret
          exact ⟨by simp, _, rfl⟩
end Go.Proofs.Qxb6621626a
