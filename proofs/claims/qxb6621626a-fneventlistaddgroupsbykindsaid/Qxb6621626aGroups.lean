/-
  A ROW OF ROWS: [][]int, each inner row the call's own, no two in one block; cloneEvents, cloneInts2.
-/
import Derived.Test.Qxb6621626aClone
namespace Go.Proofs.Qxb6621626a
open Go.RowKit
set_option linter.unusedVariables false

/-- The slice values vs own the numbers gs, one by one, no two in one block. -/
structure Groups (w : World) (B : Nat) (vs : List Value) (gs : List (List Int)) : Prop where
  len : vs.length = gs.length
  own : ∀ (i : Nat) (x : Value) (zs : List Int), vs[i]? = some x → gs[i]? = some zs → Own w B 3 (.int .i64 0) x (nums zs)
  apart : ∀ (i j : Nat) (x y : Value) (k : Nat), vs[i]? = some x → vs[j]? = some y → x.ownBlock = some k → y.ownBlock = some k → i = j

theorem Groups.nil (w : World) (B : Nat) : Groups w B [] [] := ⟨rfl, fun i x zs h => by simp at h, fun i j x y k h => by simp at h⟩

theorem Groups.get {w : World} {B : Nat} {vs : List Value} {gs : List (List Int)} (h : Groups w B vs gs) {i : Nat} {x : Value} (hx : vs[i]? = some x) : ∃ zs, gs[i]? = some zs ∧ Own w B 3 (.int .i64 0) x (nums zs) := by
  have hl : i < gs.length := by rw [← h.len]; exact (List.getElem?_eq_some_iff.1 hx).1
  exact ⟨gs[i], List.getElem?_eq_getElem hl, h.own i x _ hx (List.getElem?_eq_getElem hl)⟩

theorem Groups.lt {w : World} {B : Nat} {vs : List Value} {gs : List (List Int)} (h : Groups w B vs gs) {i k : Nat} {x : Value} (hx : vs[i]? = some x) (hk : x.ownBlock = some k) : B ≤ k ∧ k < w.heap.size := by
  obtain ⟨zs, _, ho⟩ := h.get hx
  exact ho.lt k hk
theorem Groups.row {w : World} {B : Nat} {vs : List Value} {gs : List (List Int)} (h : Groups w B vs gs) {i k : Nat} {x : Value} (hx : vs[i]? = some x) (hk : x.ownBlock = some k) : ∃ cs, w.heap[k]? = some (.cells cs 3 (0, 0)) := by
  obtain ⟨zs, _, ho⟩ := h.get hx
  exact ho.row k hk

theorem Groups.keep {w w' : World} {B : Nat} {vs : List Value} {gs : List (List Int)} (h : Groups w B vs gs) (hk : ∀ (i : Nat) (x : Value) (k : Nat), vs[i]? = some x → x.ownBlock = some k → w'.heap[k]? = w.heap[k]?) : Groups w' B vs gs :=
  ⟨h.len, fun i x zs hx hz => (h.own i x zs hx hz).keep (hk i x · hx), h.apart⟩
theorem Groups.below {w w' : World} {B N : Nat} {vs : List Value} {gs : List (List Int)} (h : Groups w B vs gs) (hb : Below N w w') (hN : w.heap.size ≤ N) : Groups w' B vs gs :=
  h.keep fun i x k hx hk => hb.block k (Nat.lt_of_lt_of_le (h.lt hx hk).2 hN)
theorem Groups.other {w w' : World} {B g : Nat} {e' : TypeId} {cs : Array Value} {vs : List Value} {gs : List (List Int)} (h : Groups w B vs gs) (hg : w.grownBy w' (some g)) (hr : w.heap[g]? = some (.cells cs e' (0, 0))) (hne : 3 ≠ e') : Groups w' B vs gs :=
  h.keep fun i x k hx hk => hg.block k (h.lt hx hk).2 (fun he => by
    simp at he
    subst he
    obtain ⟨c, hc⟩ := h.row hx hk
    rw [hr] at hc
    simp at hc
    exact hne hc.2.symm)
theorem Groups.mono {w : World} {B B' : Nat} {vs : List Value} {gs : List (List Int)} (h : Groups w B vs gs) (hB : B' ≤ B) : Groups w B' vs gs := ⟨h.len, fun i x zs hx hz => (h.own i x zs hx hz).mono hB, h.apart⟩

/-- One row more, in a block that is new. -/
theorem Groups.snoc {w : World} {B N : Nat} {vs : List Value} {gs : List (List Int)} {x : Value} {zs : List Int} (h : Groups w B vs gs) (hN : ∀ (i : Nat) (y : Value) (k : Nat), vs[i]? = some y → y.ownBlock = some k → k < N) (hB : B ≤ N) (hx : Own w N 3 (.int .i64 0) x (nums zs)) : Groups w B (vs ++ [x]) (gs ++ [zs]) := by
  refine ⟨by simp [h.len], ?_, ?_⟩
  · intro i y ys hy hys
    by_cases hi : i < vs.length
    · rw [List.getElem?_append_left hi] at hy
      rw [List.getElem?_append_left (by rw [← h.len]; exact hi)] at hys
      exact h.own i y ys hy hys
    · rw [List.getElem?_append_right (by omega)] at hy
      rw [List.getElem?_append_right (by rw [← h.len]; omega), ← h.len] at hys
      cases hd : i - vs.length with
      | zero =>
        rw [hd] at hy hys
        simp at hy hys
        subst hy; subst hys
        exact hx.mono hB
      | succ q => rw [hd] at hy; simp at hy
  · intro i j y u k hy hu hyk huk
    have key : ∀ (i : Nat) (y : Value), (vs ++ [x])[i]? = some y → y.ownBlock = some k → (vs[i]? = some y ∧ k < N ∧ i < vs.length) ∨ (i = vs.length ∧ N ≤ k) := by
      intro i y hy hk
      by_cases hi : i < vs.length
      · rw [List.getElem?_append_left hi] at hy
        exact .inl ⟨hy, hN i y k hy hk, hi⟩
      · rw [List.getElem?_append_right (by omega)] at hy
        cases hd : i - vs.length with
        | zero =>
          rw [hd] at hy
          simp at hy
          subst hy
          exact .inr ⟨by omega, (hx.lt k hk).1⟩
        | succ q => rw [hd] at hy; simp at hy
    rcases key i y hy hyk with ⟨a1, a2, a3⟩ | ⟨a1, a2⟩ <;> rcases key j u hu huk with ⟨b1, b2, b3⟩ | ⟨b1, b2⟩
    · exact h.apart i j y u k a1 b1 hyk huk
    · omega
    · omega
    · omega

/-- A nil row more. -/
theorem Groups.snocNil {w : World} {B : Nat} {vs : List Value} {gs : List (List Int)} (h : Groups w B vs gs) : Groups w B (vs ++ [.slice none 0 0]) (gs ++ [[]]) := by
  refine ⟨by simp [h.len], ?_, ?_⟩
  · intro i y ys hy hys
    by_cases hi : i < vs.length
    · rw [List.getElem?_append_left hi] at hy
      rw [List.getElem?_append_left (by rw [← h.len]; exact hi)] at hys
      exact h.own i y ys hy hys
    · rw [List.getElem?_append_right (by omega)] at hy
      rw [List.getElem?_append_right (by rw [← h.len]; omega), ← h.len] at hys
      cases hd : i - vs.length with
      | zero =>
        rw [hd] at hy hys
        simp at hy hys
        subst hy; subst hys
        exact Own.nil _ _ _ _
      | succ q => rw [hd] at hy; simp at hy
  · intro i j y u k hy hu hyk huk
    have key : ∀ (i : Nat) (y : Value), (vs ++ [Value.slice none 0 0])[i]? = some y → y.ownBlock = some k → vs[i]? = some y := by
      intro i y hy hk
      by_cases hi : i < vs.length
      · rwa [List.getElem?_append_left hi] at hy
      · rw [List.getElem?_append_right (by omega)] at hy
        cases hd : i - vs.length with
        | zero =>
          rw [hd] at hy
          simp at hy
          subst hy
          simp [Value.ownBlock] at hk
        | succ q => rw [hd] at hy; simp at hy
    exact h.apart i j y u k (key i y hy hyk) (key j u hu huk) hyk huk

/-- One row has been appended to. -/
theorem Groups.grow {w w' : World} {B j : Nat} {vs : List Value} {gs : List (List Int)} {x x' : Value} {zs zs' : List Int} (h : Groups w B vs gs) (hx : vs[j]? = some x) (hz : gs[j]? = some zs)
    (hg : w.grownBy w' x.ownBlock) (hx' : Own w' B 3 (.int .i64 0) x' (nums zs')) (hloc : x'.ownBlock = x.ownBlock ∨ ∃ k, x'.ownBlock = some k ∧ w.heap.size ≤ k) : Groups w' B (vs.set j x') (gs.set j zs') := by
  have hj : j < vs.length := (List.getElem?_eq_some_iff.1 hx).1
  have hj' : j < gs.length := (List.getElem?_eq_some_iff.1 hz).1
  refine ⟨by simp [h.len], ?_, ?_⟩
  · intro i y ys hy hys
    by_cases hi : j = i
    · subst hi
      rw [List.getElem?_set_self hj] at hy
      rw [List.getElem?_set_self hj'] at hys
      simp at hy hys
      subst hy; subst hys
      exact hx'
    · rw [List.getElem?_set_ne hi] at hy hys
      exact (h.own i y ys hy hys).grown hg fun k hk hkx => hi (h.apart j i x y k hx hy hkx.symm hk)
  · intro i q y u k hy hu hyk huk
    have key : ∀ (i : Nat) (y : Value), (vs.set j x')[i]? = some y → y.ownBlock = some k → (i ≠ j ∧ vs[i]? = some y ∧ k < w.heap.size) ∨ (i = j ∧ (x.ownBlock = some k ∨ w.heap.size ≤ k)) := by
      intro i y hy hk
      by_cases hi : j = i
      · subst hi
        rw [List.getElem?_set_self hj] at hy
        simp at hy
        subst hy
        refine .inr ⟨rfl, ?_⟩
        rcases hloc with h1 | ⟨k', h1, h2⟩
        · exact .inl (h1 ▸ hk)
        · rw [hk] at h1; simp at h1; subst h1; exact .inr h2
      · rw [List.getElem?_set_ne hi] at hy
        exact .inl ⟨Ne.symm hi, hy, (h.lt hy hk).2⟩
    rcases key i y hy hyk with ⟨a1, a2, a3⟩ | ⟨a1, a2⟩ <;> rcases key q u hu huk with ⟨b1, b2, b3⟩ | ⟨b1, b2⟩
    · exact h.apart i q y u k a2 b2 hyk huk
    · rcases b2 with b2 | b2
      · exact absurd (h.apart i j y x k a2 hx hyk b2) a1
      · omega
    · rcases a2 with a2 | a2
      · exact absurd (h.apart q j u x k b2 hx huk a2) b1
      · omega
    · omega

/-- A slice of slices that is read: its elements' values vs, each reading as gs has it. -/
def Ints2 (w : World) (v : Value) (vs : List Value) (gs : List (List Int)) : Prop :=
  vs.length = gs.length ∧ (∀ (i : Nat) (x : Value) (zs : List Int), vs[i]? = some x → gs[i]? = some zs → Ints w x zs) ∧
  ∃ a cap, v = .slice a vs.length cap ∧ vs.length ≤ cap ∧ cap ≤ maxLen ∧ (vs = [] ∨ ∃ b off, a = some ⟨b, off, none⟩ ∧ ∀ (i : Nat) (x : Value), vs[i]? = some x → w.cell? ⟨b, off + i, none⟩ = some x)

theorem Ints2.below {w w' : World} {v : Value} {vs : List Value} {gs : List (List Int)} {N : Nat} (h : Ints2 w v vs gs) (hb : Below N w w') (hN : w.heap.size ≤ N) : Ints2 w' v vs gs := by
  obtain ⟨h1, h2, a, cap, h3, h4, h5, h6⟩ := h
  refine ⟨h1, fun i x zs hx hz => (h2 i x zs hx hz).below hb hN, a, cap, h3, h4, h5, h6.imp id ?_⟩
  rintro ⟨b, off, h7, h8⟩
  refine ⟨b, off, h7, fun i x hx => ?_⟩
  have := h8 i x hx
  have hl := World.block_lt_of_cell? _ _ this
  rw [hb.cell (p := ⟨b, off + i, none⟩) (Nat.lt_of_lt_of_le hl hN)]
  exact this

theorem ints2_of {w : World} {B B' : Nat} {v : Value} {vs : List Value} {gs : List (List Int)} (h : Own w B 52 (.slice none 0 0) v vs) (hg : Groups w B' vs gs) : Ints2 w v vs gs := by
  obtain ⟨a, cap, hv, h1, h2, h3⟩ := h.form
  refine ⟨hg.len, fun i x zs hx hz => (hg.own i x zs hx hz).ints, a, cap, hv, h1, h2, ?_⟩
  rcases h3 with ⟨_, h4, _⟩ | ⟨g, rfl, hgb⟩
  · exact .inl h4
  · exact .inr ⟨g, 0, rfl, fun i x hx => by rw [Nat.zero_add]; exact h.cell hgb i _ hx⟩

set_option maxHeartbeats 1000000 in
/-- cloneEvents. -/
theorem cloneEvents_any (v : Value) (xs : List Value) (B : Nat) (w : World) (h : Own w B 39 (.pointer none) v xs) (hz : xs.length ≤ 1048576) (hp : ∀ x ∈ xs, ∃ p, x = .pointer p) :
    Calls Try.prog 29 #[v] w fun e w' => ∃ v', e = .returned v' ∧ Own w' w.heap.size 39 (.pointer none) v' xs ∧ Below w.heap.size w w' := by
  have qn := fun a l c l' c' (w : World) => Lib.run_eql_slice_nil (P := Try.prog) w 56 39 a l c l' c' Try.underlying56
  obtain ⟨a, cap, rfl, hc1, hc2, h3⟩ := h.form
  unfold maxLen at hc2
  rcases h3 with ⟨rfl, rfl, rfl⟩ | ⟨g, rfl, hgb⟩
  · go_enter Try.func29, Try.ntmps29
    go_wp2
    go_ret
    exact ⟨_, rfl, Own.nil _ _ _ _, Below.refl _ _⟩
  · obtain ⟨i0, hi, hz0, hz1, hz2⟩ := info_parts Try.info39
    have hgl := (h.lt g hgb).2
    have hcell := h.cell hgb
    go_enter Try.func29, Try.ntmps29
    go_wp2_with (at_make; refine wpList_make_Blk _ rfl _ _ 56 rfl 39 i0 (.pointer none) 8 Try.underlying56 hi hz0 hz1 hz2 rfl xs.length xs.length (Nat.le_refl _) rfl rfl (by decide) hz ?_; intro w1 hb1 bel1 hs1)
    go_loopw [4] (fun i wr => ∃ k : Nat, k ≤ xs.length ∧ i = .int .i64 k ∧ Blk wr w.heap.size 39 (part (.pointer none) xs k) ∧ Below w.heap.size w wr) (fun i _ => xs.length - (intOf i).toNat)
    case atStart => exact ⟨0, Nat.zero_le _, rfl, by rw [part_zero]; exact hb1, bel1⟩
    case round =>
      obtain ⟨k, hk, rfl, hbk, bel⟩ := hrel
      by_cases hlt : k < xs.length
      · have hg : xs[k]? = some xs[k] := List.getElem?_eq_getElem hlt
        obtain ⟨p, hpk⟩ := hp xs[k] (List.getElem_mem hlt)
        rw [hpk] at hg
        have hcx : wr.cell? ⟨g, k, none⟩ = some (.pointer p) := (bel.cell (p := ⟨g, k, none⟩) hgl).trans (hcell k _ hg)
        have hpl : (part (.pointer none) xs k).length = xs.length := part_length _ _ _ hk
        have hco : wr.cell? ⟨w.heap.size, k, none⟩ = some ((part (.pointer none) xs k)[k]'(by omega)) := by rw [hbk.cell]; exact List.getElem?_eq_getElem _
        have hfo : wr.frozen? ⟨w.heap.size, k, none⟩ = false := hbk.free k
        generalize (part (.pointer none) xs k)[k]'(by omega) = old at hco
        have R := hbk.set k (.pointer p)
        rw [part_set _ _ _ _ hg] at R
        have RB := Blk.setBelow bel (Nat.le_refl w.heap.size) k (.pointer p)
        clear hbk hpl hg hpk
        go_wp2
        go_roundw
        case rel => exact ⟨k + 1, by omega, by go_num, R, RB⟩
        case measure => simp [intOf]; omega
      · obtain rfl : k = xs.length := by omega
        rw [part_all] at hbk
        go_wp2
        go_ret
        exact ⟨_, rfl, hbk.own (Nat.le_refl _) (by simp [maxLen]; omega) _, bel⟩

/-- The outer row after k rounds: k inner rows, the rest nil. -/
theorem blk_nils {vs : List Value} {n : Nat} (k : Nat) (hk : k < n) (hl : vs.length = k) (x : Value) : (vs ++ List.replicate (n - k) (Value.slice none 0 0)).set k x = (vs ++ [x]) ++ List.replicate (n - (k + 1)) (.slice none 0 0) := by
  rw [List.set_append_right _ _ (by omega), hl, Nat.sub_self, show n - k = (n - (k + 1)) + 1 by omega, List.replicate_succ, List.set_cons_zero, List.append_assoc, List.singleton_append]

theorem take_snoc2 (gs : List (List Int)) (k : Nat) (h : k < gs.length) : gs.take k ++ [gs[k]] = gs.take (k + 1) := (List.take_succ_eq_append_getElem h).symm

set_option maxHeartbeats 1000000 in
/-- cloneInts2. -/
theorem cloneInts2_any (v : Value) (vs : List Value) (gs : List (List Int)) (w : World) (h : Ints2 w v vs gs) (hz : vs.length ≤ 1048576) (hzz : ∀ g ∈ gs, g.length ≤ 1048576) :
    Calls Try.prog 26 #[v] w fun e w' => ∃ v', e = .returned v' ∧ ∃ vs', Own w' w.heap.size 52 (.slice none 0 0) v' vs' ∧ Groups w' w.heap.size vs' gs ∧ Below w.heap.size w w' := by
  have qn := fun a l c l' c' (w : World) => Lib.run_eql_slice_nil (P := Try.prog) w 51 52 a l c l' c' Try.underlying51
  obtain ⟨hlen, hins, a, cap, rfl, hc1, hc2, h3⟩ := h
  unfold maxLen at hc2
  cases a with
  | none =>
    have hvs : vs = [] := by
      rcases h3 with h | ⟨b, off, h, _⟩
      · exact h
      · cases h
    subst hvs
    obtain rfl : gs = [] := List.eq_nil_of_length_eq_zero hlen.symm
    go_enter Try.func26, Try.ntmps26
    go_wp2
    go_ret
    exact ⟨_, rfl, [], Own.nil _ _ _ _, Groups.nil _ _, Below.refl _ _⟩
  | some ad =>
    obtain ⟨i0, hi, hz0, hz1, hz2⟩ := info_parts Try.info52
    rcases h3 with rfl | ⟨b, off, had, hcell⟩
    · obtain rfl : gs = [] := List.eq_nil_of_length_eq_zero hlen.symm
      go_enter Try.func26, Try.ntmps26
      go_wp2_with (at_make; refine wpList_make_Blk _ rfl _ _ 51 rfl 52 i0 (.slice none 0 0) 24 Try.underlying51 hi hz0 hz1 hz2 rfl 0 0 (Nat.le_refl _) rfl rfl (by decide) (by omega) ?_; intro w1 hb1 bel1 hs1)
      go_loopw [4] (fun i wr => i = .int .i64 0 ∧ wr = w1) (fun _ _ => 0)
      case atStart => exact ⟨rfl, rfl⟩
      case round =>
        obtain ⟨rfl, rfl⟩ := hrel
        go_wp2
        go_ret
        exact ⟨_, rfl, [], hb1.own (Nat.le_refl _) (by simp) _, Groups.nil _ _, bel1⟩
    · simp only [Option.some.injEq] at had
      subst had
      have HL : Hid (vs.length = gs.length) := hlen
      clear hlen
      go_enter Try.func26, Try.ntmps26
      go_wp2_with (at_make; refine wpList_make_Blk _ rfl _ _ 51 rfl 52 i0 (.slice none 0 0) 24 Try.underlying51 hi hz0 hz1 hz2 rfl vs.length vs.length (Nat.le_refl _) rfl rfl (by decide) hz ?_; intro w1 hb1 bel1 hs1)
      go_loopw [4] (fun i wr => ∃ (k : Nat) (us : List Value), k ≤ vs.length ∧ i = .int .i64 k ∧ us.length = k ∧ Blk wr w.heap.size 52 (us ++ List.replicate (vs.length - k) (.slice none 0 0)) ∧ Groups wr (w.heap.size + 1) us (gs.take k) ∧ Below w.heap.size w wr) (fun i _ => vs.length - (intOf i).toNat)
      case atStart => exact ⟨0, [], Nat.zero_le _, rfl, rfl, by simpa using hb1, Groups.nil _ _, bel1⟩
      case round =>
        obtain ⟨k, us, hk, rfl, hus, hbk, hgr, bel⟩ := hrel
        have HU : Hid (us.length = k) := hus
        clear hus
        by_cases hlt : k < vs.length
        · have hg : vs[k]? = some vs[k] := List.getElem?_eq_getElem hlt
          have hltg : k < gs.length := by have := HL.out; omega
          have hgg : gs[k]? = some gs[k] := List.getElem?_eq_getElem hltg
          have hl := World.block_lt_of_cell? _ _ (hcell k _ hg)
          have hcx : wr.cell? ⟨b, off + k, none⟩ = some vs[k] := (bel.cell (p := ⟨b, off + k, none⟩) hl).trans (hcell k _ hg)
          have hin : Ints wr vs[k] gs[k] := (hins k _ _ hg hgg).below bel (Nat.le_refl _)
          obtain ⟨xa, xc, hxv, _, _, _⟩ := id hin
          have hcl := cloneInt_any vs[k] gs[k] wr hin (hzz _ (List.getElem_mem hltg))
          rw [hxv] at hcx hcl
          clear hin hxv
          have hsz := bel.size
          have hB1 := hbk.lt
          have hlk : k < (us ++ List.replicate (vs.length - k) (Value.slice none 0 0)).length := by have := HU.out; simp; omega
          have haft : ∀ w2, Below wr.heap.size wr w2 → (∃ old, w2.cell? ⟨w.heap.size, k, none⟩ = some old) ∧ w2.frozen? ⟨w.heap.size, k, none⟩ = false := fun w2 bel2 => by
            have hb2 := hbk.below bel2 hB1
            exact ⟨⟨_, by rw [hb2.cell]; exact List.getElem?_eq_getElem hlk⟩, hb2.free k⟩
          have fin : ∀ (w2 : World) (x' : Value), Own w2 wr.heap.size 3 (.int .i64 0) x' (nums gs[k]) → Below wr.heap.size wr w2 →
              Blk (w2.setCell ⟨w.heap.size, k, none⟩ x') w.heap.size 52 ((us ++ [x']) ++ List.replicate (vs.length - (k + 1)) (.slice none 0 0)) ∧ Groups (w2.setCell ⟨w.heap.size, k, none⟩ x') (w.heap.size + 1) (us ++ [x']) (gs.take (k + 1)) ∧ Below w.heap.size w (w2.setCell ⟨w.heap.size, k, none⟩ x') := fun w2 x' hx' bel2 => by
            have hb2 := hbk.below bel2 hB1
            have hset := hb2.set k x'
            rw [blk_nils k hlt HU.out x'] at hset
            have hgrown : w2.grownBy (w2.setCell ⟨w.heap.size, k, none⟩ x') (some w.heap.size) := ⟨rfl, rfl, rfl, by simp [World.setCell], fun j hj hne => Below.heap_setCell _ _ _ _ (fun e => hne (by simp [e]))⟩
            have g2 := ((hgr.below bel2 (Nat.le_refl _)).snoc (N := wr.heap.size) (fun i y j hy hj => (hgr.lt hy hj).2) (by omega) hx')
            rw [take_snoc2 _ _ hltg] at g2
            exact ⟨hset, g2.other hgrown hb2 (by decide), (bel.trans (bel2.mono hsz)).setCell (p := ⟨w.heap.size, k, none⟩) (Nat.le_refl _) _⟩
          have hcl2 : Calls Try.prog 27 #[.slice xa gs[k].length xc] wr fun e w' => ∃ ya yc, e = .returned (.slice ya gs[k].length yc) ∧ Own w' wr.heap.size 3 (.int .i64 0) (.slice ya gs[k].length yc) (nums gs[k]) ∧ Below wr.heap.size wr w' := by
            refine hcl.mono ?_
            rintro e w2 ⟨x', rfl, hx', bel2⟩
            obtain ⟨ya, yc, hyv, _, _, _⟩ := hx'.form
            simp only [nums, List.length_map] at hyv
            subst hyv
            exact ⟨ya, yc, rfl, hx', bel2⟩
          clear hcl hbk hgr hlk hg hgg hl
          go_wp2_with (go_at_call 27; refine hcl2.mono ?_; rintro e w2 ⟨ya, yc, rfl, hx', bel2⟩; obtain ⟨⟨old, hco⟩, hfo⟩ := haft w2 bel2)
          have R := fin w2 _ hx' bel2
          go_roundw
          case rel => exact ⟨k + 1, us ++ [.slice ya gs[k].length yc], by omega, by go_num, by have := HU.out; simp; omega, R.1, R.2.1, R.2.2⟩
          case measure => simp [intOf]; omega
        · have hk' : k = vs.length := by omega
          have hus := HU.out
          have hlen := HL.out
          clear HU HL
          subst hk'
          rw [List.take_of_length_le (by omega)] at hgr
          simp only [Nat.sub_self, List.replicate_zero, List.append_nil] at hbk
          go_wp2
          go_ret
          exact ⟨_, rfl, us, by rw [← hus]; exact hbk.own (Nat.le_refl _) (by simp [maxLen]; omega) _, hgr.mono (by omega), bel⟩
end Go.Proofs.Qxb6621626a
