/-
  THE LAW: its row of new kinds.
-/
import Derived.Test.Qxb6621626aMid
import Derived.Deep.RegionWith
namespace Go.Proofs.Qxb6621626a
open Go.RowKit
set_option linter.unusedVariables false

set_option maxRecDepth 100000 in
set_option maxHeartbeats 4000000 in
theorem ph36 {R : Ending → World → Prop} (w : World) (N q n m cA cK ck ci : Nat) (aA aK ak ai : Option Addr) (gs G : List (List Int)) (ids I AK : List Int) (vM : Value) (s0 s3 s4 s6 s7 s8 s9 s10 s11 s12 s13 s14 s15 s16 s20 s21 s22 s23 s24 s25 s26 s27 s28 s29 s32 s33 s34 s44 s45 s46 s47 s48 s49 s50 s51 s52 s53 s54 s55 s56 s57 s58 s59 s60 s61 s62 s63 s64 s65 s66 s67 s68 s69 s70 s71 s72 s73 s74 s75 s76 s77 s78 s79 s80 s81 s82 s83 s84 s85 s86 s87 s88 s89 s90 s91 s92 s93 s94 s95 s96 s97 s98 s99 s100 s101 s102 s103 s104 s105 s106 s107 s108 s109 s110 s111 s112 s113 s114 s115 s116 s117 s118 s119 s120 s121 s122 s123 s124 s125 s126 s127 s128 s129 s130 s131 s132 s133 s134 s135 s136 s137 s138 s139 s140 s141 s142 s143 s144 s145 s146 s147 s148 s149 s150 s151 s152 s153 s154 s155 s156 s157 s158 s159 s160 s161 s162 s163 s164 s165 s166 s167 s168 s169 s170 s171 s172 s173 s174 s175 s176 s177 s178 s179 s180 s181 s182 s183 s184 s185 s186 s187 s188 s189 s190 s191 s192 s193 s194 s195 s196 s197 s198 s199 s200 s201 s202 s203 s204 s205 s206 s207 s208 s209 s210 s211 s212 s213 s214 s215 s216 s217 s218 s219 s220 s221 s222 s223 s224 s225 s226 s227 s228 s229 s230 s231 s232 s233 s234 s235 s236 s237 s238 s239 s240 s241 s242 s243 s244 s245 s246 s247 s248 s249 s250 s251 s252 s253 s254 s255 s256 s257 s258 s259 s260 s261 s262 s263 s264 s265 s266 s267 s268 s269 s270 s271 s272 s273 s274 s275 s276 s277 s278 s279 s280 s281 s282 s283 s284 s285 s286 s287 s288 s289 s290 s291 s292 s293 s294 s295 s296 s297 s298 s299 s300 s301 s302 s303 s304 s305 s306 s307 s308 s309 s310 s311 s312 s313 s314 s315 s316 s317 : Value)
    (h : Mid7 w q n m cA aA gs G ids I AK (.slice aK gs.length cK) vM (.slice ak m ck) (.slice ai m ci))
    (hN : N ≤ w.heap.size) (hR : ∀ w', Below N w w' → R (.returned (.bool true)) w') :
    Code.wp Try.prog (dropS 36 (Try.f7.body.getD .skip)) (bodyPost Try.prog Try.f7 R) ⟨List.toArray (s0 :: (.slice ak m ck) :: (.slice ai m ci) :: s3 :: s4 :: (.slice aA AK.length cA) :: s6 :: s7 :: s8 :: s9 :: s10 :: s11 :: s12 :: s13 :: s14 :: s15 :: s16 :: (.int .i64 (q : Int)) :: (.int .i64 (n : Int)) :: (.int .i64 (m : Int)) :: s20 :: s21 :: s22 :: s23 :: s24 :: s25 :: s26 :: s27 :: s28 :: s29 :: (.slice aK gs.length cK) :: vM :: s32 :: s33 :: s34 :: undef :: undef :: undef :: undef :: undef :: undef :: undef :: undef :: undef :: s44 :: s45 :: s46 :: s47 :: s48 :: s49 :: s50 :: s51 :: s52 :: s53 :: s54 :: s55 :: s56 :: s57 :: s58 :: s59 :: s60 :: s61 :: s62 :: s63 :: s64 :: s65 :: s66 :: s67 :: s68 :: s69 :: s70 :: s71 :: s72 :: s73 :: s74 :: s75 :: s76 :: s77 :: s78 :: s79 :: s80 :: s81 :: s82 :: s83 :: s84 :: s85 :: s86 :: s87 :: s88 :: s89 :: s90 :: s91 :: s92 :: s93 :: s94 :: s95 :: s96 :: s97 :: s98 :: s99 :: s100 :: s101 :: s102 :: s103 :: s104 :: s105 :: s106 :: s107 :: s108 :: s109 :: s110 :: s111 :: s112 :: s113 :: s114 :: s115 :: s116 :: s117 :: s118 :: s119 :: s120 :: s121 :: s122 :: s123 :: s124 :: s125 :: s126 :: s127 :: s128 :: s129 :: s130 :: s131 :: s132 :: s133 :: s134 :: s135 :: s136 :: s137 :: s138 :: s139 :: s140 :: s141 :: s142 :: s143 :: s144 :: s145 :: s146 :: s147 :: s148 :: s149 :: s150 :: s151 :: s152 :: s153 :: s154 :: s155 :: s156 :: s157 :: s158 :: s159 :: s160 :: s161 :: s162 :: s163 :: s164 :: s165 :: s166 :: s167 :: s168 :: s169 :: s170 :: s171 :: s172 :: s173 :: s174 :: s175 :: s176 :: s177 :: s178 :: s179 :: s180 :: s181 :: s182 :: s183 :: s184 :: s185 :: s186 :: s187 :: s188 :: s189 :: s190 :: s191 :: s192 :: s193 :: s194 :: s195 :: s196 :: s197 :: s198 :: s199 :: s200 :: s201 :: s202 :: s203 :: s204 :: s205 :: s206 :: s207 :: s208 :: s209 :: s210 :: s211 :: s212 :: s213 :: s214 :: s215 :: s216 :: s217 :: s218 :: s219 :: s220 :: s221 :: s222 :: s223 :: s224 :: s225 :: s226 :: s227 :: s228 :: s229 :: s230 :: s231 :: s232 :: s233 :: s234 :: s235 :: s236 :: s237 :: s238 :: s239 :: s240 :: s241 :: s242 :: s243 :: s244 :: s245 :: s246 :: s247 :: s248 :: s249 :: s250 :: s251 :: s252 :: s253 :: s254 :: s255 :: s256 :: s257 :: s258 :: s259 :: s260 :: s261 :: s262 :: s263 :: s264 :: s265 :: s266 :: s267 :: s268 :: s269 :: s270 :: s271 :: s272 :: s273 :: s274 :: s275 :: s276 :: s277 :: s278 :: s279 :: s280 :: s281 :: s282 :: s283 :: s284 :: s285 :: s286 :: s287 :: s288 :: s289 :: s290 :: s291 :: s292 :: s293 :: s294 :: s295 :: s296 :: s297 :: s298 :: s299 :: s300 :: s301 :: s302 :: s303 :: s304 :: s305 :: s306 :: s307 :: s308 :: s309 :: s310 :: s311 :: s312 :: s313 :: s314 :: s315 :: s316 :: s317 :: undef :: undef :: undef :: undef :: undef :: undef :: undef :: undef :: undef :: undef :: undef :: undef :: undef :: undef :: undef :: undef :: undef :: undef :: undef :: undef :: undef :: undef :: undef :: undef :: undef :: undef :: undef :: undef :: undef :: undef :: undef :: undef :: undef :: undef :: undef :: undef :: undef :: undef :: undef :: undef :: undef :: undef :: undef :: undef :: undef :: undef :: undef :: undef :: undef :: undef :: undef :: undef :: undef :: undef :: undef :: undef :: undef :: undef :: undef :: undef :: undef :: undef :: undef :: undef :: undef :: undef :: undef :: undef :: undef :: undef :: undef :: undef :: undef :: undef :: undef :: undef :: undef :: undef :: undef :: undef :: undef :: undef :: undef :: undef :: undef :: undef :: undef :: undef :: undef :: undef :: undef :: undef :: undef :: undef :: undef :: undef :: undef :: undef :: undef :: undef :: undef :: undef :: undef :: undef :: undef :: undef :: undef :: undef :: undef :: undef :: undef :: undef :: undef :: undef :: undef :: undef :: undef :: undef :: undef :: undef :: undef :: undef :: undef :: undef :: undef :: undef :: []), []⟩ w := by
  have hA : AK.length ≤ cA ∧ cA ≤ maxLen ∧ (aA = none ∧ AK.length = 0 ∧ cA = 0 ∨ ∃ g, aA = some ⟨g, 0, none⟩) := by
    obtain ⟨B, h1⟩ := h.ak
    exact h1.size.2
  have hi : m ≤ ci ∧ ci ≤ maxLen := by
    obtain ⟨B, h1⟩ := h.iv
    exact ⟨h1.size.2.1, h1.size.2.2.1⟩
  unfold maxLen at hA hi
  have hm := h.hm
  have hq := h.hq
  have hq1 := h.hq1
  have hn := h.hn
  obtain ⟨i3, hi3, p0, p1, p2⟩ := info_parts Try.info3
  have HA : Hid (∃ B, Own w B 3 (.int .i64 0) (.slice aA AK.length cA) (nums AK)) := h.ak
  have HI : Hid (Ints w (.slice ai m ci) I) := by obtain ⟨B, h1⟩ := h.iv; exact h1.ints
  have HIl : Hid (I.length = m) := h.hI
  conv => arg 2; whnf
  refine wp_split (c2 := dropS 37 (Try.f7.body.getD .skip)) ?_
  have HR := hidden hR
  have HF := hidden h
  clear h hR
  go_wp2_with (at_make; refine wpList_make_Blk _ rfl _ _ 52 rfl 3 i3 (.int .i64 0) 8 Try.underlying52 hi3 p0 p1 p2 rfl 0 q (Nat.zero_le _) rfl rfl (by decide) (by omega) ?_; intro w1 hb1 bel1 hs1)
  have ho1 : Hid (Own w1 w.heap.size 3 (.int .i64 0) (.slice (some ⟨w.heap.size, 0, none⟩) 0 q) (nums (news I AK 0))) := .inr ⟨w.heap.size, q, by simp [news, nums], Nat.le_refl _, by simp [news, nums, maxLen]; omega, by unfold Blk at hb1; simpa [news, nums] using hb1⟩
  have hs1' : Hid (w1.heap.size = w.heap.size + 1) := hs1
  clear hb1 hs1
  conv => arg 2; whnf
  refine wp_split (c2 := dropS 38 (Try.f7.body.getD .skip)) ?_
  go_wp2
  go_loopw [35, 36, 37] (fun nv i _ wr => ∃ k : Nat, k ≤ q ∧ i = .int .i64 k ∧ Hid (Own wr w.heap.size 3 (.int .i64 0) nv (nums (news I AK k))) ∧ Hid (Below w.heap.size w wr)) (fun _ i _ _ => q - (intOf i).toNat)
  case atStart => exact ⟨0, Nat.zero_le _, rfl, ho1, bel1⟩
  case round =>
    obtain ⟨k, hk, rfl, how, hbel⟩ := hrel
    clear ho1 bel1 hs1'
    by_cases hlt : k < q
    · obtain ⟨y, hy⟩ : ∃ y, AK[k]? = some y := ⟨_, List.getElem?_eq_getElem (by omega)⟩
      rcases hA with ⟨hA1, hA2, ⟨_, h0, _⟩ | ⟨gA, rfl⟩⟩
      · omega
      have hca : wr.cell? ⟨gA, k, none⟩ = some (.int .i64 y) := by
        obtain ⟨B, hAo⟩ := HA.out
        obtain ⟨g, hg, hc⟩ := (hAo.below hbel.out (Nat.le_refl _)).at (nums_get hy)
        simp at hg
        subst hg
        exact hc
      have HY := hidden hy
      clear hy
      have hkA : k < AK.length := by omega
      by_cases hneg : y < 0
      · have hd : decide (y < 0) = true := by simpa using hneg
        go_wp2
        go_roundw
        case rel => exact ⟨k + 1, by omega, by go_num, by rw [Hid, news_skip HY.out (.inl hneg)]; exact how, hbel⟩
        case measure => simp [intOf]; omega
      · have hd : decide (y < 0) = false := by simpa using hneg
        have c1 := indexOf_any (.slice ai m ci) I y wr (HI.out.below hbel.out (Nat.le_refl _)) (by rw [HIl.out]; omega)
        have c2 : Calls Try.prog 33 #[.slice (some ⟨gA, 0, none⟩) k cA, .int .i64 y] wr fun e w' => e = .returned (.int .i64 (idx y (AK.take k))) ∧ wr = w' := by
          refine indexOf_any (.slice (some ⟨gA, 0, none⟩) k cA) (AK.take k) y wr ?_ (by simp; omega)
          obtain ⟨B, hAo⟩ := HA.out
          exact (hAo.below hbel.out (Nat.le_refl _)).ints.take k (by omega)
        obtain ⟨i1, i2, i3'⟩ := idx_ge y I
        obtain ⟨j1, j2, j3⟩ := idx_ge y (AK.take k)
        have i2' : idx y I < 4096 := by have := HIl.out; omega
        have j2' : idx y (AK.take k) < 4096 := by have : (AK.take k).length ≤ k := by simp; omega
                                                  omega
        have I3 := hidden i3'
        have J3 := hidden j3
        clear i2 j2 i3' j3
        generalize idx y I = x1 at *
        generalize idx y (AK.take k) = x2 at *
        by_cases hx1 : 0 ≤ x1
        · have hd1 : decide (0 ≤ x1) = true := by simpa using hx1
          go_wp2_with (first | (go_at_call_of 33 ai; refine c1.mono ?_; rintro e w' ⟨rfl, rfl⟩) | (go_at_call_of 33 gA; refine c2.mono ?_; rintro e w' ⟨rfl, rfl⟩))
          go_roundw
          case rel => exact ⟨k + 1, by omega, by go_num, by rw [Hid, news_skip HY.out (.inr (.inl (I3.out.1 hx1)))]; exact how, hbel⟩
          case measure => simp [intOf]; omega
        · have hd1 : decide (0 ≤ x1) = false := by simpa using hx1
          by_cases hx2 : 0 ≤ x2
          · have hd2 : decide (0 ≤ x2) = true := by simpa using hx2
            go_wp2_with (first | (go_at_call_of 33 ai; refine c1.mono ?_; rintro e w' ⟨rfl, rfl⟩) | (go_at_call_of 33 gA; refine c2.mono ?_; rintro e w' ⟨rfl, rfl⟩))
            go_roundw
            case rel => exact ⟨k + 1, by omega, by go_num, by rw [Hid, news_skip HY.out (.inr (.inr (J3.out.1 hx2)))]; exact how, hbel⟩
            case measure => simp [intOf]; omega
          · have hd2 : decide (0 ≤ x2) = false := by simpa using hx2
            have HN : Hid (¬ (y < 0 ∨ y ∈ I ∨ y ∈ AK.take k)) := by
              rintro (h | h | h)
              · exact hneg h
              · exact hx1 (I3.out.2 h)
              · exact hx2 (J3.out.2 h)
            have hnl := news_le I AK k
            have hbs := hbel.out.size
            have HB : Hid (∀ g c' w2, Own w2 w.heap.size 3 (.int .i64 0) (.slice (some ⟨g, 0, none⟩) ((news I AK k).length + 1) c') (nums (news I AK k) ++ [.int .i64 y]) → Own w2 w.heap.size 3 (.int .i64 0) (.slice (some ⟨g, 0, none⟩) ((news I AK k).length + 1) c') (nums (news I AK (k + 1)))) := fun g c' w2 h => by
              rw [news_take HY.out HN.out]; simpa [nums] using h
            have HBB : Hid (∀ o w2, World.grownBy (wr.alloc o) w2 (Value.ownBlock _) → Below w.heap.size w w2) := fun o w2 hg2 => (hbel.out.alloc hbs o).grown hg2 (by simp; omega) (fun k hk => (how.out.lt k hk).1)
            go_wp2_with (first | (first | (go_at_call_of 33 ai; refine c1.mono ?_; rintro e w' ⟨rfl, rfl⟩) | (go_at_call_of 33 gA; refine c2.mono ?_; rintro e w' ⟨rfl, rfl⟩)) | (at_builtin; refine wpList_append_At _ rfl _ _ 52 rfl w.heap.size 3 i3 (.int .i64 0) 8 Try.underlying52 hi3 p0 p1 p2 rfl _ (nums (news I AK k)) (news I AK k).length (by simp [nums]) rfl (by exact how.out.alloc _) ⟨wr.heap.size, 0, none⟩ 1 (.int .i64 y) rfl (by simp) rfl rfl (by omega) (by decide) (by simp; omega) ?_; intro g c' w2 ho2 hg2 hw2; have HO := hidden (HB.out _ _ _ ho2); have HG := hidden (HBB.out _ _ hg2); clear ho2 hg2 hw2))
            go_roundw
            case rel => exact ⟨k + 1, by omega, by go_num, HO, HG⟩
            case measure => simp [intOf]; omega
    · obtain rfl : k = q := by omega
      have hfm := HF.out.below hbel.out (Nat.le_refl _)
      obtain ⟨aN, cN, hvN, _, _, _⟩ := how.out.form
      have hln : (nums (news I AK k)).length = (news I AK k).length := by simp [nums]
      rw [hln] at hvN
      clear hln
      have hfin := hfm.fin how.out
      subst hvN
      have hgl := hfin.gsLen.1
      rw [hgl] at hfin ⊢
      have hbo := hbel.out.mono hN
      have HF2 := hidden hfin
      clear hA hi hfin hgl hfm
      generalize (news I AK k).length = r at HF2 ⊢
      go_wp2
      exact ph38 _ k n m r cA cK cN ck ci aA aK aN ak ai gs G ids I AK vM _ _ _ _ _ _ _ _ _ _ _ _ _ _ _ _ _ _ _ _ _ _ _ _ _ _ _ _ _ _ _ _ _ _ _ _ _ _ _ _ _ _ _ _ _ _ _ _ _ _ _ _ _ _ _ _ _ _ _ _ _ _ _ _ _ _ _ _ _ _ _ _ _ _ _ _ _ _ _ _ _ _ _ _ _ _ _ _ _ _ _ _ _ _ _ _ _ _ _ _ _ _ _ _ _ _ _ _ _ _ _ _ _ _ _ _ _ _ _ _ _ _ _ _ _ _ _ _ _ _ _ _ _ _ _ _ _ _ _ _ _ _ _ _ _ _ _ _ _ _ _ _ _ _ _ _ _ _ _ _ _ _ _ _ _ _ _ _ _ _ _ _ _ _ _ _ _ _ _ _ _ _ _ _ _ _ _ _ _ _ _ _ _ _ _ _ _ _ _ _ _ _ _ _ _ _ _ _ _ _ _ _ _ _ _ _ _ _ _ _ _ _ _ _ _ _ _ _ _ _ _ _ _ _ _ _ _ _ _ _ _ _ _ _ _ _ _ _ _ _ _ _ _ _ _ _ _ _ _ _ _ _ _ _ _ _ _ _ _ _ _ _ _ _ _ _ _ _ _ _ _ _ _ _ _ _ _ _ _ _ _ _ _ _ _ _ _ _ _ _ _ _ _ _ _ _ _ _ _ _ _ _ _ _ _ _ _ _ _ _ _ _ _ _ _ _ _ _ _ _ _ _ _ _ HF2.out (fun k => HR.out _ (below_drewN hbo k))
end Go.Proofs.Qxb6621626a
