import Derived.Test.YbulkdqzqPlain
namespace Go.Proofs.Ybulkdqzq
open Go.RowKit
set_option linter.unusedVariables false

theorem set3 {W : World} {g : Nat} {a b c p q r : Value} (z0 : W.cell? ⟨g, 0, none⟩ = some a) (z1 : W.cell? ⟨g, 1, none⟩ = some b) (z2 : W.cell? ⟨g, 2, none⟩ = some c) :
    (((W.setCell ⟨g, 0, none⟩ p).setCell ⟨g, 1, none⟩ q).setCell ⟨g, 2, none⟩ r).cell? ⟨g, 0, none⟩ = some p ∧ (((W.setCell ⟨g, 0, none⟩ p).setCell ⟨g, 1, none⟩ q).setCell ⟨g, 2, none⟩ r).cell? ⟨g, 1, none⟩ = some q ∧ (((W.setCell ⟨g, 0, none⟩ p).setCell ⟨g, 1, none⟩ q).setCell ⟨g, 2, none⟩ r).cell? ⟨g, 2, none⟩ = some r := by
  refine ⟨?_, ?_, ?_⟩ <;> simp [go_sem, z0, z1, z2]
def Got (D : Nat → Dt) (k : Nat) (d got : Dt) : Prop := (cov d (D 0) (D k) = false ∧ got = (0, 0, 0)) ∨ (cov d (D 0) (D k) = true ∧ ∃ i, i < k + 1 ∧ got = D i ∧ (∀ j, j < i → cmpD (D j) d < 0) ∧ 0 ≤ cmpD (D i) d)
theorem on5k (cb g k cap : Nat) (D : Nat → Dt) (d : Dt) (w : World) (hm : k + 1 ≤ 2097152) (hc : w.cell? ⟨cb, 0, none⟩ = some (.slice (some ⟨g, 0, none⟩) (k + 1) cap)) (hD : IsD w g (k + 1) D) (hmo : ∀ p l, p ≤ l → l < k + 1 → 0 ≤ cmpD (D p) d → 0 ≤ cmpD (D l) d) :
    Calls Yba.prog 5 #[.pointer (some ⟨cb, 0, none⟩), dv d] w fun e w' => (∃ got : Dt, e = .returned (.tuple #[.agg #[.int .i64 got.1, .int .i64 got.2.1, .int .i64 got.2.2], .bool (cov d (D 0) (D k))]) ∧ Got D k d got) ∧ Below w.heap.size w w' := by
  refine (on5 cb g (k + 1) cap D d w (by omega) hm hc hD hmo).mono ?_
  rintro e w' ⟨h | ⟨hc, i, hi, rfl, h1, h2⟩, hb⟩
  · obtain ⟨hc, rfl⟩ := h
    exact ⟨⟨(0, 0, 0), by rw [Nat.add_sub_cancel] at hc; rw [hc], .inl ⟨hc, rfl⟩⟩, hb⟩
  · exact ⟨⟨D i, by rw [Nat.add_sub_cancel] at hc; rw [hc], .inr ⟨hc, i, hi, rfl, h1, h2⟩⟩, hb⟩

set_option maxRecDepth 100000 in
set_option maxHeartbeats 8000000 in
theorem walk3 (a0 a1 a2 : Int) (ga : Option Addr) (n cap : Nat) (f : Nat → Int) (sel dt : Int) (w : World) (hn : n ≤ 1048576) (hV : IsV w ga n f) (hf : ∀ j, j < n → 0 ≤ f j ∧ f j ≤ 255)
    (b0 : -9223372036854775808 ≤ a0 ∧ a0 ≤ 9223372036854775807) (b1 : -9223372036854775808 ≤ a1 ∧ a1 ≤ 9223372036854775807) (b2 : -9223372036854775808 ≤ a2 ∧ a2 ≤ 9223372036854775807)
    (b4 : 0 ≤ sel ∧ sel ≤ 255) (b5 : -9223372036854775808 ≤ dt ∧ dt ≤ 9223372036854775807) :
    Calls Yba.prog 3 #[.int .i64 a0, .int .i64 a1, .int .i64 a2, .slice ga n cap, .int .u8 sel, .int .i64 dt] w fun e w' => e = .returned (.bool true) ∧ Below w.heap.size w w' := by
  have HV : Hid (IsV w ga n f) := hV
  have HF : Hid (∀ j, j < n → 0 ≤ f j ∧ f j ≤ 255) := hf
  clear hV hf
  obtain ⟨i0, hI, hz0, hz1, hz2⟩ := info_parts3 info26
  obtain ⟨MC, hMC⟩ : ∃ MC, MC = madeCells (Value.agg #[.int .i64 0, .int .i64 0, .int .i64 0]).cells ((n + 1) * 3) := ⟨_, rfl⟩
  have hmk : ∀ W : World, (Instr.makeSlice 24 (.int .i64 0) (.int .i64 ((n : Int) + 1))).run Yba.prog W = .ok (.slice (some ⟨W.heap.size, 0, none⟩) 0 (n + 1)) (W.alloc (.cells MC 26)) := fun W => by
    rw [hMC, run_make (P := Yba.prog) W 24 26 i0 _ Yba.underlying24 hI hz0 .i64 .i64 0 ((n : Int) + 1) (by omega) (by omega) (by rw [hz2]; omega) (by omega), hz1]
    rfl
  have HMS : Hid (MC.size = (n + 1) * 3) := by show _ = _; rw [hMC, size_madeCells]
  clear hMC
  obtain ⟨y, hy⟩ : ∃ y, y = Int.tmod a0 1099511627776 := ⟨_, rfl⟩
  obtain ⟨m, hm⟩ : ∃ m, m = Int.tmod a1 1000 := ⟨_, rfl⟩
  obtain ⟨b, hb⟩ : ∃ b, b = Int.tmod a2 1099511627776 := ⟨_, rfl⟩
  have by1 : -1099511627776 < y ∧ y < 1099511627776 := by rw [hy]; exact tmodb _ _ (by decide)
  have bm1 : -1000 < m ∧ m < 1000 := by rw [hm]; exact tmodb _ _ (by decide)
  have bb1 : -1099511627776 < b ∧ b < 1099511627776 := by rw [hb]; exact tmodb _ _ (by decide)
  have ry : Int.tmod a0 1099511627776 = y := hy.symm
  have rm : Int.tmod a1 1000 = m := hm.symm
  have rb : Int.tmod a2 1099511627776 = b := hb.symm
  clear hy hm hb b0 b1 b2
  have HO0 : Hid ((w.alloc (.cells MC 26)).ownsRow w.heap.size 26 3 (.slice (some ⟨w.heap.size, 0, none⟩) 0 (n + 1)) 0 []) := World.ownsRow_made w MC (n + 1) (Nat.le_refl _) (by unfold maxLen; omega) HMS.out
  go_enter Yba.func3, Yba.ntmps3
  go_wp2_with (at_builtin; refine wpList_append_own _ rfl _ _ 24 rfl w.heap.size 26 i0 (.agg #[.int .i64 0, .int .i64 0, .int .i64 0]) 3 24 Yba.underlying24 hI hz0 hz1 hz2 rfl (by decide) _ 0 [] rfl (HO0.out.alloc _) ⟨w.heap.size + 1, 0, none⟩ 1 1 (cellsD (y, m, b)) rfl rfl (cell3_new _ _ _ _ _ _ (by simp)) (oneCellD _) (by unfold maxLen; omega) (by omega) (by simp; omega) ?_)
  intro v1 w1 hown1 hgr1 hnn1
  have HO1 : Hid (w1.ownsRow w.heap.size 26 3 v1 1 (rowD (DD y m b f) 1)) := hown1
  have HN1 : Hid (¬ v1 = .slice none 0 0) := hnn1
  have HB1 : Hid (Below w.heap.size w w1) := (((Below.refl _ _).alloc (Nat.le_refl _) _).alloc (by simp) _).grown hgr1 (by simp; omega) (by intro k hk; simp [Value.ownBlock] at hk; omega)
  clear hown1 hgr1 hnn1 HO0 hmk ry rm rb HMS
  go_wp2_with fail
  go_loopw [16, 17, 53] (fun v t i wr => ∃ k : Nat, k ≤ n ∧ i = .int .i64 k ∧ t = .int .i64 (day b f k) ∧ Hid (Below w.heap.size w wr) ∧ Hid (wr.ownsRow w.heap.size 26 3 v (k + 1) (rowD (DD y m b f) (k + 1))) ∧ Hid (¬ v = .slice none 0 0)) (fun _ _ i _ => n - (intOf i).toNat)
  case atStart => exact ⟨0, Nat.zero_le _, rfl, rfl, HB1, HO1, HN1⟩
  case round =>
    clear HO1 HN1 HB1
    obtain ⟨k, hk, rfl, rfl, HB, HO, HN⟩ := hrel
    have hdb := day_bound b f n HF.out k hk
    by_cases hkn : k < n
    · have hfk := HF.out k hkn
      have hsz := HB.out.size
      rcases HV.out with h0 | ⟨gb, go, rfl, hc⟩
      · omega
      have c1 := cell_below HB.out (hc k hkn)
      clear hc
      obtain ⟨dk, hdk⟩ : ∃ dk, day b f k = dk := ⟨_, rfl⟩
      have HDK : Hid (day b f k = dk) := hdk
      rw [hdk] at hdb ⊢
      clear hdk
      go_wp2_with (at_builtin; refine wpList_append_own _ rfl _ _ 24 rfl w.heap.size 26 i0 (.agg #[.int .i64 0, .int .i64 0, .int .i64 0]) 3 24 Yba.underlying24 hI hz0 hz1 hz2 rfl (by decide) _ (k + 1) (rowD (DD y m b f) (k + 1)) rfl (HO.out.alloc _) ⟨wr.heap.size, 0, none⟩ 1 1 (cellsD (y, m, dk + (f k + 1))) rfl rfl (cell3_new _ _ _ _ _ _ (by simp)) (oneCellD _) (by unfold maxLen; omega) (by omega) (by simp; omega) ?_)
      intro v2 w2 hown2 hgr2 hnn2
      have HO2 : Hid (w2.ownsRow w.heap.size 26 3 v2 (k + 1 + 1) (rowD (DD y m b f) (k + 1 + 1))) := by
        have e : rowD (DD y m b f) (k + 1 + 1) = rowD (DD y m b f) (k + 1) ++ cellsD (y, m, dk + (f k + 1)) := by
          show _ ++ cellsD (y, m, day b f (k + 1)) = _
          rw [← HDK.out]; rfl
        show World.ownsRow _ _ _ _ _ _ _
        rw [e]; exact hown2
      have HN2 : Hid (¬ v2 = .slice none 0 0) := hnn2
      have HB2 : Hid (Below w.heap.size w w2) := (HB.out.alloc hsz _).grown hgr2 (by simp; omega) (by intro q hq; exact (HO.out.lt q hq).1)
      clear hown2 hgr2 hnn2
      go_wp2
      go_roundw
      case rel => exact ⟨k + 1, by omega, by go_num, by rw [day, HDK.out], HB2, HO2, HN2⟩
      case measure => simp [intOf]; omega
    · obtain rfl : k = n := by omega
      clear hkn
      obtain ⟨g, c, rfl, hd⟩ : ∃ g c, u16 = .slice (some ⟨g, 0, none⟩) (k + 1) c ∧ IsD wr g (k + 1) (DD y m b f) := by
        rcases HO.out.2 with ⟨h, _⟩ | ⟨g2, c2, cur, h, _⟩
        · exact absurd h HN.out
        · subst h; exact ⟨g2, c2, rfl, isD_of_own HO.out⟩
      have HD : Hid (IsD wr g (k + 1) (DD y m b f)) := hd
      have HMO : Hid (∀ d : Dt, ∀ p q, p ≤ q → q < k + 1 → 0 ≤ cmpD (DD y m b f p) d → 0 ≤ cmpD (DD y m b f q) d) := fun d p q h1 h2 h3 => cmpD_mono (day_mono b f k HF.out p q h1 (by omega)) h3
      generalize hDD : DD y m b f = D at *
      clear hDD hd HO HN hdb HF HV hI hz0 hz1 hz2
      obtain ⟨s, hs⟩ : ∃ s, s = Int.tmod sel 6 := ⟨_, rfl⟩
      have hs6 : s = 0 ∨ s = 1 ∨ s = 2 ∨ s = 3 ∨ s = 4 ∨ s = 5 := by
        have := tmodb sel 6 (by decide)
        have h0 : 0 ≤ s := by rw [hs]; exact Int.tmod_nonneg _ b4.1
        omega
      have rs : Int.tmod sel 6 = s := hs.symm
      obtain ⟨q, hq⟩ : ∃ q, q = Int.tmod dt 1099511627776 := ⟨_, rfl⟩
      have bq1 : -1099511627776 < q ∧ q < 1099511627776 := by rw [hq]; exact tmodb _ _ (by decide)
      have rq : Int.tmod dt 1099511627776 = q := hq.symm
      clear hs hq b5
      go_upto_block 2 with fail
      go_cut [20, 21] from 74 to 89 (fun p r wc => ∃ y' m' : Int, p = .int .i64 y' ∧ r = .int .i64 m' ∧ wr = wc)
      case first =>
        rcases hs6 with rfl | rfl | rfl | rfl | rfl | rfl
        all_goals go_wp2_with fail
        all_goals go_meet
        all_goals exact ⟨_, _, rfl, rfl, rfl⟩
      case rest =>
        obtain ⟨y', m', rfl, rfl, rfl⟩ := hcut
        clear hs6 rs b4
        have hgs : g < wr.heap.size := World.block_lt_of_cell? _ _ (HD.out 0 (by omega)).1
        obtain ⟨d, hd⟩ : ∃ d : Dt, d = (y', m', b + q) := ⟨_, rfl⟩
        have HDe : Hid (d = (y', m', b + q)) := hd
        clear hd
        go_upto_region 28 with (go_at_call 4; refine (clone4 g (k + 1) c D _ (by omega) (by omega) (HD.out.below ((Below.refl _ _).alloc (Nat.le_refl _) _))).mono ?_; rintro e w4 ⟨⟨g2, c2, rfl, hd2⟩, hb4⟩; have x0 := cell_below hb4 (p := ⟨wr.heap.size, 0, none⟩) (v := .int .i64 y') (by simp); have x1 := cell_below hb4 (p := ⟨wr.heap.size, 1, none⟩) (v := .int .i64 m') (by simp); have x2 := cell_below hb4 (p := ⟨wr.heap.size, 2, none⟩) (v := .int .i64 (b + q)) (by simp); have HX4 : Hid (Below wr.heap.size wr w4) := ((Below.refl _ _).alloc (Nat.le_refl _) _).trans (hb4.mono (by simp)); have HD2 : Hid (IsD w4 g2 (k + 1) D) := hd2; clear hd2 hb4)
        go_cut [25, 26] from 102 to 107 (fun p r wc => ∃ E got, p = .pointer (some ⟨E, 0, none⟩) ∧ r = .bool (cov d (D 0) (D k)) ∧ Hid (Below w.heap.size w wc) ∧ Hid (IsD wc g (k + 1) D) ∧ Hid (IsD wc g2 (k + 1) D) ∧ Hid (wc.cell? ⟨w4.heap.size, 0, none⟩ = some (.slice (some ⟨g, 0, none⟩) (k + 1) c)) ∧
          Hid (wc.cell? ⟨wr.heap.size, 0, none⟩ = some (.int .i64 d.1) ∧ wc.cell? ⟨wr.heap.size, 1, none⟩ = some (.int .i64 d.2.1) ∧ wc.cell? ⟨wr.heap.size, 2, none⟩ = some (.int .i64 d.2.2)) ∧
          Hid (wc.cell? ⟨E, 0, none⟩ = some (.int .i64 got.1) ∧ wc.cell? ⟨E, 1, none⟩ = some (.int .i64 got.2.1) ∧ wc.cell? ⟨E, 2, none⟩ = some (.int .i64 got.2.2)) ∧
          Hid (Got D k d got))
        case first =>
          have hw4 : wr.heap.size < w4.heap.size := World.block_lt_of_cell? _ _ x0
          have hg4 : g < w4.heap.size := by omega
          have HDe2 := HDe.out
          subst HDe2
          have HD5 : Hid (IsD w4 g (k + 1) D) := HD.out.below HX4.out
          clear HDe
          go_wp2_with (go_at_call 5; refine (on5k w4.heap.size g k c D (y', m', b + q) _ (by omega) (by simp) (HD5.out.below ((Below.refl _ _).alloc (Nat.le_refl _) _)) (HMO.out _)).mono ?_; rintro e w5 ⟨⟨got, rfl, hgot⟩, hb5⟩; have HG : Hid _ := hgot; have HB5 : Hid _ := hb5; clear hgot hb5)
          go_meet
          have h6 : ∀ o, Below (w4.alloc (.cells #[.slice (some ⟨g, 0, none⟩) (k + 1) c] 30)).heap.size (w4.alloc (.cells #[.slice (some ⟨g, 0, none⟩) (k + 1) c] 30)) (w5.alloc o) := fun o => HB5.out.alloc HB5.out.size o
          have h46 : ∀ o, Below w4.heap.size w4 (w5.alloc o) := fun o => bt ((Below.refl _ _).alloc (Nat.le_refl _) _) (h6 o)
          exact ⟨w5.heap.size, got, rfl, rfl, (bt (bt HB.out HX4.out) (h46 _)), HD5.out.below (h46 _), HD2.out.below (h46 _), cell_below (h6 _) (by simp), ⟨cell_below (h46 _) x0, cell_below (h46 _) x1, cell_below (h46 _) x2⟩, ⟨by simp, by simp, by simp⟩, HG⟩
        case rest =>
          obtain ⟨E, got, rfl, rfl, HBc, HDc, HD2c, HC, HA, HE, HG⟩ := hcut
          obtain ⟨W, rfl⟩ : ∃ W : World, W = wc := ⟨_, rfl⟩
          clear x0 x1 x2 HX4 HD HD2 HDe HMO rq HB
          obtain ⟨CV, hCV⟩ : ∃ CV, CV = cov d (D 0) (D k) := ⟨_, rfl⟩
          have HCV : Hid (CV = cov d (D 0) (D k)) := hCV
          rw [← hCV]
          clear hCV
          generalize wr.heap.size = AA at *
          generalize w4.heap.size = CC at *
          obtain ⟨d0, d1, d2⟩ := d
          go_upto_region 29 with fail
          go_cut [27] from 108 to 124 (fun p wc => p = .bool CV ∧ Hid (Below W.heap.size W wc))
          case first =>
            have hg2 : g2 < W.heap.size := World.block_lt_of_cell? _ _ (HD2c.out 0 (by omega)).1
            have HS : Hid (∀ W', Below W.heap.size W W' → Below W.heap.size W W' ∧ W'.cell? ⟨AA, 0, none⟩ = some (.int .i64 d0) ∧ W'.cell? ⟨AA, 1, none⟩ = some (.int .i64 d1) ∧ W'.cell? ⟨AA, 2, none⟩ = some (.int .i64 d2) ∧
                W'.cell? ⟨g2, 0, none⟩ = some (.int .i64 (D 0).1) ∧ W'.cell? ⟨g2, 1, none⟩ = some (.int .i64 (D 0).2.1) ∧ W'.cell? ⟨g2, 2, none⟩ = some (.int .i64 (D 0).2.2) ∧
                W'.cell? ⟨g2, k * 3, none⟩ = some (.int .i64 (D k).1) ∧ W'.cell? ⟨g2, k * 3 + 1, none⟩ = some (.int .i64 (D k).2.1) ∧ W'.cell? ⟨g2, k * 3 + 2, none⟩ = some (.int .i64 (D k).2.2)) := fun W' h => by
              have e0 := HD2c.out.below h 0 (by omega)
              have e1 := HD2c.out.below h k (by omega)
              simp only [Nat.zero_mul, Nat.zero_add] at e0
              exact ⟨h, cell_below h HA.out.1, cell_below h HA.out.2.1, cell_below h HA.out.2.2, e0.1, e0.2.1, e0.2.2, e1.1, e1.2.1, e1.2.2⟩
            have hB0 : Below W.heap.size W W.drew := (Below.refl _ _).drew
            have hk0 : (0 : Int) ≤ (k : Int) := by omega
            have hk1 : (k : Int) < (k : Int) + 1 := by omega
            have hk2 : IntKind.i64.wrap ((k : Int) + 1 - 1) = (k : Int) := by rw [IntKind.wrap_i64]; omega
            have hk3 : IntKind.i64.wrap (k : Int) = (k : Int) := by rw [IntKind.wrap_i64]; omega
            by_cases h0 : 0 ≤ cmpD (d0, d1, d2) (D 0)
            · have hcv : CV = decide (cmpD (d0, d1, d2) (D k) ≤ 0) := by rw [HCV.out]; simp [cov, h0]
              have HCV2 : Hid (CV = decide (cmpD (d0, d1, d2) (D k) ≤ 0)) := hcv
              clear hcv
              go_region_held3 (fun W' => Below W.heap.size W W' ∧ W'.cell? ⟨AA, 0, none⟩ = some (.int .i64 d0) ∧ W'.cell? ⟨AA, 1, none⟩ = some (.int .i64 d1) ∧ W'.cell? ⟨AA, 2, none⟩ = some (.int .i64 d2) ∧
                W'.cell? ⟨g2, 0, none⟩ = some (.int .i64 (D 0).1) ∧ W'.cell? ⟨g2, 1, none⟩ = some (.int .i64 (D 0).2.1) ∧ W'.cell? ⟨g2, 2, none⟩ = some (.int .i64 (D 0).2.2) ∧
                W'.cell? ⟨g2, k * 3, none⟩ = some (.int .i64 (D k).1) ∧ W'.cell? ⟨g2, k * 3 + 1, none⟩ = some (.int .i64 (D k).2.1) ∧ W'.cell? ⟨g2, k * 3 + 2, none⟩ = some (.int .i64 (D k).2.2)) (exact HS.out _ (by assumption)) (first | (go_at_call 6; refine (ccmp6 (d0, d1, d2) _ _).mono ?_; rintro e w3 ⟨rfl, hb3⟩; have hB3 := bt (by assumption) hb3; clear hb3))
              go_wp2
              go_meet
              exact ⟨by rw [HCV2.out], by assumption⟩
            · have h0' : decide (0 ≤ cmpD (d0, d1, d2) (D 0)) = false := decide_eq_false h0
              have hcv : CV = false := by rw [HCV.out]; simp [cov, h0]
              have HCV2 : Hid (CV = false) := hcv
              clear hcv h0
              have hx0 : ∀ W', Below W.heap.size W W' → W'.cell? ⟨AA, 0, none⟩ = some (.int .i64 d0) := fun W' h => (HS.out W' h).2.1
              have hx1 : ∀ W', Below W.heap.size W W' → W'.cell? ⟨AA, 1, none⟩ = some (.int .i64 d1) := fun W' h => (HS.out W' h).2.2.1
              have hx2 : ∀ W', Below W.heap.size W W' → W'.cell? ⟨AA, 2, none⟩ = some (.int .i64 d2) := fun W' h => (HS.out W' h).2.2.2.1
              have hy0 : ∀ W', Below W.heap.size W W' → W'.cell? ⟨g2, 0, none⟩ = some (.int .i64 (D 0).1) := fun W' h => (HS.out W' h).2.2.2.2.1
              have hy1 : ∀ W', Below W.heap.size W W' → W'.cell? ⟨g2, 1, none⟩ = some (.int .i64 (D 0).2.1) := fun W' h => (HS.out W' h).2.2.2.2.2.1
              have hy2 : ∀ W', Below W.heap.size W W' → W'.cell? ⟨g2, 2, none⟩ = some (.int .i64 (D 0).2.2) := fun W' h => (HS.out W' h).2.2.2.2.2.2.1
              have hB00 : Below W.heap.size W W := Below.refl _ _
              first | (go_region_with (first | (go_at_call 6; refine (ccmp6 (d0, d1, d2) _ _).mono ?_; rintro e w3 ⟨rfl, hb3⟩; have hB3 := bt (by assumption) hb3; clear hb3))) | fail
              all_goals go_wp2
              all_goals go_meet
              all_goals exact ⟨by rw [HCV2.out], by assumption⟩
          case rest =>
            obtain ⟨rfl, HB7⟩ := hcut
            obtain ⟨W7, rfl⟩ : ∃ W7 : World, W7 = wc := ⟨_, rfl⟩
            have HD7 : Hid (IsD W7 g (k + 1) D) := HDc.out.below HB7.out
            have HD27 : Hid (IsD W7 g2 (k + 1) D) := HD2c.out.below HB7.out
            have HC7 : Hid (W7.cell? ⟨CC, 0, none⟩ = some (.slice (some ⟨g, 0, none⟩) (k + 1) c)) := cell_below HB7.out HC.out
            have HA7 : Hid (W7.cell? ⟨AA, 0, none⟩ = some (.int .i64 d0) ∧ W7.cell? ⟨AA, 1, none⟩ = some (.int .i64 d1) ∧ W7.cell? ⟨AA, 2, none⟩ = some (.int .i64 d2)) := ⟨cell_below HB7.out HA.out.1, cell_below HB7.out HA.out.2.1, cell_below HB7.out HA.out.2.2⟩
            have HE7 : Hid (W7.cell? ⟨E, 0, none⟩ = some (.int .i64 got.1) ∧ W7.cell? ⟨E, 1, none⟩ = some (.int .i64 got.2.1) ∧ W7.cell? ⟨E, 2, none⟩ = some (.int .i64 got.2.2)) := ⟨cell_below HB7.out HE.out.1, cell_below HB7.out HE.out.2.1, cell_below HB7.out HE.out.2.2⟩
            have HBw : Hid (Below w.heap.size w W7) := bt HBc.out HB7.out
            clear HDc HD2c HC HA HE HB7 HBc
            go_upto_if 126 with fail
            go_cut [29] from 126 to 143 (fun p wc => Hid (Below W7.heap.size W7 wc) ∧ Hid (wc.cell? ⟨W7.heap.size, 0, none⟩ = some (.int .i64 got.1) ∧ wc.cell? ⟨W7.heap.size, 1, none⟩ = some (.int .i64 got.2.1) ∧ wc.cell? ⟨W7.heap.size, 2, none⟩ = some (.int .i64 got.2.2)))
            case first =>
              cases CV with
              | false =>
                have hg : got = (0, 0, 0) := by
                  rcases HG.out with ⟨_, h⟩ | ⟨h, _⟩
                  · exact h
                  · rw [← HCV.out] at h; cases h
                subst hg
                go_wp2_with fail
                go_meet
                exact ⟨(Below.refl _ _).alloc (Nat.le_refl _) _, by simp, by simp, by simp⟩
              | true =>
                obtain ⟨i, hi, rfl, hlt, hge⟩ : ∃ i, i < k + 1 ∧ got = D i ∧ (∀ j, j < i → cmpD (D j) (d0, d1, d2) < 0) ∧ 0 ≤ cmpD (D i) (d0, d1, d2) := by
                  rcases HG.out with ⟨h, _⟩ | ⟨_, h⟩
                  · rw [← HCV.out] at h; cases h
                  · exact h
                have HLT : Hid (∀ j, j < i → cmpD (D j) (d0, d1, d2) < 0) := hlt
                clear hlt
                obtain ⟨W8, hW8⟩ : ∃ W8, W8 = W7.alloc (.cells #[.int .i64 0, .int .i64 0, .int .i64 0] 26) := ⟨_, rfl⟩
                have hb8 : Below W7.heap.size W7 W8 := by rw [hW8]; exact (Below.refl _ _).alloc (Nat.le_refl _) _
                have hs8 : W8.heap.size = W7.heap.size + 1 := by rw [hW8]; simp
                have HZ : Hid (∀ W', Below W8.heap.size W8 W' → (W'.cell? ⟨W7.heap.size, 0, none⟩ = some (.int .i64 0) ∧ W'.cell? ⟨W7.heap.size, 1, none⟩ = some (.int .i64 0) ∧ W'.cell? ⟨W7.heap.size, 2, none⟩ = some (.int .i64 0)) ∧ W'.frozen? ⟨W7.heap.size, 0, none⟩ = false ∧ W'.frozen? ⟨W7.heap.size, 1, none⟩ = false ∧ W'.frozen? ⟨W7.heap.size, 2, none⟩ = false) :=
                  fun W' h => ⟨⟨cell_below h (by rw [hW8]; simp), cell_below h (by rw [hW8]; simp), cell_below h (by rw [hW8]; simp)⟩, (h.frozen (by simp [hs8])).trans (by rw [hW8]; simp), (h.frozen (by simp [hs8])).trans (by rw [hW8]; simp), (h.frozen (by simp [hs8])).trans (by rw [hW8]; simp)⟩
                have HB8 : Hid (Below W7.heap.size W7 W8) := hb8
                have HS : Hid (∀ j, j < k + 1 → ∀ W', Below W8.heap.size W8 W' → Below W8.heap.size W8 W' ∧ W'.cell? ⟨AA, 0, none⟩ = some (.int .i64 d0) ∧ W'.cell? ⟨AA, 1, none⟩ = some (.int .i64 d1) ∧ W'.cell? ⟨AA, 2, none⟩ = some (.int .i64 d2) ∧
                    W'.cell? ⟨g2, j * 3, none⟩ = some (.int .i64 (D j).1) ∧ W'.cell? ⟨g2, j * 3 + 1, none⟩ = some (.int .i64 (D j).2.1) ∧ W'.cell? ⟨g2, j * 3 + 2, none⟩ = some (.int .i64 (D j).2.2)) := fun j hj W' h => by
                  have e1 := (HD27.out.below hb8).below h j hj
                  exact ⟨h, cell_below h (cell_below hb8 HA7.out.1), cell_below h (cell_below hb8 HA7.out.2.1), cell_below h (cell_below hb8 HA7.out.2.2), e1.1, e1.2.1, e1.2.2⟩
                have HW8 : Hid (W8 = W7.alloc (.cells #[.int .i64 0, .int .i64 0, .int .i64 0] 26)) := hW8
                have hgW : g2 < W7.heap.size := World.block_lt_of_cell? _ _ (HD27.out i hi).1
                clear hW8 hb8 hs8
                go_wp2_with fail
                rw [← HW8.out]
                go_loopw [29] (fun p wr => ∃ j : Nat, j ≤ i ∧ p = .int .i64 j ∧ Hid (Below W8.heap.size W8 wr)) (fun p _ => k + 1 - (intOf p).toNat)
                case atStart => exact ⟨0, Nat.zero_le _, rfl, Below.refl _ _⟩
                case round =>
                  obtain ⟨j, hj, rfl, HBj⟩ := hrel
                  obtain ⟨wj, rfl⟩ : ∃ wj : World, wj = wr := ⟨_, rfl⟩
                  have hB0 : Below W8.heap.size W8 wj.drew := HBj.out.drew
                  have HSj := HS.out j (by omega)
                  have HSJ : Hid (∀ W', Below W8.heap.size W8 W' → Below W8.heap.size W8 W' ∧ W'.cell? ⟨AA, 0, none⟩ = some (.int .i64 d0) ∧ W'.cell? ⟨AA, 1, none⟩ = some (.int .i64 d1) ∧ W'.cell? ⟨AA, 2, none⟩ = some (.int .i64 d2) ∧
                    W'.cell? ⟨g2, j * 3, none⟩ = some (.int .i64 (D j).1) ∧ W'.cell? ⟨g2, j * 3 + 1, none⟩ = some (.int .i64 (D j).2.1) ∧ W'.cell? ⟨g2, j * 3 + 2, none⟩ = some (.int .i64 (D j).2.2)) := HSj
                  clear HSj
                  have hjk : (j : Int) < (k : Int) + 1 := by omega
                  by_cases hji : j < i
                  · have hc' : decide (0 ≤ cmpD (D j) (d0, d1, d2)) = false := decide_eq_false (by have := HLT.out j hji; omega)
                    go_wp2_with fail
                    go_region_held3 (fun W' => Below W8.heap.size W8 W' ∧ W'.cell? ⟨AA, 0, none⟩ = some (.int .i64 d0) ∧ W'.cell? ⟨AA, 1, none⟩ = some (.int .i64 d1) ∧ W'.cell? ⟨AA, 2, none⟩ = some (.int .i64 d2) ∧
                      W'.cell? ⟨g2, j * 3, none⟩ = some (.int .i64 (D j).1) ∧ W'.cell? ⟨g2, j * 3 + 1, none⟩ = some (.int .i64 (D j).2.1) ∧ W'.cell? ⟨g2, j * 3 + 2, none⟩ = some (.int .i64 (D j).2.2)) (exact HSJ.out _ (by assumption)) (first | (go_at_call 6; refine (ccmp6 _ (d0, d1, d2) _).mono ?_; rintro e w3 ⟨rfl, hb3⟩; have hB3 := bt hB0 hb3; clear hb3))
                    go_wp2
                    go_roundw
                    case rel => exact ⟨j + 1, by omega, by go_num, hB3⟩
                    case measure => simp [intOf]; omega
                  · obtain rfl : j = i := by omega
                    clear hji
                    go_wp2_with fail
                    go_region_held3 (fun W' => Below W8.heap.size W8 W' ∧ W'.cell? ⟨AA, 0, none⟩ = some (.int .i64 d0) ∧ W'.cell? ⟨AA, 1, none⟩ = some (.int .i64 d1) ∧ W'.cell? ⟨AA, 2, none⟩ = some (.int .i64 d2) ∧
                      W'.cell? ⟨g2, j * 3, none⟩ = some (.int .i64 (D j).1) ∧ W'.cell? ⟨g2, j * 3 + 1, none⟩ = some (.int .i64 (D j).2.1) ∧ W'.cell? ⟨g2, j * 3 + 2, none⟩ = some (.int .i64 (D j).2.2)) (exact HSJ.out _ (by assumption)) (first | (go_at_call 6; refine (ccmp6 _ (d0, d1, d2) _).mono ?_; rintro e w3 ⟨rfl, hb3⟩; have hB3 := bt hB0 hb3; clear hb3))
                    obtain ⟨_, _, _, _, e0, e1, e2⟩ := HSJ.out _ hB3
                    obtain ⟨⟨z0, z1, z2⟩, z3, z4, z5⟩ := HZ.out _ hB3
                    go_wp2
                    go_meet
                    exact ⟨(((bt HB8.out hB3).setCell (Nat.le_refl _) _).setCell (Nat.le_refl _) _).setCell (Nat.le_refl _) _, set3 z0 z1 z2⟩
            case rest =>
              obtain ⟨HB8, HG8⟩ := hcut
              obtain ⟨W8, rfl⟩ : ∃ W8 : World, W8 = wc := ⟨_, rfl⟩
              have hc8 := cell_below HB8.out HC7.out
              have e0 := cell_below HB8.out HE7.out.1
              have e1 := cell_below HB8.out HE7.out.2.1
              have e2 := cell_below HB8.out HE7.out.2.2
              obtain ⟨q0, q1, q2⟩ := HG8.out
              have HD8 : Hid (IsD W8 g (k + 1) D) := HD7.out.below HB8.out
              have HD28 : Hid (IsD W8 g2 (k + 1) D) := HD27.out.below HB8.out
              go_wp2_with (go_at_call 7; refine (equal7 g g2 (k + 1) c c2 D _ (by omega) HD8.out HD28.out).mono ?_; rintro e w9 ⟨rfl, hb9⟩)
              go_ret
              exact ⟨rfl, bt (bt HBw.out HB8.out) hb9⟩
end Go.Proofs.Ybulkdqzq
