import Derived.Test.YbulkdqxmEx2
namespace Go.Proofs.Ybulkdqxm
open Go.RowKit Go.MapKept Go.Maps
set_option linter.unusedVariables false

set_option maxRecDepth 100000 in
set_option maxHeartbeats 20000000 in
theorem walkC (a0 a1 a2 a5 a6 a7 a8 a9 : Option Addr) (n0 n1 n2 n5 n6 n7 n8 n9 c0 c1 c2 c5 c6 c7 c8 c9 : Nat) (K0 V1 K2 K5 V6 K7 K8 K9 : Nat → ByteArray) (id : ByteArray) (im : Bool) (w : World)
    (hn : n0 + n1 + n2 + n5 + n6 + n7 + n8 + n9 ≤ 4096)
    (hnil5 : a5 = none → n5 = 0 ∧ c5 = 0) (hnil7 : a7 = none → n7 = 0 ∧ c7 = 0) (hs5k : ∀ i, i < n5 → (K5 i).size ≤ maxLen) (h0 : IsS w a0 n0 K0) (h1 : IsS w a1 n1 V1) (h2 : IsS w a2 n2 K2) (h5 : IsS w a5 n5 K5) (h6 : IsS w a6 n6 V6) (h7 : IsS w a7 n7 K7) (h8 : IsS w a8 n8 K8) (h9 : IsS w a9 n9 K9) :
    Calls Yba.prog 4 #[.slice a0 n0 c0, .slice a1 n1 c1, .slice a2 n2 c2, .string id, .bool im, .slice a5 n5 c5, .slice a6 n6 c6, .slice a7 n7 c7, .slice a8 n8 c8, .slice a9 n9 c9] w fun e w' => e = .returned (.bool true) ∧ Below w.heap.size w w' := by
  have HNIL5 : Hid (a5 = none → n5 = 0 ∧ c5 = 0) := hnil5
  have HNIL7 : Hid (a7 = none → n7 = 0 ∧ c7 = 0) := hnil7
  have HS5K : Hid (∀ i, i < n5 → (K5 i).size ≤ maxLen) := hs5k
  clear hnil5 hnil7 hs5k
  have H0 : Hid (IsS w a0 n0 K0) := h0
  have H1 : Hid (IsS w a1 n1 V1) := h1
  have H2 : Hid (IsS w a2 n2 K2) := h2
  have H5 : Hid (IsS w a5 n5 K5) := h5
  have H6 : Hid (IsS w a6 n6 V6) := h6
  have H7 : Hid (IsS w a7 n7 K7) := h7
  have H8 : Hid (IsS w a8 n8 K8) := h8
  have H9 : Hid (IsS w a9 n9 K9) := h9
  clear h0 h1 h2 h5 h6 h7 h8 h9
  go_enter Yba.func4, Yba.ntmps4
  go_upto_block 0 with (go_at_call 11; refine (new11 _).mono ?_; rintro e w1 ⟨rfl, hb1, hs1, hm1⟩; have HB1 : Hid _ := hb1; have HM1 : Hid _ := hm1; clear hb1 hm1)
  have HST : Hid _ := st_new w w1 v00 HB1.out hs1 HM1.out
  go_cut [22, 23] from 99 to 110 (fun _ _ wc => Hid (St w wc w.heap.size [] (firsts K0 n0) [] [] v00 (vfill v00 K0 (fun j => .string (atS V1 n1 j)) n0) v00 v00))
  case first =>
    as_aux_lemma =>
      go_wp2_with fail
      go_loopw [99] (fun i wr => ∃ j : Nat, j ≤ n0 ∧ i = .int .i64 j ∧ Hid (St w wr w.heap.size [] (firsts K0 j) [] [] v00 (vfill v00 K0 (fun j => .string (atS V1 n1 j)) j) v00 v00)) (fun i _ => n0 - (intOf i).toNat)
      case atStart => exact ⟨0, Nat.zero_le _, rfl, HST⟩
      case round =>
        clear HST
        obtain ⟨j, hj, rfl, HS⟩ := hrel
        by_cases hjn : j < n0
        · have HI1 : Hid (IsS wr.drew a1 n1 V1) := (H1.out.below HS.out.1).below (Below.refl _ _).drew
          obtain ⟨_, _, ⟨_, d1, _, _⟩, _, hm, _, _⟩ := HS.out
          obtain ⟨w6, hup, hm6, hg6⟩ := run_update_is (P := Yba.prog) (t := 40) (K := 9) (E := 9) Yba.underlying40 Yba.underlying9 (hm.below (Below.refl _ _).drew) (K0 j) (.string (atS V1 n1 j))
          have d6 : w6.cell? ⟨w.heap.size + 5, 1, none⟩ = some (.map (some (w.heap.size + 2))) := cellG hg6 (show wr.drew.cell? _ = _ from d1) (by simp)
          have HST6 : Hid (St w w6 w.heap.size [] (firsts K0 (j + 1)) [] [] v00 (vfill v00 K0 (fun j => .string (atS V1 n1 j)) (j + 1)) v00 v00) := (HS.out.below (Below.refl _ _).drew).h hg6 hm6
          clear hm hm6 hg6
          rcases H0.out with h0 | ⟨gb, go, rfl, hc⟩
          · omega
          have hcell := cellB HS.out.1 (hc j hjn)
          clear hc
          go_wp2_with fail
          go_region_held3 (fun W' => W'.cell? ⟨w.heap.size + 5, 1, none⟩ = some (.map (some (w.heap.size + 2)))) (go_keep) (first | (go_at_call 12; refine (at12 a1 n1 _ V1 j _ HI1.out (by omega) (by omega)).mono ?_; rintro e w3 ⟨rfl, rfl⟩))
          go_wp2
          go_roundw
          case rel => exact ⟨j + 1, by omega, by go_num, HST6⟩
          case measure => simp [intOf]; omega
        · obtain rfl : j = n0 := by omega
          go_wp2_with fail
          go_meet
          exact HS
  case rest =>
    as_aux_lemma =>
      have HST1 : Hid _ := hcut
      obtain ⟨W1, rfl⟩ : ∃ W1 : World, W1 = wc := ⟨_, rfl⟩
      clear hcut HST HB1 HM1 hs1
      have hmk := run_make_row' (P := Yba.prog) 47 48 (.pointer none) 8 Yba.underlying47 info48 rfl .i64 .i64 n2 (by omega) (by omega)
      go_upto_block 2 with fail
      clear hmk
      have HR0 : Hid _ := World.rowIs_made W1 (.pointer none) n2 48
      have HST2 : Hid (St w (W1.alloc (.cells (madeCells #[.pointer none] n2) 48)) w.heap.size [] (firsts K0 n0) [] [] v00 (vfill v00 K0 (fun j => .string (atS V1 n1 j)) n0) v00 v00) := HST1.out.below ((Below.refl _ _).alloc (Nat.le_refl _) _)
      have hsz1 : w.heap.size + 6 ≤ W1.heap.size := HST1.out.2.1
      obtain ⟨g, hg⟩ : ∃ g, g = W1.heap.size := ⟨_, rfl⟩
      have HG : Hid (g = W1.heap.size) := hg
      rw [← hg] at hsz1 HR0 ⊢
      clear hg HST1
      go_cut [25, 26, 27] from 116 to 131 (fun _ _ _ wc => Hid (St w wc w.heap.size (firsts K2 n2) (firsts K0 n0) [] [] (vfill v00 K2 (ptrF g) n2) (vfill v00 K0 (fun j => .string (atS V1 n1 j)) n0) v00 v00) ∧ Hid (wc.rowIs g 48 n2 (ptrF g)))
      case first =>
        as_aux_lemma =>
          go_wp2_with fail
          go_loopw [116] (fun i wr => ∃ j : Nat, j ≤ n2 ∧ i = .int .i64 j ∧ Hid (St w wr w.heap.size (firsts K2 j) (firsts K0 n0) [] [] (vfill v00 K2 (ptrF g) j) (vfill v00 K0 (fun j => .string (atS V1 n1 j)) n0) v00 v00) ∧ Hid (wr.rowIs g 48 n2 (ptrP g j)) ∧ Hid (wr.heap.size = g + 1 + j)) (fun i _ => n2 - (intOf i).toNat)
          case atStart => exact ⟨0, Nat.zero_le _, rfl, HST2, World.rowIs.congr HR0.out (fun i _ => by simp [ptrP]), by show _ = _; simp [HG.out]⟩
          case round =>
            clear HST2 HR0
            obtain ⟨j, hj, rfl, HS, HR, HSZj⟩ := hrel
            by_cases hjn : j < n2
            · have hgr : g < wr.heap.size := by have := HSZj.out; omega
              rcases H2.out with h0 | ⟨gb, go, rfl, hc⟩
              · omega
              have hcell := cellB HS.out.1 (hc j hjn)
              clear hc
              obtain ⟨_, _, ⟨d0, _, _, _⟩, _⟩ := HS.out
              have r1 := HR.out.cell hjn
              have r2 := HR.out.frozen j
              have q1 : ¬ w.heap.size + 5 = g := by omega
              have q2 : ¬ g = w.heap.size + 5 := by omega
              have q3 : w.heap.size + 5 < wr.heap.size := by omega
              have hpj : Value.pointer (some ⟨wr.heap.size, 0, none⟩) = ptrF g j := by rw [HSZj.out]
              have HPJ : Hid (Value.pointer (some ⟨wr.heap.size, 0, none⟩) = ptrF g j) := hpj
              clear hpj
              have HSx : Hid (∀ o, St w ((wr.setCell ⟨g, j, none⟩ (.pointer (some ⟨wr.heap.size, 0, none⟩))).alloc o) w.heap.size (firsts K2 j) (firsts K0 n0) [] [] (vfill v00 K2 (ptrF g) j) (vfill v00 K0 (fun j => .string (atS V1 n1 j)) n0) v00 v00) :=
                fun o => (HS.out.row (grown_setCell wr g j _) hsz1).below ((Below.refl _ _).alloc (Nat.le_refl _) o)
              have HRx : Hid (∀ o, ((wr.setCell ⟨g, j, none⟩ (.pointer (some ⟨wr.heap.size, 0, none⟩))).alloc o).rowIs g 48 n2 (ptrP g (j + 1))) :=
                fun o => World.rowIs.congr ((HR.out.set j _).alloc o) (fun i hi => by
                  rw [HPJ.out]
                  by_cases e : i = j
                  · subst e; simp [ptrP]
                  · simp only [if_neg e, ptrP]
                    by_cases e2 : i < j
                    · rw [if_pos e2, if_pos (by omega)]
                    · rw [if_neg e2, if_neg (by omega)])
              go_wp2_with (at_mapUpdate; refine wpList_update_is rfl _ _ _ 39 rfl 9 48 Yba.underlying39 Yba.underlying9 (w.heap.size + 1) _ _ rfl (HSx.out _).2.2.2.1 (K2 j) _ rfl rfl ?_; intro w6 hm6 hg6 hs6; have HST6 : Hid _ := (HSx.out _).p hg6 hm6; have HR6 : Hid (w6.rowIs g 48 n2 (ptrP g (j + 1))) := World.rowIs.of_block (HRx.out _) (hg6.block g (by simp; omega) (by simp; omega)); have HS6 : Hid (w6.heap.size = wr.heap.size + 1) := (by show _ = _; rw [hs6]; simp); clear hm6 hg6 hs6)
              go_roundw
              case rel => exact ⟨j + 1, by omega, by go_num, by have := HST6.out; rw [HPJ.out] at this; exact this, HR6, by show _ = _; rw [HS6.out, HSZj.out]; omega⟩
              case measure => simp [intOf]; omega
            · obtain rfl : j = n2 := by omega
              go_wp2_with fail
              go_meet
              exact ⟨HS, World.rowIs.congr HR.out (fun i hi => by simp [ptrP, hi])⟩
      case rest =>
        as_aux_lemma =>
          obtain ⟨HST3, HR3⟩ := hcut
          obtain ⟨W2, rfl⟩ : ∃ W2 : World, W2 = wc := ⟨_, rfl⟩
          clear HST2 HR0 HG
          have hgW2 : g < W2.heap.size := HR3.out.lt
          have hq := fun W a n c n' c' => run_neq_slice_nil_any (P := Yba.prog) W 23 9 a n c n' c' Yba.underlying23
          go_upto_if 133 with fail
          clear hq
          obtain ⟨s5, hs5⟩ : ∃ s5, s5 = a5.isSome := ⟨_, rfl⟩
          rw [← hs5]
          have HS5 : Hid (s5 = a5.isSome) := hs5
          clear hs5
          go_cut [28, 29, 30] from 134 to 147 (fun p _ _ wc => ∃ mb, p = .map mb ∧ (mb = none ↔ a5 = none) ∧ Hid (MapO wc mb (firsts K5 n5) (vfill v00 K5 (fun j => .string (atS V6 n6 j)) n5)) ∧ Hid (∀ b, mb = some b → w.heap.size + 6 ≤ b) ∧ Hid (St w wc w.heap.size (firsts K2 n2) (firsts K0 n0) [] [] (vfill v00 K2 (ptrF g) n2) (vfill v00 K0 (fun j => .string (atS V1 n1 j)) n0) v00 v00) ∧ Hid (wc.rowIs g 48 n2 (ptrF g)))
          case first =>
            as_aux_lemma =>
              cases a5 with
              | none =>
                have e5 : s5 = false := HS5.out
                subst e5
                have HZ5 : Hid (n5 = 0) := (HNIL5.out rfl).1
                go_wp2_with fail
                go_meet
                exact ⟨none, rfl, by simp, .inl ⟨rfl, by rw [HZ5.out]; rfl⟩, (fun b h => by cases h), HST3, HR3⟩
              | some x5 =>
                have e5 : s5 = true := HS5.out
                subst e5
                have hmm := @run_makeMap Yba.prog
                go_wp2_with fail
                clear hmm
                have hsz2 : w.heap.size + 6 ≤ W2.heap.size := HST3.out.2.1
                have HST4 : Hid (St w (W2.alloc (.map #[] 0)) w.heap.size (firsts K2 n2) (firsts K0 n0) [] [] (vfill v00 K2 (ptrF g) n2) (vfill v00 K0 (fun j => .string (atS V1 n1 j)) n0) v00 v00) := HST3.out.below ((Below.refl _ _).alloc (Nat.le_refl _) _)
                have HM4 : Hid (MapIs (W2.alloc (.map #[] 0)) W2.heap.size [] v00) := mapIs_made W2 v00
                have HR4 : Hid ((W2.alloc (.map #[] 0)).rowIs g 48 n2 (ptrF g)) := HR3.out.alloc _
                obtain ⟨mm, hmme⟩ : ∃ mm, mm = W2.heap.size := ⟨_, rfl⟩
                rw [← hmme] at hsz2 HM4 ⊢
                have hgm : g < mm := by omega
                clear hmme
                go_loopw [137] (fun i wr => ∃ j : Nat, j ≤ n5 ∧ i = .int .i64 j ∧ Hid (St w wr w.heap.size (firsts K2 n2) (firsts K0 n0) [] [] (vfill v00 K2 (ptrF g) n2) (vfill v00 K0 (fun j => .string (atS V1 n1 j)) n0) v00 v00) ∧ Hid (wr.rowIs g 48 n2 (ptrF g)) ∧ Hid (MapIs wr mm (firsts K5 j) (vfill v00 K5 (fun j => .string (atS V6 n6 j)) j))) (fun i _ => n5 - (intOf i).toNat)
                case atStart => exact ⟨0, Nat.zero_le _, rfl, HST4, HR4, HM4⟩
                case round =>
                  clear HST4 HR4 HM4
                  obtain ⟨j, hj, rfl, HS, HR, HM⟩ := hrel
                  by_cases hjn : j < n5
                  · have HI6 : Hid (IsS wr a6 n6 V6) := H6.out.below HS.out.1
                    rcases H5.out with h0 | ⟨gb, go, he5, hc⟩
                    · omega
                    cases he5
                    have hcell := cellB HS.out.1 (hc j hjn)
                    clear hc
                    go_wp2_with (first | (go_at_call 12; refine (at12 a6 n6 _ V6 j _ HI6.out (by omega) (by omega)).mono ?_; rintro e w3 ⟨rfl, rfl⟩) | (at_mapUpdate; refine wpList_update_is rfl _ _ _ 40 rfl 9 9 Yba.underlying40 Yba.underlying9 mm _ _ rfl HM.out (K5 j) _ rfl rfl ?_; intro w6 hm6 hg6 hs6; have HM6 : Hid _ := hm6; have HST6 : Hid _ := HS.out.row hg6 (by omega); have HR6 : Hid (w6.rowIs g 48 n2 (ptrF g)) := World.rowIs.of_block HR.out (hg6.block g HR.out.lt (by simp; omega)); clear hm6 hg6 hs6))
                    go_roundw
                    case rel => exact ⟨j + 1, by omega, by go_num, HST6, HR6, HM6⟩
                    case measure => simp [intOf]; omega
                  · obtain rfl : j = n5 := by omega
                    go_wp2_with fail
                    go_meet
                    exact ⟨some mm, rfl, by simp, .inr ⟨mm, rfl, HM.out⟩, (fun b h => by cases h; omega), HS, HR⟩
          case rest =>
            as_aux_lemma =>
              obtain ⟨mb, rfl, hmb, HMO, HMB, HST5, HR5⟩ := hcut
              obtain ⟨W3, rfl⟩ : ∃ W3 : World, W3 = wc := ⟨_, rfl⟩
              have HMBN : Hid (mb = none ↔ a5 = none) := hmb
              clear hmb HST3 HR3
              have hg3 : g < W3.heap.size := HR5.out.lt
              go_upto_if 156 with (go_at_call 6; refine (clone6 a7 n7 c7 K7 _ (H7.out.below HST5.out.1) HNIL7.out (by omega)).mono ?_; rintro e w4 ⟨⟨va, vc, rfl, hva⟩, hb4⟩; have HVA : Hid _ := hva; have HB4 : Hid _ := hb4; clear hva hb4)
              have HEX0 : Hid _ := ex_new (a7 := a7) (c7 := c7) (HR5.out.of_block (HB4.out.block g HR5.out.lt)) (HMO.out.below HB4.out) HVA.out
              have HST6 : Hid _ := (HST5.out.below HB4.out).below (((Below.refl w4.heap.size w4).alloc (Nat.le_refl _) (.cells #[sC, sT] 51)).alloc (by simp) (.cells #[sC, sT, .map mb, .slice a7 n7 c7, .map none, .int .i64 2, .bool false] 53))
              obtain ⟨W5, hW5⟩ : ∃ W5, W5 = (w4.alloc (.cells #[sC, sT] 51)).alloc (.cells #[sC, sT, .map mb, .slice a7 n7 c7, .map none, .int .i64 2, .bool false] 53) := ⟨_, rfl⟩
              have hsz5 : W5.heap.size = w4.heap.size + 2 := by rw [hW5]; simp
              have hlo : w.heap.size + 6 ≤ W3.heap.size := HST5.out.2.1
              have hOBl : W3.heap.size ≤ w4.heap.size := HB4.out.size
              rw [← hW5] at HEX0 HST6 ⊢
              obtain ⟨OB, hOB⟩ : ∃ OB, OB = w4.heap.size := ⟨_, rfl⟩
              obtain ⟨lo, hloe⟩ : ∃ lo, lo = W3.heap.size := ⟨_, rfl⟩
              rw [← hOB] at HEX0 hsz5 hOBl ⊢
              rw [← hloe] at HEX0 hlo hOBl
              have HEX : Hid (Ex W5 g n2 mb (firsts K5 n5) (vfill v00 K5 (fun j => .string (atS V6 n6 j)) n5) lo va n7 K7 OB a7 c7) := HEX0.out
              have HSZ5 : Hid (W5.heap.size = OB + 2) := hsz5
              clear hW5 hOB hloe HEX0 HVA HB4 HST5 HMO HR5 hsz5
              go_cut [] from 157 to 160 (fun wc => Hid (St w wc w.heap.size (kpI im (firsts K2 n2) id) (firsts K0 n0) [] [] (vpI im (vfill v00 K2 (ptrF g) n2) id (.pointer (some ⟨OB + 1, 0, none⟩))) (vfill v00 K0 (fun j => .string (atS V1 n1 j)) n0) v00 v00) ∧ Hid (Keep w.heap.size W5 wc))
              case first =>
                as_aux_lemma =>
                  cases im with
                  | false =>
                    go_wp2_with fail
                    go_meet
                    exact ⟨HST6, Keep.refl _ _⟩
                  | true =>
                    obtain ⟨_, _, ⟨d0, _, _, _⟩, _⟩ := HST6.out
                    go_wp2_with (at_mapUpdate; refine wpList_update_is rfl _ _ _ 39 rfl 9 48 Yba.underlying39 Yba.underlying9 (w.heap.size + 1) _ _ rfl (St.mp HST6.out) id _ rfl rfl ?_; intro w6 hm6 hg6 hs6; have HST7 : Hid _ := St.p HST6.out hg6 hm6; have HK7 : Hid (Keep w.heap.size W5 w6) := (Keep.refl _ _).grown hg6 (.inl (by omega)); clear hm6 hg6 hs6)
                    go_meet
                    exact ⟨HST7, HK7⟩
              case rest =>
                as_aux_lemma =>
                  obtain ⟨HST8, HK8⟩ := hcut
                  obtain ⟨W6, rfl⟩ : ∃ W6 : World, W6 = wc := ⟨_, rfl⟩
                  clear HST6
                  have hmk := run_make_row' (P := Yba.prog) 54 55 (.pointer none) 8 Yba.underlying54 info55 rfl .i64 .i64 n8 (by omega) (by omega)
                  go_upto_block 6 with fail
                  clear hmk
                  have HR0 : Hid _ := World.rowIs_made W6 (.pointer none) n8 55
                  have HST9 : Hid _ := HST8.out.below ((Below.refl W6.heap.size W6).alloc (Nat.le_refl _) (.cells (madeCells #[.pointer none] n8) 55))
                  have HK9 : Hid _ := HK8.out.below ((Below.refl W6.heap.size W6).alloc (Nat.le_refl _) (.cells (madeCells #[.pointer none] n8) 55))
                  have hsz6 : W5.heap.size ≤ W6.heap.size := HK8.out.1
                  obtain ⟨g3, hg3e⟩ : ∃ g3, g3 = W6.heap.size := ⟨_, rfl⟩
                  have HG3 : Hid (g3 = W6.heap.size) := hg3e
                  rw [← hg3e] at hsz6 HR0 ⊢
                  clear hg3e
                  go_cut [35, 36, 37] from 166 to 181 (fun _ _ _ wc => Hid (St w wc w.heap.size (kpI im (firsts K2 n2) id) (firsts K0 n0) (firsts K8 n8) [] (vpI im (vfill v00 K2 (ptrF g) n2) id (.pointer (some ⟨OB + 1, 0, none⟩))) (vfill v00 K0 (fun j => .string (atS V1 n1 j)) n0) (vfill v00 K8 (ptrF g3) n8) v00) ∧ Hid (Keep w.heap.size W5 wc) ∧ Hid (wc.rowIs g3 55 n8 (ptrF g3)) ∧ Hid (Zs wc g3 n8))
                  case first =>
                    as_aux_lemma =>
                      go_wp2_with fail
                      go_loopw [166] (fun i wr => ∃ j : Nat, j ≤ n8 ∧ i = .int .i64 j ∧ Hid (St w wr w.heap.size (kpI im (firsts K2 n2) id) (firsts K0 n0) (firsts K8 j) [] (vpI im (vfill v00 K2 (ptrF g) n2) id (.pointer (some ⟨OB + 1, 0, none⟩))) (vfill v00 K0 (fun j => .string (atS V1 n1 j)) n0) (vfill v00 K8 (ptrF g3) j) v00) ∧ Hid (Keep w.heap.size W5 wr) ∧ Hid (wr.rowIs g3 55 n8 (ptrP g3 j)) ∧ Hid (Zs wr g3 j) ∧ Hid (wr.heap.size = g3 + 1 + j)) (fun i _ => n8 - (intOf i).toNat)
                      case atStart => exact ⟨0, Nat.zero_le _, rfl, HST9, HK9, World.rowIs.congr HR0.out (fun i _ => by simp [ptrP]), (fun i hi => absurd hi (Nat.not_lt_zero _)), by show _ = _; simp [HG3.out]⟩
                      case round =>
                        clear HST9 HK9 HR0
                        obtain ⟨j, hj, rfl, HS, HK, HR, HZ, HSZj⟩ := hrel
                        by_cases hjn : j < n8
                        · rcases H8.out with h0 | ⟨gb, go, rfl, hc⟩
                          · omega
                          have hcell := cellB HS.out.1 (hc j hjn)
                          clear hc
                          obtain ⟨_, _, ⟨_, _, d2, _⟩, _⟩ := HS.out
                          have r1 := HR.out.cell hjn
                          have r2 := HR.out.frozen j
                          have z1 := HSZj.out
                          have zz := HSZ5.out
                          have q1 : ¬ w.heap.size + 5 = g3 := by omega
                          have q2 : ¬ g3 = w.heap.size + 5 := by omega
                          have q3 : w.heap.size + 5 < wr.heap.size := by omega
                          have q4 : g3 < wr.heap.size := by omega
                          have q5 : W5.heap.size ≤ g3 := hsz6
                          have q6 : w.heap.size + 6 ≤ g3 := by omega
                          clear z1 zz
                          have hpj : Value.pointer (some ⟨wr.heap.size, 0, none⟩) = ptrF g3 j := by rw [HSZj.out]
                          have HPJ : Hid (Value.pointer (some ⟨wr.heap.size, 0, none⟩) = ptrF g3 j) := hpj
                          clear hpj
                          have HSx : Hid (∀ o, St w ((wr.setCell ⟨g3, j, none⟩ (.pointer (some ⟨wr.heap.size, 0, none⟩))).alloc o) w.heap.size (kpI im (firsts K2 n2) id) (firsts K0 n0) (firsts K8 j) [] (vpI im (vfill v00 K2 (ptrF g) n2) id (.pointer (some ⟨OB + 1, 0, none⟩))) (vfill v00 K0 (fun j => .string (atS V1 n1 j)) n0) (vfill v00 K8 (ptrF g3) j) v00) :=
                            fun o => (HS.out.row (grown_setCell wr g3 j _) q6).below ((Below.refl _ _).alloc (Nat.le_refl _) o)
                          have HKx : Hid (∀ o, Keep w.heap.size W5 ((wr.setCell ⟨g3, j, none⟩ (.pointer (some ⟨wr.heap.size, 0, none⟩))).alloc o)) :=
                            fun o => (HK.out.grown (grown_setCell wr g3 j _) (.inr q5)).below ((Below.refl _ _).alloc (Nat.le_refl _) o)
                          have HRx : Hid (∀ o, ((wr.setCell ⟨g3, j, none⟩ (.pointer (some ⟨wr.heap.size, 0, none⟩))).alloc o).rowIs g3 55 n8 (ptrP g3 (j + 1))) :=
                            fun o => World.rowIs.congr ((HR.out.set j _).alloc o) (fun i hi => by
                              rw [HPJ.out]
                              by_cases e : i = j
                              · subst e; simp [ptrP]
                              · simp only [if_neg e, ptrP]
                                by_cases e2 : i < j
                                · rw [if_pos e2, if_pos (by omega)]
                                · rw [if_neg e2, if_neg (by omega)])
                          have HZx : Hid (Zs ((wr.setCell ⟨g3, j, none⟩ (.pointer (some ⟨wr.heap.size, 0, none⟩))).alloc (.cells Z59 59)) g3 (j + 1)) := fun i hi => zs_step (HZ.out) HSZj.out i hi
                          go_wp2_with (at_mapUpdate; refine wpList_update_is rfl _ _ _ 41 rfl 9 55 Yba.underlying41 Yba.underlying9 (w.heap.size + 3) _ _ rfl (HSx.out _).2.2.2.2.2.1 (K8 j) _ rfl rfl ?_; intro w6 hm6 hg6 hs6; have HST6 : Hid _ := (HSx.out _).f hg6 hm6; have HK6 : Hid _ := (HKx.out _).grown hg6 (.inl (by omega)); have HR6 : Hid (w6.rowIs g3 55 n8 (ptrP g3 (j + 1))) := World.rowIs.of_block (HRx.out _) (hg6.block g3 (by simp; omega) (by simp; omega)); have HZ6 : Hid (Zs w6 g3 (j + 1)) := zs_grown HZx.out hg6 (by omega); have HS6 : Hid (w6.heap.size = wr.heap.size + 1) := (by show _ = _; rw [hs6]; simp); clear hm6 hg6 hs6)
                          go_roundw
                          case rel => exact ⟨j + 1, by omega, by go_num, by have := HST6.out; rw [HPJ.out] at this; exact this, HK6, HR6, HZ6, by show _ = _; rw [HS6.out, HSZj.out]; omega⟩
                          case measure => simp [intOf]; omega
                        · obtain rfl : j = n8 := by omega
                          go_wp2_with fail
                          go_meet
                          exact ⟨HS, HK, World.rowIs.congr HR.out (fun i hi => by simp [ptrP, hi]), HZ⟩
                  case rest =>
                    as_aux_lemma =>
                      obtain ⟨HST10, HK10, HR10, HZ10⟩ := hcut
                      obtain ⟨W7, rfl⟩ : ∃ W7 : World, W7 = wc := ⟨_, rfl⟩
                      have z5 := HSZ5.out
                      have HEX7 : Hid (Ex W7 g n2 mb (firsts K5 n5) (vfill v00 K5 (fun j => .string (atS V6 n6 j)) n5) lo va n7 K7 OB a7 c7) := HEX.out.keep HK10.out (by omega) HMB.out hlo (by omega)
                      have hg3b : w.heap.size + 6 ≤ g3 := by omega
                      have hOB6 : w.heap.size + 6 ≤ OB := by omega
                      clear z5 HST9 HK9 HR0 HG3 HST8 HK8 HEX HK10
                      go_upto_block 8 with fail
                      go_cut [38, 39] from 184 to 195 (fun _ _ wc => Hid (St w wc w.heap.size (kpI im (firsts K2 n2) id) (firsts K0 n0) (firsts K8 n8) (firsts K9 n9) (vpI im (vfill v00 K2 (ptrF g) n2) id (.pointer (some ⟨OB + 1, 0, none⟩))) (vfill v00 K0 (fun j => .string (atS V1 n1 j)) n0) (vfill v00 K8 (ptrF g3) n8) (vfill v00 K9 (trm K9) n9)) ∧ Hid (Keep w.heap.size W7 wc))
                      case first =>
                        as_aux_lemma =>
                          go_wp2_with fail
                          go_loopw [184] (fun i wr => ∃ j : Nat, j ≤ n9 ∧ i = .int .i64 j ∧ Hid (St w wr w.heap.size (kpI im (firsts K2 n2) id) (firsts K0 n0) (firsts K8 n8) (firsts K9 j) (vpI im (vfill v00 K2 (ptrF g) n2) id (.pointer (some ⟨OB + 1, 0, none⟩))) (vfill v00 K0 (fun j => .string (atS V1 n1 j)) n0) (vfill v00 K8 (ptrF g3) n8) (vfill v00 K9 (trm K9) j)) ∧ Hid (Keep w.heap.size W7 wr)) (fun i _ => n9 - (intOf i).toNat)
                          case atStart => exact ⟨0, Nat.zero_le _, rfl, HST10, Keep.refl _ _⟩
                          case round =>
                            obtain ⟨j, hj, rfl, HS, HK⟩ := hrel
                            by_cases hjn : j < n9
                            · rcases H9.out with h0 | ⟨gb, go, rfl, hc⟩
                              · omega
                              have hcell := cellB HS.out.1 (hc j hjn)
                              clear hc
                              obtain ⟨_, _, ⟨_, _, _, d3⟩, _⟩ := HS.out
                              go_wp2_with (at_mapUpdate; refine wpList_update_is rfl _ _ _ 42 rfl 9 61 Yba.underlying42 Yba.underlying9 (w.heap.size + 4) _ _ rfl HS.out.2.2.2.2.2.2 (K9 j) _ rfl rfl ?_; intro w6 hm6 hg6 hs6; have HST6 : Hid _ := St.t HS.out hg6 hm6; have HK6 : Hid _ := HK.out.grown hg6 (.inl (by omega)); clear hm6 hg6 hs6)
                              go_roundw
                              case rel => exact ⟨j + 1, by omega, by go_num, HST6, HK6⟩
                              case measure => simp [intOf]; omega
                            · obtain rfl : j = n9 := by omega
                              go_wp2_with fail
                              go_meet
                              exact ⟨HS, HK⟩
                      case rest =>
                        as_aux_lemma =>
                          obtain ⟨HST11, HK11⟩ := hcut
                          obtain ⟨W8, rfl⟩ : ∃ W8 : World, W8 = wc := ⟨_, rfl⟩
                          have HEX8 : Hid (Ex W8 g n2 mb (firsts K5 n5) (vfill v00 K5 (fun j => .string (atS V6 n6 j)) n5) lo va n7 K7 OB a7 c7) := HEX7.out.keep HK11.out (by omega) HMB.out hlo hOB6
                          have HR11 : Hid (W8.rowIs g3 55 n8 (ptrF g3)) := HK11.out.rowIs HR10.out (by omega)
                          have HZ11 : Hid (Zs W8 g3 n8) := zs_keep HZ10.out HK11.out (by omega)
                          clear HST10 HEX7 HR10 HZ10 HK11
                          go_upto_block 10 with (go_at_call 13; refine (rel13 HST11.out HEX8.out HS5K.out H7.out HNIL7.out (by omega) (by omega)).mono ?_; rintro e w9 ⟨rfl, hst, hk⟩; have HST12 : Hid _ := hst; have HK12 : Hid _ := hk; clear hst hk)
                          have HEX9 : Hid (Ex w9 g n2 mb (firsts K5 n5) (vfill v00 K5 (fun j => .string (atS V6 n6 j)) n5) lo va n7 K7 OB a7 c7) := HEX8.out.keep HK12.out (by omega) HMB.out hlo hOB6
                          have HR9 : Hid (w9.rowIs g3 55 n8 (ptrF g3)) := Keep.rowIs HK12.out HR11.out (by omega)
                          have HZ9 : Hid (Zs w9 g3 n8) := zs_keep HZ11.out HK12.out (by omega)
                          have HW9 : Hid (Below w.heap.size w w9) := HST12.out.1
                          have HD : Hid (w9.cell? ⟨w.heap.size + 5, 0, none⟩ = some (.map (some (w.heap.size + 1))) ∧ w9.cell? ⟨w.heap.size + 5, 1, none⟩ = some (.map (some (w.heap.size + 2))) ∧ w9.cell? ⟨w.heap.size + 5, 2, none⟩ = some (.map (some (w.heap.size + 3))) ∧ w9.cell? ⟨w.heap.size + 5, 3, none⟩ = some (.map (some (w.heap.size + 4)))) := HST12.out.2.2.1
                          have HMp : Hid (MapIs w9 (w.heap.size + 1) (delK (firsts K2 n2) id) (vpI im (vfill v00 K2 (ptrF g) n2) id (.pointer (some ⟨OB + 1, 0, none⟩)))) := by have := HST12.out.2.2.2.1; rw [delK_kpI] at this; exact this
                          have HMh : Hid (MapIs w9 (w.heap.size + 2) ((firsts K0 n0).filter (gone (firsts K5 n5) K7 n7)) (vfill v00 K0 (fun j => .string (atS V1 n1 j)) n0)) := HST12.out.2.2.2.2.1
                          have HMf : Hid (MapIs w9 (w.heap.size + 3) (firsts K8 n8) (vfill v00 K8 (ptrF g3) n8)) := HST12.out.2.2.2.2.2.1
                          have HMt : Hid (MapIs w9 (w.heap.size + 4) (firsts K9 n9) (vfill v00 K9 (trm K9) n9)) := HST12.out.2.2.2.2.2.2
                          clear HST12 HK12 HST11 HEX8 HR11 HZ11
                          go_cut [40, 41, 42, 43, 44, 45] from 201 to 241 (fun p _ _ _ _ _ wc => p = .int .i64 (cnt K0 (gone (firsts K5 n5) K7 n7) n0 : Nat) ∧ w9 = wc)
                          case first =>
                            as_aux_lemma =>
                              go_wp2_with fail
                              go_loopw [40, 201] (fun p i wr => ∃ j : Nat, j ≤ n0 ∧ i = .int .i64 j ∧ p = .int .i64 (cnt K0 (gone (firsts K5 n5) K7 n7) j : Nat) ∧ w9 = wr) (fun _ i _ => n0 - (intOf i).toNat)
                              case atStart => exact ⟨0, Nat.zero_le _, rfl, rfl, rfl⟩
                              case round =>
                                obtain ⟨j, hj, rfl, rfl, rfl⟩ := hrel
                                by_cases hjn : j < n0
                                · have HI0 : Hid (IsS w9 a0 n0 K0) := H0.out.below HW9.out
                                  have HI1 : Hid (IsS w9 a1 n1 V1) := H1.out.below HW9.out
                                  have HI5 : Hid (IsS w9 a5 n5 K5) := H5.out.below HW9.out
                                  have HI7 : Hid (IsS w9 a7 n7 K7) := H7.out.below HW9.out
                                  have hcl := cnt_le K0 (gone (firsts K5 n5) K7 n7) j
                                  obtain ⟨_, d1, _, _⟩ := HD.out
                                  obtain ⟨kj, hkj⟩ : ∃ kj, kj = K0 j := ⟨_, rfl⟩
                                  have HKJ : Hid (kj = K0 j) := hkj
                                  have hcell : ∃ gb go, a0 = some ⟨gb, go, none⟩ ∧ w9.cell? ⟨gb, go + j, none⟩ = some (.string kj) := by
                                    rcases HI0.out with h0 | ⟨gb, go, h, hc⟩
                                    · omega
                                    · exact ⟨gb, go, h, by rw [hkj]; exact hc j hjn⟩
                                  clear hkj
                                  obtain ⟨gb, go, ha0, hcell⟩ := hcell
                                  subst ha0
                                  have HG := gone_eq K5 K7 n5 n7 kj
                                  cases e5 : inRow K5 n5 kj with
                                  | true =>
                                    have hgf : gone (firsts K5 n5) K7 n7 kj = false := by rw [HG, e5]; rfl
                                    have HGF : Hid (gone (firsts K5 n5) K7 n7 kj = false) := hgf
                                    have HE5 : Hid (inRow K5 n5 kj = true) := e5
                                    clear HG hgf e5
                                    go_wp2_with (first | (at_lookup; refine wpList_lookup_is rfl _ _ 40 rfl 9 9 Yba.underlying40 Yba.underlying9 (zero9 _) (w.heap.size + 2) _ _ rfl HMh.out kj rfl (.string ByteArray.empty) false (by rw [filt_has HGF.out]; rfl) (filt_has HGF.out) ?_) | (go_at_call 14; refine (contains14 a5 n5 _ K5 kj _ HI5.out (by omega)).mono ?_; rw [HE5.out]; rintro e w' ⟨rfl, rfl⟩))
                                    go_roundw
                                    case rel => exact ⟨j + 1, by omega, by go_num, by rw [cnt_no _ _ _ (by rw [← HKJ.out]; exact HGF.out)], trivial⟩
                                    case measure => simp [intOf]; omega
                                  | false =>
                                    cases e7 : inRow K7 n7 kj with
                                    | true =>
                                      have hgf : gone (firsts K5 n5) K7 n7 kj = false := by rw [HG, e5, e7]; rfl
                                      have HGF : Hid (gone (firsts K5 n5) K7 n7 kj = false) := hgf
                                      have HE5 : Hid (inRow K5 n5 kj = false) := e5
                                      have HE7 : Hid (inRow K7 n7 kj = true) := e7
                                      clear HG hgf e5 e7
                                      have tok5 : True := trivial
                                      go_wp2_with (first | (at_lookup; refine wpList_lookup_is rfl _ _ 40 rfl 9 9 Yba.underlying40 Yba.underlying9 (zero9 _) (w.heap.size + 2) _ _ rfl HMh.out kj rfl (.string ByteArray.empty) false (by rw [filt_has HGF.out]; rfl) (filt_has HGF.out) ?_) | (go_at_call 14; have _t := tok5; refine (contains14 a5 n5 _ K5 kj _ HI5.out (by omega)).mono ?_; rw [HE5.out]; rintro e w' ⟨rfl, rfl⟩; clear tok5) | (go_at_call 14; refine (contains14 a7 n7 _ K7 kj _ HI7.out (by omega)).mono ?_; rw [HE7.out]; rintro e w' ⟨rfl, rfl⟩))
                                      go_roundw
                                      case rel => exact ⟨j + 1, by omega, by go_num, by rw [cnt_no _ _ _ (by rw [← HKJ.out]; exact HGF.out)], trivial⟩
                                      case measure => simp [intOf]; omega
                                    | false =>
                                      have hgt : gone (firsts K5 n5) K7 n7 kj = true := by rw [HG, e5, e7]; rfl
                                      have HGT : Hid (gone (firsts K5 n5) K7 n7 kj = true) := hgt
                                      have HE5 : Hid (inRow K5 n5 kj = false) := e5
                                      have HE7 : Hid (inRow K7 n7 kj = false) := e7
                                      obtain ⟨l, hl, hlix, hKl, hval⟩ := last_spec v00 K0 (fun j => .string (atS V1 n1 j)) n0 kj ⟨j, hjn, HKJ.out.symm⟩
                                      have HLH : Hid (((firsts K0 n0).filter (gone (firsts K5 n5) K7 n7)).contains kj = true) := filt_has' hgt ((mem_firsts K0 n0 kj).2 ⟨j, hjn, HKJ.out.symm⟩)
                                      have HLV : Hid ((if ((firsts K0 n0).filter (gone (firsts K5 n5) K7 n7)).contains kj then vfill v00 K0 (fun j => .string (atS V1 n1 j)) n0 kj else .string ByteArray.empty) = .string (atS V1 n1 l)) := by show _ = _; rw [if_pos HLH.out, hval]
                                      have HLX : Hid (lastIx K0 n0 kj = (l : Int)) := hlix
                                      have HFX : Hid (fstIx K0 n0 kj = (j : Int) ↔ (firsts K0 j).contains (K0 j) = false) := by show _ ↔ _; rw [HKJ.out]; exact fstIx_eq K0 n0 j hjn
                                      clear HG hgt e5 e7 hval hlix hKl
                                      have tok5 : True := trivial
                                      cases ef : (firsts K0 j).contains (K0 j) with
                                      | false =>
                                        have hfx : fstIx K0 n0 kj = (j : Int) := HFX.out.2 ef
                                        have HEF : Hid ((firsts K0 j).contains (K0 j) = false) := ef
                                        clear ef
                                        go_wp2_with (first | (at_lookup; refine wpList_lookup_is rfl _ _ 40 rfl 9 9 Yba.underlying40 Yba.underlying9 (zero9 _) (w.heap.size + 2) _ _ rfl HMh.out kj rfl (.string (atS V1 n1 l)) true HLV.out HLH.out ?_) | (go_at_call 14; have _t := tok5; refine (contains14 a5 n5 _ K5 kj _ HI5.out (by omega)).mono ?_; rw [HE5.out]; rintro e w' ⟨rfl, rfl⟩; clear tok5) | (go_at_call 14; refine (contains14 a7 n7 _ K7 kj _ HI7.out (by omega)).mono ?_; rw [HE7.out]; rintro e w' ⟨rfl, rfl⟩) | (go_at_call 15; refine (last15 _ n0 _ K0 kj _ HI0.out (by omega)).mono ?_; rw [HLX.out]; rintro e w' ⟨rfl, rfl⟩) | (go_at_call 12; refine (at12 a1 n1 _ V1 l _ HI1.out (by omega) (by omega)).mono ?_; rintro e w' ⟨rfl, rfl⟩) | (go_at_call 16; refine (index16 _ n0 _ K0 kj _ HI0.out (by omega)).mono ?_; rintro e w' ⟨rfl, rfl⟩))
                                        go_roundw
                                        case rel => exact ⟨j + 1, by omega, by go_num, by rw [cnt_new _ _ _ (by rw [← HKJ.out]; exact HGT.out) HEF.out]; go_num, trivial⟩
                                        case measure => simp [intOf]; omega
                                      | true =>
                                        have hfx : (fstIx K0 n0 kj == (j : Int)) = false := by
                                          rw [beq_eq_false_iff_ne]
                                          intro e
                                          rw [HFX.out.1 e] at ef
                                          cases ef
                                        have HEF : Hid ((firsts K0 j).contains (K0 j) = true) := ef
                                        clear ef
                                        go_wp2_with (first | (at_lookup; refine wpList_lookup_is rfl _ _ 40 rfl 9 9 Yba.underlying40 Yba.underlying9 (zero9 _) (w.heap.size + 2) _ _ rfl HMh.out kj rfl (.string (atS V1 n1 l)) true HLV.out HLH.out ?_) | (go_at_call 14; have _t := tok5; refine (contains14 a5 n5 _ K5 kj _ HI5.out (by omega)).mono ?_; rw [HE5.out]; rintro e w' ⟨rfl, rfl⟩; clear tok5) | (go_at_call 14; refine (contains14 a7 n7 _ K7 kj _ HI7.out (by omega)).mono ?_; rw [HE7.out]; rintro e w' ⟨rfl, rfl⟩) | (go_at_call 15; refine (last15 _ n0 _ K0 kj _ HI0.out (by omega)).mono ?_; rw [HLX.out]; rintro e w' ⟨rfl, rfl⟩) | (go_at_call 12; refine (at12 a1 n1 _ V1 l _ HI1.out (by omega) (by omega)).mono ?_; rintro e w' ⟨rfl, rfl⟩) | (go_at_call 16; refine (index16 _ n0 _ K0 kj _ HI0.out (by omega)).mono ?_; rintro e w' ⟨rfl, rfl⟩))
                                        go_roundw
                                        case rel => exact ⟨j + 1, by omega, by go_num, by rw [cnt_old _ _ _ HEF.out], trivial⟩
                                        case measure => simp [intOf]; omega
                                · obtain rfl : j = n0 := by omega
                                  go_wp2_with fail
                                  go_meet
                                  exact ⟨rfl, rfl⟩
                          case rest =>
                            as_aux_lemma =>
                              obtain ⟨rfl, rfl⟩ := hcut
                              have hcl := cnt_le K0 (gone (firsts K5 n5) K7 n7) n0
                              obtain ⟨dd0, dd1, dd2, dd3⟩ := HD.out
                              have hlen : ((firsts K0 n0).filter (gone (firsts K5 n5) K7 n7)).length = cnt K0 (gone (firsts K5 n5) K7 n7) n0 := rfl
                              go_upto_block 12 with (at_len; refine wpList_len_is rfl _ 40 rfl 9 9 Yba.underlying40 (w.heap.size + 2) _ _ rfl HMh.out ?_; rw [hlen])
                              clear hlen
                              go_cut [47, 48, 49] from 249 to 261 (fun _ _ _ wc => w9 = wc)
                              case first =>
                                as_aux_lemma =>
                                  go_wp2_with fail
                                  go_loopw [249] (fun i wr => ∃ j : Nat, j ≤ n5 ∧ i = .int .i64 j ∧ w9 = wr) (fun i _ => n5 - (intOf i).toNat)
                                  case atStart => exact ⟨0, Nat.zero_le _, rfl, rfl⟩
                                  case round =>
                                    obtain ⟨j, hj, rfl, rfl⟩ := hrel
                                    by_cases hjn : j < n5
                                    · have hcell : ∃ gb go, a5 = some ⟨gb, go, none⟩ ∧ w9.cell? ⟨gb, go + j, none⟩ = some (.string (K5 j)) := by
                                        rcases H5.out.below HW9.out with h0 | ⟨gb, go, h, hc⟩
                                        · omega
                                        · exact ⟨gb, go, h, hc j hjn⟩
                                      obtain ⟨gb, go, ha0, hcell⟩ := hcell
                                      subst ha0
                                      have HGF : Hid (gone (firsts K5 n5) K7 n7 (K5 j) = false) := by show _ = _; rw [gone_eq, (inRow_iff K5 n5 (K5 j)).2 ⟨j, hjn, rfl⟩]; rfl
                                      go_wp2_with (at_lookup; refine wpList_lookup_is rfl _ _ 40 rfl 9 9 Yba.underlying40 Yba.underlying9 (zero9 _) (w.heap.size + 2) _ _ rfl HMh.out (K5 j) rfl (.string ByteArray.empty) false (by rw [filt_has HGF.out]; rfl) (filt_has HGF.out) ?_)
                                      go_roundw
                                      case rel => exact ⟨j + 1, by omega, by go_num, trivial⟩
                                      case measure => simp [intOf]; omega
                                    · obtain rfl : j = n5 := by omega
                                      go_wp2_with fail
                                      go_meet
                                      exact rfl
                              case rest =>
                                as_aux_lemma =>
                                  obtain rfl := hcut
                                  go_upto_block 14 with fail
                                  go_cut [51, 52, 53] from 264 to 276 (fun _ _ _ wc => w9 = wc)
                                  case first =>
                                    as_aux_lemma =>
                                      go_wp2_with fail
                                      go_loopw [264] (fun i wr => ∃ j : Nat, j ≤ n7 ∧ i = .int .i64 j ∧ w9 = wr) (fun i _ => n7 - (intOf i).toNat)
                                      case atStart => exact ⟨0, Nat.zero_le _, rfl, rfl⟩
                                      case round =>
                                        obtain ⟨j, hj, rfl, rfl⟩ := hrel
                                        by_cases hjn : j < n7
                                        · have hcell : ∃ gb go, a7 = some ⟨gb, go, none⟩ ∧ w9.cell? ⟨gb, go + j, none⟩ = some (.string (K7 j)) := by
                                            rcases H7.out.below HW9.out with h0 | ⟨gb, go, h, hc⟩
                                            · omega
                                            · exact ⟨gb, go, h, hc j hjn⟩
                                          obtain ⟨gb, go, ha0, hcell⟩ := hcell
                                          subst ha0
                                          have HGF : Hid (gone (firsts K5 n5) K7 n7 (K7 j) = false) := by show _ = _; rw [gone_eq, (inRow_iff K7 n7 (K7 j)).2 ⟨j, hjn, rfl⟩]; simp
                                          go_wp2_with (at_lookup; refine wpList_lookup_is rfl _ _ 40 rfl 9 9 Yba.underlying40 Yba.underlying9 (zero9 _) (w.heap.size + 2) _ _ rfl HMh.out (K7 j) rfl (.string ByteArray.empty) false (by rw [filt_has HGF.out]; rfl) (filt_has HGF.out) ?_)
                                          go_roundw
                                          case rel => exact ⟨j + 1, by omega, by go_num, trivial⟩
                                          case measure => simp [intOf]; omega
                                        · obtain rfl : j = n7 := by omega
                                          go_wp2_with fail
                                          go_meet
                                          exact rfl
                                  case rest =>
                                    as_aux_lemma =>
                                      obtain rfl := hcut
                                      go_upto_block 16 with fail
                                      go_cut [40, 54, 55, 56, 57] from 279 to 314 (fun p _ _ _ _ wc => p = .int .i64 (cnt K2 (notId id) n2 : Nat) ∧ w9 = wc)
                                      case first =>
                                        as_aux_lemma =>
                                          go_wp2_with fail
                                          go_loopw [40, 279] (fun p i wr => ∃ j : Nat, j ≤ n2 ∧ i = .int .i64 j ∧ p = .int .i64 (cnt K2 (notId id) j : Nat) ∧ w9 = wr) (fun _ i _ => n2 - (intOf i).toNat)
                                          case atStart => exact ⟨0, Nat.zero_le _, rfl, rfl, rfl⟩
                                          case round =>
                                            obtain ⟨j, hj, rfl, rfl, rfl⟩ := hrel
                                            by_cases hjn : j < n2
                                            · have HI2 : Hid (IsS w9 a2 n2 K2) := H2.out.below HW9.out
                                              have hcl := cnt_le K2 (notId id) j
                                              obtain ⟨kj, hkj⟩ : ∃ kj, kj = K2 j := ⟨_, rfl⟩
                                              have HKJ : Hid (kj = K2 j) := hkj
                                              have hcell : ∃ gb go, a2 = some ⟨gb, go, none⟩ ∧ w9.cell? ⟨gb, go + j, none⟩ = some (.string kj) := by
                                                rcases HI2.out with h0 | ⟨gb, go, h, hc⟩
                                                · omega
                                                · exact ⟨gb, go, h, by rw [hkj]; exact hc j hjn⟩
                                              clear hkj
                                              obtain ⟨gb, go, ha0, hcell⟩ := hcell
                                              subst ha0
                                              cases ei : kj.toList == id.toList with
                                              | true =>
                                                have HNI : Hid (notId id kj = false) := notId_no ei
                                                go_wp2_with (at_lookup; refine wpList_lookup_is rfl _ _ 39 rfl 9 48 Yba.underlying39 Yba.underlying9 (zeroP48 _) (w.heap.size + 1) _ _ rfl HMp.out kj rfl (.pointer none) false (by rw [delK_eq, filt_has HNI.out]; rfl) (by rw [delK_eq]; exact filt_has HNI.out) ?_)
                                                go_roundw
                                                case rel => exact ⟨j + 1, by omega, by go_num, by rw [cnt_no _ _ _ (by rw [← HKJ.out]; exact HNI.out)], trivial⟩
                                                case measure => simp [intOf]; omega
                                              | false =>
                                                have HNI : Hid (notId id kj = true) := notId_yes ei
                                                obtain ⟨l, hl, hlix, hKl, hval⟩ := last_spec v00 K2 (ptrF g) n2 kj ⟨j, hjn, HKJ.out.symm⟩
                                                have HLH : Hid ((delK (firsts K2 n2) id).contains kj = true) := filt_has' HNI.out ((mem_firsts K2 n2 kj).2 ⟨j, hjn, HKJ.out.symm⟩)
                                                have HLV : Hid ((if (delK (firsts K2 n2) id).contains kj then vpI im (vfill v00 K2 (ptrF g) n2) id (.pointer (some ⟨OB + 1, 0, none⟩)) kj else .pointer none) = ptrF g l) := by show _ = _; rw [if_pos HLH.out, vpI_ne _ _ _ _ _ (ne_of_list ei), hval]
                                                have HLX : Hid (lastIx K2 n2 kj = (l : Int)) := hlix
                                                have HFX : Hid (fstIx K2 n2 kj = (j : Int) ↔ (firsts K2 j).contains (K2 j) = false) := by show _ ↔ _; rw [HKJ.out]; exact fstIx_eq K2 n2 j hjn
                                                have hpl : w9.cell? ⟨g, l, none⟩ = some (ptrF g l) := HEX9.out.1.cell hl
                                                have hzz := neqP48
                                                clear hval hlix hKl
                                                cases ef : (firsts K2 j).contains (K2 j) with
                                                | false =>
                                                  have hfx : fstIx K2 n2 kj = (j : Int) := HFX.out.2 ef
                                                  have HEF : Hid ((firsts K2 j).contains (K2 j) = false) := ef
                                                  clear ef
                                                  go_wp2_with (first | (at_lookup; refine wpList_lookup_is rfl _ _ 39 rfl 9 48 Yba.underlying39 Yba.underlying9 (zeroP48 _) (w.heap.size + 1) _ _ rfl HMp.out kj rfl (ptrF g l) true HLV.out HLH.out ?_) | (go_at_call 15; refine (last15 _ n2 _ K2 kj _ HI2.out (by omega)).mono ?_; rw [HLX.out]; rintro e w' ⟨rfl, rfl⟩) | (go_at_call 16; refine (index16 _ n2 _ K2 kj _ HI2.out (by omega)).mono ?_; rintro e w' ⟨rfl, rfl⟩))
                                                  go_roundw
                                                  case rel => exact ⟨j + 1, by omega, by go_num, by rw [cnt_new _ _ _ (by rw [← HKJ.out]; exact HNI.out) HEF.out]; go_num, trivial⟩
                                                  case measure => simp [intOf]; omega
                                                | true =>
                                                  have hfx : (fstIx K2 n2 kj == (j : Int)) = false := by
                                                    rw [beq_eq_false_iff_ne]
                                                    intro e
                                                    rw [HFX.out.1 e] at ef
                                                    cases ef
                                                  have HEF : Hid ((firsts K2 j).contains (K2 j) = true) := ef
                                                  clear ef
                                                  go_wp2_with (first | (at_lookup; refine wpList_lookup_is rfl _ _ 39 rfl 9 48 Yba.underlying39 Yba.underlying9 (zeroP48 _) (w.heap.size + 1) _ _ rfl HMp.out kj rfl (ptrF g l) true HLV.out HLH.out ?_) | (go_at_call 15; refine (last15 _ n2 _ K2 kj _ HI2.out (by omega)).mono ?_; rw [HLX.out]; rintro e w' ⟨rfl, rfl⟩) | (go_at_call 16; refine (index16 _ n2 _ K2 kj _ HI2.out (by omega)).mono ?_; rintro e w' ⟨rfl, rfl⟩))
                                                  go_roundw
                                                  case rel => exact ⟨j + 1, by omega, by go_num, by rw [cnt_old _ _ _ HEF.out], trivial⟩
                                                  case measure => simp [intOf]; omega
                                            · obtain rfl : j = n2 := by omega
                                              go_wp2_with fail
                                              go_meet
                                              exact ⟨rfl, rfl⟩
                                      case rest =>
                                        as_aux_lemma =>
                                          obtain ⟨rfl, rfl⟩ := hcut
                                          have hcl2 := cnt_le K2 (notId id) n2
                                          have HID : Hid ((delK (firsts K2 n2) id).contains id = false) := filt_has (notId_id id)
                                          go_upto_block 18 with (first | (at_lookup; refine wpList_lookup_is rfl _ _ 39 rfl 9 48 Yba.underlying39 Yba.underlying9 (zeroP48 _) (w.heap.size + 1) _ _ rfl HMp.out id rfl (.pointer none) false (by rw [HID.out]; rfl) HID.out ?_) | (at_len; refine wpList_len_n rfl _ 39 rfl 9 48 Yba.underlying39 (w.heap.size + 1) _ _ rfl HMp.out (cnt K2 (notId id) n2) rfl ?_))
                                          go_cut [40, 60, 61, 62, 63] from 330 to 368 (fun p _ _ _ _ wc => p = .int .i64 (cnt K8 all1 n8 : Nat) ∧ w9 = wc)
                                          case first =>
                                            as_aux_lemma =>
                                              go_wp2_with fail
                                              go_loopw [40, 330] (fun p i wr => ∃ j : Nat, j ≤ n8 ∧ i = .int .i64 j ∧ p = .int .i64 (cnt K8 all1 j : Nat) ∧ w9 = wr) (fun _ i _ => n8 - (intOf i).toNat)
                                              case atStart => exact ⟨0, Nat.zero_le _, rfl, rfl, rfl⟩
                                              case round =>
                                                obtain ⟨j, hj, rfl, rfl, rfl⟩ := hrel
                                                by_cases hjn : j < n8
                                                · have HI : Hid (IsS w9 a8 n8 K8) := H8.out.below HW9.out
                                                  have hcl := cnt_le K8 all1 j
                                                  obtain ⟨kj, hkj⟩ : ∃ kj, kj = K8 j := ⟨_, rfl⟩
                                                  have HKJ : Hid (kj = K8 j) := hkj
                                                  have hcell : ∃ gb go, a8 = some ⟨gb, go, none⟩ ∧ World.cell? w9 ⟨gb, go + j, none⟩ = some (.string kj) := by
                                                    rcases HI.out with h0 | ⟨gb, go, h, hc⟩
                                                    · omega
                                                    · exact ⟨gb, go, h, by rw [hkj]; exact hc j hjn⟩
                                                  clear hkj
                                                  obtain ⟨gb, go, ha0, hcell⟩ := hcell
                                                  subst ha0
                                                  obtain ⟨l, hl, hlix, hKl, hval⟩ := last_spec v00 K8 (ptrF g3) n8 kj ⟨j, hjn, HKJ.out.symm⟩
                                                  have HLH : Hid ((firsts K8 n8).contains kj = true) := firsts_in K8 n8 kj ⟨j, hjn, HKJ.out.symm⟩
                                                  have HLV : Hid ((if (firsts K8 n8).contains kj then vfill v00 K8 (ptrF g3) n8 kj else .pointer none) = ptrF g3 l) := by show _ = _; rw [if_pos HLH.out, hval]
                                                  have HLX : Hid (lastIx K8 n8 kj = (l : Int)) := hlix
                                                  have HFX : Hid (fstIx K8 n8 kj = (j : Int) ↔ (firsts K8 j).contains (K8 j) = false) := by show _ ↔ _; rw [HKJ.out]; exact fstIx_eq K8 n8 j hjn
                                                  have hpl : w9.cell? ⟨g3, l, none⟩ = some (ptrF g3 l) := HR9.out.cell hl
                                                  obtain ⟨z0, z1, z2, z3, z4, z5⟩ := zs_cells HZ9.out hl
                                                  have hzz := neq59
                                                  have hzp := neqP55
                                                  clear hval hlix hKl
                                                  cases ef : (firsts K8 j).contains (K8 j) with
                                                  | false =>
                                                    have hfx : fstIx K8 n8 kj = (j : Int) := HFX.out.2 ef
                                                    have HEF : Hid ((firsts K8 j).contains (K8 j) = false) := ef
                                                    clear ef
                                                    go_wp2_with (first | (at_lookup; refine wpList_lookup_is rfl _ _ 41 rfl 9 55 Yba.underlying41 Yba.underlying9 (zeroP55 _) (w.heap.size + 3) _ _ rfl HMf.out kj rfl (ptrF g3 l) true HLV.out HLH.out ?_) | (go_at_call 15; refine (last15 _ n8 _ K8 kj _ HI.out (by omega)).mono ?_; rw [HLX.out]; rintro e w' ⟨rfl, rfl⟩) | (go_at_call 16; refine (index16 _ n8 _ K8 kj _ HI.out (by omega)).mono ?_; rintro e w' ⟨rfl, rfl⟩))
                                                    go_roundw
                                                    case rel => exact ⟨j + 1, by omega, by go_num, by rw [cnt_new _ _ _ rfl HEF.out]; go_num, trivial⟩
                                                    case measure => simp [intOf]; omega
                                                  | true =>
                                                    have hfx : (fstIx K8 n8 kj == (j : Int)) = false := by
                                                      rw [beq_eq_false_iff_ne]
                                                      intro e
                                                      rw [HFX.out.1 e] at ef
                                                      cases ef
                                                    have HEF : Hid ((firsts K8 j).contains (K8 j) = true) := ef
                                                    clear ef
                                                    go_wp2_with (first | (at_lookup; refine wpList_lookup_is rfl _ _ 41 rfl 9 55 Yba.underlying41 Yba.underlying9 (zeroP55 _) (w.heap.size + 3) _ _ rfl HMf.out kj rfl (ptrF g3 l) true HLV.out HLH.out ?_) | (go_at_call 15; refine (last15 _ n8 _ K8 kj _ HI.out (by omega)).mono ?_; rw [HLX.out]; rintro e w' ⟨rfl, rfl⟩) | (go_at_call 16; refine (index16 _ n8 _ K8 kj _ HI.out (by omega)).mono ?_; rintro e w' ⟨rfl, rfl⟩))
                                                    go_roundw
                                                    case rel => exact ⟨j + 1, by omega, by go_num, by rw [cnt_old _ _ _ HEF.out], trivial⟩
                                                    case measure => simp [intOf]; omega
                                                · obtain rfl : j = n8 := by omega
                                                  go_wp2_with fail
                                                  go_meet
                                                  exact ⟨rfl, rfl⟩
                                          case rest =>
                                            as_aux_lemma =>
                                              obtain ⟨rfl, rfl⟩ := hcut
                                              have hcl8 := cnt_le K8 all1 n8
                                              go_upto_block 20 with (at_len; refine wpList_len_n rfl _ 41 rfl 9 55 Yba.underlying41 (w.heap.size + 3) _ _ rfl HMf.out (cnt K8 all1 n8) (cnt_all K8 n8).symm ?_)
                                              go_cut [40, 64, 65, 66, 67] from 376 to 411 (fun p _ _ _ _ wc => p = .int .i64 (cnt K9 all1 n9 : Nat) ∧ Hid (Below w9.heap.size w9 wc))
                                              case first =>
                                                as_aux_lemma =>
                                                  go_wp2_with fail
                                                  go_loopw [40, 376] (fun p i wr => ∃ j : Nat, j ≤ n9 ∧ i = .int .i64 j ∧ p = .int .i64 (cnt K9 all1 j : Nat) ∧ Hid (Below w9.heap.size w9 wr)) (fun _ i _ => n9 - (intOf i).toNat)
                                                  case atStart => exact ⟨0, Nat.zero_le _, rfl, rfl, Below.refl _ _⟩
                                                  case round =>
                                                    obtain ⟨j, hj, rfl, rfl, HB⟩ := hrel
                                                    by_cases hjn : j < n9
                                                    · have HI : Hid (IsS wr a9 n9 K9) := (H9.out.below HW9.out).below HB.out
                                                      have hcl := cnt_le K9 all1 j
                                                      obtain ⟨kj, hkj⟩ : ∃ kj, kj = K9 j := ⟨_, rfl⟩
                                                      have HKJ : Hid (kj = K9 j) := hkj
                                                      have hcell : ∃ gb go, a9 = some ⟨gb, go, none⟩ ∧ World.cell? wr ⟨gb, go + j, none⟩ = some (.string kj) := by
                                                        rcases HI.out with h0 | ⟨gb, go, h, hc⟩
                                                        · omega
                                                        · exact ⟨gb, go, h, by rw [hkj]; exact hc j hjn⟩
                                                      clear hkj
                                                      obtain ⟨gb, go, ha0, hcell⟩ := hcell
                                                      subst ha0
                                                      have HMT : Hid (MapIs wr (w.heap.size + 4) (firsts K9 n9) (vfill v00 K9 (trm K9) n9)) := HMt.out.below HB.out
                                                      have d3 : wr.cell? ⟨w.heap.size + 5, 3, none⟩ = some (.map (some (w.heap.size + 4))) := cellB HB.out dd3
                                                      obtain ⟨l, hl, hlix, hKl, hval⟩ := last_spec v00 K9 (trm K9) n9 kj ⟨j, hjn, HKJ.out.symm⟩
                                                      have HLH : Hid ((firsts K9 n9).contains kj = true) := firsts_in K9 n9 kj ⟨j, hjn, HKJ.out.symm⟩
                                                      have HLV : Hid ((if (firsts K9 n9).contains kj then vfill v00 K9 (trm K9) n9 kj else .agg #[.int .i64 0, .string { data := #[] }]) = .agg #[.int .i64 l, .string kj]) := by show _ = _; rw [if_pos HLH.out, hval]; show trm K9 l = _; rw [trm, hKl]
                                                      have HLX : Hid (lastIx K9 n9 kj = (l : Int)) := hlix
                                                      have HFX : Hid (fstIx K9 n9 kj = (j : Int) ↔ (firsts K9 j).contains (K9 j) = false) := by show _ ↔ _; rw [HKJ.out]; exact fstIx_eq K9 n9 j hjn
                                                      clear hval hlix hKl
                                                      go_wp2_with (at_lookup; refine wpList_lookup_is rfl _ _ 42 rfl 9 61 Yba.underlying42 Yba.underlying9 (zeroT61 _) (w.heap.size + 4) _ _ rfl HMT.out kj rfl (.agg #[.int .i64 l, .string kj]) true HLV.out HLH.out ?_)
                                                      have HBa : Hid (Below w9.heap.size w9 (wr.alloc (.cells #[.int .i64 l, .string kj] 61))) := HB.out.alloc HB.out.size _
                                                      have HIa : Hid (IsS (wr.alloc (.cells #[.int .i64 l, .string kj] 61)) (some ⟨gb, go, none⟩) n9 K9) := HI.out.below ((Below.refl _ _).alloc (Nat.le_refl _) _)
                                                      have q0 : (wr.alloc (.cells #[.int .i64 l, .string kj] 61)).cell? ⟨wr.heap.size, 0, none⟩ = some (.int .i64 l) := by simp
                                                      have q1 : (wr.alloc (.cells #[.int .i64 l, .string kj] 61)).cell? ⟨wr.heap.size, 1, none⟩ = some (.string kj) := by simp
                                                      obtain ⟨W10, hW10⟩ : ∃ W10, W10 = wr.alloc (.cells #[.int .i64 l, .string kj] 61) := ⟨_, rfl⟩
                                                      rw [← hW10] at HBa HIa q0 q1 ⊢
                                                      clear hW10
                                                      go_quiet (first | (go_at_call 15; exact last15q _ n9 _ K9 kj _ HIa.out (by omega) l HLX.out _) | fail)
                                                      cases ef : (firsts K9 j).contains (K9 j) with
                                                      | false =>
                                                        have hfx : fstIx K9 n9 kj = (j : Int) := HFX.out.2 ef
                                                        have HEF : Hid ((firsts K9 j).contains (K9 j) = false) := ef
                                                        clear ef
                                                        go_wp2_with (go_at_call 16; refine (index16 _ n9 _ K9 kj _ (HIa.out.below (below_drewN (Below.refl _ _) _)) (by omega)).mono ?_; rintro e w' ⟨rfl, rfl⟩)
                                                        go_roundw
                                                        case rel => exact ⟨j + 1, by omega, by go_num, by rw [cnt_new _ _ _ rfl HEF.out]; go_num, below_drewN HBa.out _⟩
                                                        case measure => simp [intOf]; omega
                                                      | true =>
                                                        have hfx : (fstIx K9 n9 kj == (j : Int)) = false := by
                                                          rw [beq_eq_false_iff_ne]
                                                          intro e
                                                          rw [HFX.out.1 e] at ef
                                                          cases ef
                                                        have HEF : Hid ((firsts K9 j).contains (K9 j) = true) := ef
                                                        clear ef
                                                        go_wp2_with (go_at_call 16; refine (index16 _ n9 _ K9 kj _ (HIa.out.below (below_drewN (Below.refl _ _) _)) (by omega)).mono ?_; rintro e w' ⟨rfl, rfl⟩)
                                                        go_roundw
                                                        case rel => exact ⟨j + 1, by omega, by go_num, by rw [cnt_old _ _ _ HEF.out], below_drewN HBa.out _⟩
                                                        case measure => simp [intOf]; omega
                                                    · obtain rfl : j = n9 := by omega
                                                      go_wp2_with fail
                                                      go_meet
                                                      exact ⟨rfl, HB⟩
                                              case rest =>
                                                as_aux_lemma =>
                                                  obtain ⟨rfl, HB10⟩ := hcut
                                                  obtain ⟨W10, rfl⟩ : ∃ W10 : World, W10 = wc := ⟨_, rfl⟩
                                                  have hcl9 := cnt_le K9 all1 n9
                                                  have HMT : Hid (MapIs W10 (w.heap.size + 4) (firsts K9 n9) (vfill v00 K9 (trm K9) n9)) := HMt.out.below HB10.out
                                                  have d3 : W10.cell? ⟨w.heap.size + 5, 3, none⟩ = some (.map (some (w.heap.size + 4))) := cellB HB10.out dd3
                                                  have HE : Hid (Ex W10 g n2 mb (firsts K5 n5) (vfill v00 K5 (fun j => .string (atS V6 n6 j)) n5) lo va n7 K7 OB a7 c7) := HEX9.out.below HB10.out
                                                  obtain ⟨hrw, hmo, hv, ⟨o0, o1⟩, p0, p1, p2, p3, p4, p5, p6⟩ := HE.out
                                                  clear hrw
                                                  have HMO : Hid (MapO W10 mb (firsts K5 n5) (vfill v00 K5 (fun j => .string (atS V6 n6 j)) n5)) := hmo
                                                  have HVA : Hid (IsN W10 lo va n7 K7) := hv
                                                  clear hmo hv
                                                  have HP2 : Hid (w9.cell? ⟨OB + 1, 2, none⟩ = some (.map mb)) := HEX9.out.2.2.2.2.2.2.1
                                                  have HV9 : Hid (IsN w9 lo va n7 K7) := HEX9.out.2.2.1
                                                  have HMO9 : Hid (MapO w9 mb (firsts K5 n5) (vfill v00 K5 (fun j => .string (atS V6 n6 j)) n5)) := HEX9.out.2.1
                                                  have hq51 := neq51
                                                  have hqm := neqM40
                                                  go_wp2_with (at_len; refine wpList_len_n rfl _ 42 rfl 9 61 Yba.underlying42 (w.heap.size + 4) _ _ rfl HMT.out (cnt K9 all1 n9) (cnt_all K9 n9).symm ?_)
                                                  go_quiet (fail)
                                                  clear hq51 hqm
                                                  have HC10 : Hid (Below w9.heap.size w9 (W10.drewN nq)) := below_drewN HB10.out nq
                                                  have HP3 : Hid (w9.cell? ⟨OB + 1, 3, none⟩ = some (.slice a7 n7 c7)) := HEX9.out.2.2.2.2.2.2.2.1
                                                  clear p0 p1 p2 p3 p4 p5 p6 o0 o1 d3 HE HMO HVA HMT dd0 dd1 dd2 dd3
                                                  obtain ⟨W11, hW11⟩ : ∃ W11, W11 = W10.drewN nq := ⟨_, rfl⟩
                                                  rw [← hW11] at HC10 ⊢
                                                  clear hW11 HB10
                                                  have p2 : W11.cell? ⟨OB + 1, 2, none⟩ = some (.map mb) := cellB HC10.out HP2.out
                                                  have p3 : W11.cell? ⟨OB + 1, 3, none⟩ = some (.slice a7 n7 c7) := cellB HC10.out HP3.out
                                                  obtain ⟨e5, he5⟩ : ∃ e5, mb.isNone = e5 := ⟨_, rfl⟩
                                                  have he5' : a5.isNone = e5 := isNone_of HMBN.out he5
                                                  have hqe := eqlM40 mb e5 he5
                                                  have hqs := eqlS23 a5 n5 c5 e5 he5'
                                                  clear he5 he5'
                                                  have HE1 : Hid (∀ W, Below w9.heap.size w9 W → Calls Yba.prog 10 #[.slice a7 n7 c7, .slice va n7 vc] W fun e w' => e = .returned (.bool true) ∧ Below w9.heap.size w9 w') := fun W hb => (equal10 a7 va n7 _ _ K7 _ ((H7.out.below HW9.out).below hb) ((HV9.out.below hb).isS) (by omega)).mono fun e w' ⟨h, k⟩ => ⟨h, bt hb k⟩
                                                  go_upto_if 455 with fail
                                                  refine (HE1.out _ HC10.out).mono ?_
                                                  rintro e w11 ⟨rfl, hb11⟩
                                                  have HC11 : Hid (Below w9.heap.size w9 w11) := hb11
                                                  clear hb11
                                                  go_upto_if 455 with fail
                                                  refine (HE1.out _ HC11.out).mono ?_
                                                  rintro e w12 ⟨rfl, hb12⟩
                                                  have HC12 : Hid (Below w9.heap.size w9 w12) := hb12
                                                  have pp2 : w12.cell? ⟨OB + 1, 2, none⟩ = some (.map mb) := cellB HC12.out HP2.out
                                                  clear hb12 HE1
                                                  go_upto_block 22 with fail
                                                  clear hqe hqs
                                                  have HMO12 : Hid (MapO w12 mb (firsts K5 n5) (vfill v00 K5 (fun j => .string (atS V6 n6 j)) n5)) := HMO9.out.below HC12.out
                                                  go_cut [40, 68, 69, 70, 71] from 466 to 498 (fun p _ _ _ _ wc => p = .int .i64 (cnt K5 all1 n5 : Nat) ∧ w12 = wc)
                                                  case first =>
                                                    as_aux_lemma =>
                                                      go_wp2_with fail
                                                      go_loopw [40, 466] (fun p i wr => ∃ j : Nat, j ≤ n5 ∧ i = .int .i64 j ∧ p = .int .i64 (cnt K5 all1 j : Nat) ∧ w12 = wr) (fun _ i _ => n5 - (intOf i).toNat)
                                                      case atStart => exact ⟨0, Nat.zero_le _, rfl, rfl, rfl⟩
                                                      case round =>
                                                        obtain ⟨j, hj, rfl, rfl, rfl⟩ := hrel
                                                        by_cases hjn : j < n5
                                                        · have HI : Hid (IsS w12 a5 n5 K5) := (H5.out.below HW9.out).below HC12.out
                                                          have HI6 : Hid (IsS w12 a6 n6 V6) := (H6.out.below HW9.out).below HC12.out
                                                          have hcl := cnt_le K5 all1 j
                                                          obtain ⟨kj, hkj⟩ : ∃ kj, kj = K5 j := ⟨_, rfl⟩
                                                          have HKJ : Hid (kj = K5 j) := hkj
                                                          have hcell : ∃ gb go, a5 = some ⟨gb, go, none⟩ ∧ w12.cell? ⟨gb, go + j, none⟩ = some (.string kj) := by
                                                            rcases HI.out with h0 | ⟨gb, go, h, hc⟩
                                                            · omega
                                                            · exact ⟨gb, go, h, by rw [hkj]; exact hc j hjn⟩
                                                          clear hkj
                                                          obtain ⟨gb, go, ha0, hcell⟩ := hcell
                                                          obtain ⟨b5, hb5⟩ : ∃ b5, mb = some b5 := by
                                                            have h5 := HMBN.out
                                                            cases mb with
                                                            | none => rw [h5.1 rfl] at ha0; cases ha0
                                                            | some b => exact ⟨b, rfl⟩
                                                          subst ha0
                                                          subst hb5
                                                          have HM5 : Hid (MapIs w12 b5 (firsts K5 n5) (vfill v00 K5 (fun j => .string (atS V6 n6 j)) n5)) := by
                                                            rcases HMO12.out with ⟨h, _⟩ | ⟨b, h, hm⟩
                                                            · cases h
                                                            · cases h; exact hm
                                                          obtain ⟨l, hl, hlix, hKl, hval⟩ := last_spec v00 K5 (fun j => .string (atS V6 n6 j)) n5 kj ⟨j, hjn, HKJ.out.symm⟩
                                                          have HLH : Hid ((firsts K5 n5).contains kj = true) := firsts_in K5 n5 kj ⟨j, hjn, HKJ.out.symm⟩
                                                          have HLV : Hid ((if (firsts K5 n5).contains kj then vfill v00 K5 (fun j => .string (atS V6 n6 j)) n5 kj else .string ByteArray.empty) = .string (atS V6 n6 l)) := by show _ = _; rw [if_pos HLH.out, hval]
                                                          have HLX : Hid (lastIx K5 n5 kj = (l : Int)) := hlix
                                                          have HFX : Hid (fstIx K5 n5 kj = (j : Int) ↔ (firsts K5 j).contains (K5 j) = false) := by show _ ↔ _; rw [HKJ.out]; exact fstIx_eq K5 n5 j hjn
                                                          clear hval hlix hKl
                                                          cases ef : (firsts K5 j).contains (K5 j) with
                                                          | false =>
                                                            have hfx : fstIx K5 n5 kj = (j : Int) := HFX.out.2 ef
                                                            have HEF : Hid ((firsts K5 j).contains (K5 j) = false) := ef
                                                            clear ef
                                                            go_wp2_with (first | (at_lookup; refine wpList_lookup_is rfl _ _ 40 rfl 9 9 Yba.underlying40 Yba.underlying9 (zero9 _) b5 _ _ rfl HM5.out kj rfl (.string (atS V6 n6 l)) true HLV.out HLH.out ?_) | (go_at_call 15; refine (last15 _ n5 _ K5 kj _ HI.out (by omega)).mono ?_; rw [HLX.out]; rintro e w' ⟨rfl, rfl⟩) | (go_at_call 12; refine (at12 a6 n6 _ V6 l _ HI6.out (by omega) (by omega)).mono ?_; rintro e w' ⟨rfl, rfl⟩) | (go_at_call 16; refine (index16 _ n5 _ K5 kj _ HI.out (by omega)).mono ?_; rintro e w' ⟨rfl, rfl⟩))
                                                            go_roundw
                                                            case rel => exact ⟨j + 1, by omega, by go_num, by rw [cnt_new _ _ _ rfl HEF.out]; go_num, trivial⟩
                                                            case measure => simp [intOf]; omega
                                                          | true =>
                                                            have hfx : (fstIx K5 n5 kj == (j : Int)) = false := by
                                                              rw [beq_eq_false_iff_ne]
                                                              intro e
                                                              rw [HFX.out.1 e] at ef
                                                              cases ef
                                                            have HEF : Hid ((firsts K5 j).contains (K5 j) = true) := ef
                                                            clear ef
                                                            go_wp2_with (first | (at_lookup; refine wpList_lookup_is rfl _ _ 40 rfl 9 9 Yba.underlying40 Yba.underlying9 (zero9 _) b5 _ _ rfl HM5.out kj rfl (.string (atS V6 n6 l)) true HLV.out HLH.out ?_) | (go_at_call 15; refine (last15 _ n5 _ K5 kj _ HI.out (by omega)).mono ?_; rw [HLX.out]; rintro e w' ⟨rfl, rfl⟩) | (go_at_call 12; refine (at12 a6 n6 _ V6 l _ HI6.out (by omega) (by omega)).mono ?_; rintro e w' ⟨rfl, rfl⟩) | (go_at_call 16; refine (index16 _ n5 _ K5 kj _ HI.out (by omega)).mono ?_; rintro e w' ⟨rfl, rfl⟩))
                                                            go_roundw
                                                            case rel => exact ⟨j + 1, by omega, by go_num, by rw [cnt_old _ _ _ HEF.out], trivial⟩
                                                            case measure => simp [intOf]; omega
                                                        · obtain rfl : j = n5 := by omega
                                                          go_wp2_with fail
                                                          go_meet
                                                          exact ⟨rfl, rfl⟩
                                                  case rest =>
                                                    as_aux_lemma =>
                                                      obtain ⟨rfl, rfl⟩ := hcut
                                                      have hcl5 := cnt_le K5 all1 n5
                                                      go_wp2_with (at_len; refine wpList_len_o rfl _ 40 rfl 9 9 Yba.underlying40 mb _ _ rfl HMO12.out (cnt K5 all1 n5) (cnt_all K5 n5).symm ?_)
                                                      go_ret
                                                      exact ⟨rfl, bt HW9.out HC12.out⟩
end Go.Proofs.Ybulkdqxm
