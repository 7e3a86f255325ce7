import Derived.Test.YbulkdqyoRoute
import Derived.Test.YbulkdqyoArr
namespace Go.Proofs.Ybulkdqyo
open Go.RowKit
set_option linter.unusedVariables false

set_option maxRecDepth 100000 in
set_option maxHeartbeats 400000 in
theorem walkA_no (nodes : Int) (hn1 : -2147483648 ≤ nodes) (hn2 : nodes ≤ 2147483647) (pa ma : Option Addr) (lp pc lm mc : Nat) (P : Nat → Int) (stop : Nat) (hst : stop ≤ 65535) (w : World) (hl : lp + lm ≤ 1048576)
    (hP : IsV w pa lp (fun j => .int .i32 (P j))) :
    Calls Yba.prog 3 #[.int .i32 nodes, .slice pa lp pc, .bool false, .slice ma lm mc, .int .u16 stop] w fun e w' => e = .returned (.bool true) ∧ Below w.heap.size w w' := by
  go_enter Yba.func3, Yba.ntmps3
  go_upto_if 33 with fail
  go_cut [0] from 26 to 35 (fun x wc => ∃ nd : Nat, nd ≤ 2147483647 ∧ x = .int .i32 nd ∧ w = wc)
  case first =>
    by_cases hneg : nodes < 0
    · go_wp2_with fail
      go_meet
      exact ⟨(-nodes - 1).toNat, by omega, by rw [compl_i32 nodes hn1 hneg], rfl⟩
    · go_wp2_with fail
      go_meet
      exact ⟨nodes.toNat, by omega, by congr 1; omega, rfl⟩
  case rest =>
    obtain ⟨nd, hnd, rfl, rfl⟩ := hcut
    clear hn1 hn2
    go_upto_block 0 with (refine wpList_build rfl 32 (.const (.int .i32 7)) (.const (.int .i32 3)) (.const (.int .i32 2)) (.tmp 36) rfl (.int .i32 7) (.int .i32 3) (.int .i32 2) (.int .i32 (nd : Int)) (.agg (rcells nd)) rfl rfl rfl rfl (build32 nd _) ?_)
    go_cut [12] from 36 to 57 (fun _ wc => Below w.heap.size w wc ∧ wc.rowIs w.heap.size 32 133 (rF nd (peF P lp) none) ∧ wc.heap.size = w.heap.size + 1)
    case first =>
      go_wp2_with fail
      go_loopw [12] (fun i wr => ∃ k : Nat, k ≤ lp ∧ k ≤ 32 ∧ i = .int .i64 k ∧ Below w.heap.size w wr ∧ Hid (wr.rowIs w.heap.size 32 133 (rF nd (peF P k) none)) ∧ Hid (wr.heap.size = w.heap.size + 1)) (fun i _ => 32 - (intOf i).toNat)
      case atStart => exact ⟨0, Nat.zero_le _, Nat.zero_le _, rfl, (Below.refl _ _).alloc (Nat.le_refl _) _, r_start w nd P, by simp [Hid]⟩
      case round =>
        obtain ⟨k, hk, hk2, rfl, hbr, HR, HSZ⟩ := hrel
        by_cases hkl : k < lp
        · by_cases hk32 : k < 32
          · rcases hP with h | ⟨b, off, rfl, hc⟩
            · exact absurd h (by omega)
            have hb : b < w.heap.size := World.block_lt_of_cell? _ _ (hc k hkl)
            have c1 : wr.cell? ⟨b, off + k, none⟩ = some (.int .i32 (P k)) := (hbr.cell (p := ⟨b, off + k, none⟩) hb).trans (hc k hkl)
            have c2 := HR.out.cell (i := 4 + k) (by omega)
            have c3 := HR.out.frozen (4 + k)
            have hkI : (k : Int) < (lp : Int) := by omega
            have hkJ : (k : Int) < 32 := by omega
            obtain ⟨old, hold⟩ : ∃ old, rF nd (peF P k) none (4 + k) = old := ⟨_, rfl⟩
            rw [hold] at c2
            clear hc hold
            go_wp2_with fail
            go_region
            all_goals go_wp2
            go_roundw
            case rel => exact ⟨k + 1, by omega, by omega, by go_num, (hbr.setCell (Nat.le_refl _) _).drew, ((HR.out.set (4 + k) _).congr (r_step nd P none k hk32)).drew, (World.size_setCell _ _ _).trans HSZ.out⟩
            case measure => simp [intOf]; omega
          · have hfin := HR.out.congr (rF_congr (peF_le P k lp hk hk2 (.inr hk32)))
            have hd : decide ((k : Int) < 32) = false := by simp; omega
            go_wp2_with fail
            go_meet
            exact ⟨hbr, hfin, HSZ.out⟩
        · have hfin := HR.out.congr (rF_congr (peF_le P k lp hk hk2 (.inl hkl)))
          have hd : decide (k < lp) = false := by simp; omega
          go_wp2_with fail
          go_meet
          exact ⟨hbr, hfin, HSZ.out⟩
    case rest =>
      obtain ⟨hb1, hr1, hs1⟩ := hcut
      obtain ⟨w1, rfl⟩ : ∃ w1 : World, w1 = wc := ⟨_, rfl⟩
      have HB1 : Hid (Below w.heap.size w w1) := hb1
      have HR1 : Hid (w1.rowIs w.heap.size 32 133 (rF nd (peF P lp) none)) := hr1
      have HS1 : Hid (w1.heap.size = w.heap.size + 1) := hs1
      clear hb1 hr1 hs1
      go_upto_region 19 with fail
      obtain ⟨cs, hcs⟩ : ∃ cs, cs = peCells (peF P lp) := ⟨_, rfl⟩
      have hrg : w1.rangeAt w.heap.size 4 cs := by rw [hcs]; exact pe_range HR1.out
      have hlen : cs.length = 32 := by rw [hcs]; simp [peCells]
      have hone : ∀ v ∈ cs, v.oneCell' = true := by rw [hcs]; exact pe_one _
      have HCS : Hid (cs = peCells (peF P lp)) := hcs
      have hsz27 : (Yba.prog.info? 27).map (·.size) = some cs.length := by rw [hlen]; exact size27
      clear hcs
      go_cut [15] from 90 to 97 (fun x wx => x = .pointer (some ⟨w1.heap.size, 0, none⟩) ∧ Below w1.heap.size w1 wx ∧ wx.rangeAt w1.heap.size 0 cs ∧ wx.heap.size = w1.heap.size + 1)
      case first =>
        go_wp2_with (first | (refine wpList_load_mid rfl 27 (.tmp 96) rfl w.heap.size 4 rfl cs (.array 32 21) hrg Yba.underlying27 rfl hsz27 ?_) | (refine wpList_store_mid rfl 27 (.tmp 15) (.tmp 97) rfl w1.heap.size 0 cs.toArray rfl rfl (pb_there w1 _ _ _ (by simp [hlen])) (by simpa using hsz27) (all_oneCell_toArray hone) ?_))
        go_meet
        exact ⟨rfl, pb_below _ _ _, pb_range _ _ _ _ (by simp [hlen]), by rw [size_setCells]; simp⟩
      case rest =>
        obtain ⟨rfl, hb2, hrg2, hs2⟩ := hcut
        obtain ⟨wy, rfl⟩ : ∃ wy : World, wy = wc := ⟨_, rfl⟩
        have HB2 : Hid (Below w1.heap.size w1 wy) := hb2
        have HQ2 : Hid (wy.rangeAt w1.heap.size 0 cs) := hrg2
        have HS2 : Hid (wy.heap.size = w1.heap.size + 1) := hs2
        have HR2 : Hid (wy.rowIs w.heap.size 32 133 (rF nd (peF P lp) none)) := rowIs_below HR1.out hb2 (by rw [HS1.out]; omega)
        have HBw : Hid (Below w.heap.size w wy) := HB1.out.trans (hb2.mono (by rw [HS1.out]; omega))
        clear hb2 hrg2 hs2 HR1 hrg hone hsz27 hlen
        obtain ⟨kk, hkk⟩ : ∃ kk, kk = min nd 32 := ⟨_, rfl⟩
        have hk32 : kk ≤ 32 := by omega
        have HKK : Hid (kk = min nd 32) := hkk
        go_upto_if 101 with fail
        go_cut [16] from 98 to 101 (fun x wz => x = .int .i64 kk ∧ wy = wz)
        case first =>
          by_cases h32 : 32 < nd
          · have e : kk = 32 := by omega
            clear hkk
            go_wp2_with fail
            go_meet
            exact ⟨by rw [e]; rfl, rfl⟩
          · have e : kk = nd := by omega
            clear hkk
            go_wp2_with fail
            go_meet
            exact ⟨by rw [e], rfl⟩
        case rest =>
          obtain ⟨rfl, rfl⟩ := hcut
          clear hkk
          obtain ⟨pe, hpe⟩ : ∃ pe, pe = peF P lp := ⟨_, rfl⟩
          rw [← hpe] at HR2 HCS
          have HPE : Hid (pe = peF P lp) := hpe
          clear hpe
          go_upto_block 4 with fail
          go_cut [17] from 102 to 118 (fun v wz => wz.ownsRow wy.heap.size 21 1 v kk (ivals (pl pe kk)) ∧ Below wy.heap.size wy wz)
          case first =>
            obtain ⟨i0, hI, hz0, hz1, hz2⟩ := info_parts info21
            go_wp2_with fail
            go_loopw [17, 18] (fun v i wr => ∃ k : Nat, k ≤ kk ∧ i = .int .i64 k ∧ Hid (wr.ownsRow wy.heap.size 21 1 v k (ivals (pl pe k))) ∧ Below wy.heap.size wy wr) (fun _ i _ => kk - (intOf i).toNat)
            case atStart => exact ⟨0, Nat.zero_le _, rfl, World.ownsRow_nil _ _ _ _, Below.refl _ _⟩
            case round =>
              obtain ⟨k, hk, rfl, HO, hbr⟩ := hrel
              by_cases hkk : k < kk
              · by_cases hkl : k < lp
                · rcases hP with h | ⟨b, off, rfl, hc⟩
                  · exact absurd h (by omega)
                  have hb : b < w.heap.size := World.block_lt_of_cell? _ _ (hc k hkl)
                  have c0 := cell_below HBw.out (hc k hkl)
                  have c1 := cell_below hbr c0
                  have HV : Hid (P k = pe k) := by rw [HPE.out]; simp [Hid, peF, hkl]
                  clear hc c0
                  go_wp2_with (at_builtin; refine wpList_append_own _ rfl _ _ 22 rfl wy.heap.size 21 i0 (.int .i32 0) 1 4 Yba.underlying22 hI hz0 hz1 hz2 rfl (by decide) _ _ _ rfl (HO.out.alloc _) ⟨wr.heap.size, 0, none⟩ 1 1 [.int .i32 (P k)] rfl rfl (cell_one_new _ _ _) (ints_oneCell .i32 [P k]) (by unfold maxLen; omega) (by omega) (by have := hbr.size; simp; omega) ?_)
                  intro v' wq hown' hgr hnl
                  have R1 : wq.ownsRow wy.heap.size 21 1 v' (k + 1) (ivals (pl pe (k + 1))) := by rw [pl_succ, ← HV.out]; simpa [ivals] using hown'
                  have R3 : Below wy.heap.size wy wq := (hbr.alloc hbr.size _).grown hgr (by have := hbr.size; simp; omega) (fun q hq => (HO.out.lt q hq).1)
                  have H1 : Hid _ := R1
                  clear hown' hgr hnl R1
                  go_wp2
                  go_roundw
                  case rel => exact ⟨k + 1, by omega, by go_num, H1, R3⟩
                  case measure => simp [intOf]; omega
                · have HV : Hid (0 = pe k) := by rw [HPE.out]; simp [Hid, peF, hkl]
                  go_wp2_with (at_builtin; refine wpList_append_own _ rfl _ _ 22 rfl wy.heap.size 21 i0 (.int .i32 0) 1 4 Yba.underlying22 hI hz0 hz1 hz2 rfl (by decide) _ _ _ rfl (HO.out.alloc _) ⟨wr.heap.size, 0, none⟩ 1 1 [.int .i32 0] rfl rfl (cell_one_new _ _ _) (ints_oneCell .i32 [0]) (by unfold maxLen; omega) (by omega) (by have := hbr.size; simp; omega) ?_)
                  intro v' wq hown' hgr hnl
                  have R1 : wq.ownsRow wy.heap.size 21 1 v' (k + 1) (ivals (pl pe (k + 1))) := by rw [pl_succ, ← HV.out]; simpa [ivals] using hown'
                  have R3 : Below wy.heap.size wy wq := (hbr.alloc hbr.size _).grown hgr (by have := hbr.size; simp; omega) (fun q hq => (HO.out.lt q hq).1)
                  have H1 : Hid _ := R1
                  clear hown' hgr hnl R1
                  go_wp2
                  go_roundw
                  case rel => exact ⟨k + 1, by omega, by go_num, H1, R3⟩
                  case measure => simp [intOf]; omega
              · obtain rfl : k = kk := by omega
                go_wp2_with fail
                go_meet
                exact ⟨HO.out, hbr⟩
          case rest =>
            obtain ⟨hown, hbz⟩ := hcut
            obtain ⟨wz, rfl⟩ : ∃ wz : World, wz = wc := ⟨_, rfl⟩
            obtain ⟨F, hF⟩ : ∃ F, F = pl pe kk := ⟨_, rfl⟩
            have hFl : F.length = kk := by rw [hF, pl_len]
            have hFm : F.length ≤ 1048608 := by omega
            rw [← hF, ← hFl] at hown
            obtain ⟨wa, wcap, hv⟩ := slice_shape hown
            subst hv
            have hcap : F.length ≤ wcap := own_cap hown
            have HW : Hid (IsV wz wa F.length (fun j => .int .i32 (F.getD j 0))) := want_view hown
            have hbw : Below w.heap.size w wz := HBw.out.trans (hbz.mono HBw.out.size)
            have HB : Hid (Below w.heap.size w wz) := hbw
            have HR3 : Hid (wz.rowIs w.heap.size 32 133 (rF nd pe none)) := rowIs_below HR2.out hbz HR2.out.lt
            have HQ3 : Hid (wz.rangeAt w1.heap.size 0 cs) := fun j v hv => cell_below hbz (HQ2.out j v hv)
            have HF : Hid (F = pl pe kk) := hF
            have hRlt : w.heap.size < wz.heap.size := HR3.out.lt
            clear hown hbz hbw hF hFl HBw HQ2 HR2 HB2 HS2 HB1 HPE
            go_upto_region 37 with fail
            go_cut [143] from 119 to 142 (fun c wq => c = .bool (decide (0 < stop) && decide (stop < F.length)) ∧ wq = wz.alloc (.cells #[.int .i64 (stop : Int)] 3))
            case first =>
              by_cases h0 : 0 < stop
              · go_wp2_with fail
                go_meet
                exact ⟨by simp [h0], rfl⟩
              · have hd : decide ((0 : Int) < (stop : Int)) = false := by simp; omega
                go_wp2_with fail
                go_meet
                exact ⟨by simp [h0], rfl⟩
            case rest =>
              obtain ⟨rfl, rfl⟩ := hcut
              go_upto_if 143 with fail
              go_cut [17] from 119 to 146 (fun x wq => ∃ cap, x = .slice wa (takeL stop F).length cap ∧ wq = wz.alloc (.cells #[.int .i64 (stop : Int)] 3))
              case first =>
                cases hcb : (decide (0 < stop) && decide (stop < F.length)) with
                | true =>
                  have hc1 : stop < F.length := by simp at hcb; exact hcb.2
                  have hc0 : 0 < stop := by simp at hcb; exact hcb.1
                  have HL : Hid ((takeL stop F).length = stop) := by show _ = _; simp [takeL, show ¬ stop = 0 by omega]; omega
                  clear hcb
                  go_wp2_with fail
                  go_meet
                  exact ⟨_, by rw [HL.out], rfl⟩
                | false =>
                  have HL : Hid ((takeL stop F).length = F.length) := by
                    show _ = _
                    by_cases h0 : stop = 0
                    · simp [takeL, h0]
                    · simp at hcb
                      simp [takeL, h0]; omega
                  clear hcb
                  go_wp2_with fail
                  go_meet
                  exact ⟨_, by rw [HL.out], rfl⟩
              case rest =>
                obtain ⟨cap, rfl, rfl⟩ := hcut
                go_wp2_with (go_at_call 7; go_in)
                refine (seq_none _ (wz.heap.size + 1) wz.heap.size (wz.heap.size + 2) w.heap.size nd stop pe (inv_start wz _ _) (by go_simp) hst (by go_simp) ?_ hnd ?_ ?_ (by omega) (by omega) (by omega) kk HKK.out).mono ?_
                · exact cell_below (three_below wz _ _ _) (HR3.out.cell (i := 3) (by omega))
                · intro j hj
                  have := cell_below (three_below wz (.cells #[.int .i64 (stop : Int)] 3) (.cells #[.slice none 0 0] 22) (.cells #[.pointer (some ⟨w.heap.size, 0, none⟩)] 25)) (HR3.out.cell (i := 4 + j) (by omega))
                  rwa [rF_peer _ _ _ _ hj] at this
                · exact cell_below (three_below wz _ _ _) (HR3.out.cell (i := 132) (by omega))
                rintro e w4 ⟨rfl, hI4⟩
                rw [← HF.out] at hI4
                have hbz4 := inv_below hI4
                have HB4 : Hid (Below w.heap.size w w4) := HB.out.trans (hbz4.mono HB.out.size)
                have HR4 : Hid (w4.rowIs w.heap.size 32 133 (rF nd pe none)) := rowIs_below HR3.out hbz4 HR3.out.lt
                have HQ4 : Hid (w4.rangeAt w1.heap.size 0 cs) := fun j v hv => cell_below hbz4 (HQ3.out j v hv)
                have HW4 : Hid (IsV w4 wa (takeL stop F).length (fun j => .int .i32 ((takeL stop F).getD j 0))) := (take_view HW.out).below hbz4
                obtain ⟨ga, gc, g1, g2⟩ := inv_got hI4
                have HG4 : Hid (IsV w4 ga (takeL stop F).length (fun j => .int .i32 ((takeL stop F).getD j 0))) := g2
                have hLm : (takeL stop F).length ≤ 1048608 := Nat.le_trans (takeL_le stop F) hFm
                clear hI4 hbz4 g2 HR3 HQ3 HW HB HF
                generalize takeL stop F = L at *
                have hne : ((L.length : Int) != (L.length : Int)) = false := by simp
                go_wp2_with fail
                go_loopw [24] (fun i wr => ∃ k : Nat, k ≤ L.length ∧ i = .int .i64 k ∧ ∃ q, w4.drewN q = wr) (fun i _ => L.length - (intOf i).toNat)
                case atStart => exact ⟨0, Nat.zero_le _, rfl, 0, rfl⟩
                case round =>
                  obtain ⟨k, hk, rfl, q, rfl⟩ := hrel
                  by_cases hkl : k < L.length
                  · rcases HW4.out with h | ⟨b1, o1, rfl, hc1⟩
                    · exact absurd h (by omega)
                    rcases HG4.out with h | ⟨b2, o2, rfl, hc2⟩
                    · exact absurd h (by omega)
                    have c1 := hc1 k hkl
                    have c2 := hc2 k hkl
                    have hkI : (k : Int) < (L.length : Int) := by omega
                    generalize L.getD k 0 = x at c1 c2
                    clear hc1 hc2
                    go_wp2_with fail
                    go_quiet (fail)
                    go_wp2
                    go_roundw
                    case rel => exact ⟨k + 1, by omega, by go_num, _, rfl⟩
                    case measure => simp [intOf]; omega
                  · go_wp2_with fail
                    have q0 := HR4.out.cell (i := 0) (by omega)
                    have q1 := HR4.out.cell (i := 1) (by omega)
                    have q2 := HR4.out.cell (i := 2) (by omega)
                    have q3 := HR4.out.cell (i := 3) (by omega)
                    have q132 := HR4.out.cell (i := 132) (by omega)
                    have hrg : w4.rangeAt w.heap.size 4 (peCells pe) := pe_range HR4.out
                    have hnn : ((nd : Int) != (nd : Int)) = false := by simp
                    have hpn : ∀ W, (binOp .neq 30 (.pointer none) (.pointer none)).run Yba.prog W = .ok (.bool false) W := fun _ => by kernel_rfl
                    have HRG : Hid (w4.rangeAt w.heap.size 4 (peCells pe)) := hrg
                    have HQ : Hid (w4.rangeAt w1.heap.size 0 (peCells pe)) := by rw [← HCS.out]; exact HQ4
                    simp only [rF] at q0 q1 q2 q3 q132
                    clear hrg
                    refine wp_region_quiet_lit (by kernel_rfl) (by kernel_rfl) ?_
                    repeat (go_big_quiet_step (fail))
                    go_big_quiet_want
                    refine quiet_load 27 (.tmp 202) rfl w.heap.size 4 rfl (peCells pe) (.array 32 21) (fun W hW => by obtain ⟨n, rfl⟩ := hW; exact HRG.out) Yba.underlying27 rfl (by simpa [peCells] using size27) ?_
                    simp only [Act.put, List.setIfInBounds_toArray, List.set_cons_succ, List.set_cons_zero]
                    go_big_quiet_on
                    go_big_quiet_want
                    refine quiet_load 27 (.tmp 15) rfl w1.heap.size 0 rfl (peCells pe) (.array 32 21) (fun W hW => by obtain ⟨n, rfl⟩ := hW; exact HQ.out) Yba.underlying27 rfl (by simpa [peCells] using size27) ?_
                    simp only [Act.put, List.setIfInBounds_toArray, List.set_cons_succ, List.set_cons_zero]
                    go_big_quiet_on
                    go_big_quiet_want
                    refine quiet_neq27 (.tmp 203) (.tmp 204) 27 rfl pe rfl rfl ?_
                    simp only [Act.put, List.setIfInBounds_toArray, List.set_cons_succ, List.set_cons_zero]
                    go_big_quiet_on
                    repeat (go_big_quiet_step (fail))
                    refine wpQuiet_nil ?_
                    intro _ hw'
                    obtain ⟨nq, hw''⟩ := hw'
                    subst hw''
                    go_wp2_with fail
                    go_ret
                    exact ⟨rfl, below_drewN (below_drewN HB4.out _) _⟩
end Go.Proofs.Ybulkdqyo
