import Derived.Test.YbulkdqxmWalkA
namespace Go.Proofs.Ybulkdqxm
open Go.RowKit
set_option linter.unusedVariables false
set_option maxRecDepth 100000 in
set_option maxHeartbeats 1000000 in
theorem lawA_pos (ia sa : Option Addr) (li ci ls cs : Nat) (sf st : ByteArray) (ids : Nat → Int) (sp : Nat → ByteArray) (w : World) (hl : li + ls ≤ 1048576) (hci : li ≤ ci) (hcm : ci ≤ 9223372036854775807)
    (hi : IsI w ia li ids) (hs : IsS w sa ls sp) (n : Nat) (hn : n = min li (ls + 1)) (ps : List (Int × ByteArray × ByteArray)) (hps : Pk sf st ids ls sp n = ps) (hp : ps ≠ []) :
    Calls Yba.prog 3 #[.slice ia li ci, .slice sa ls cs, .string sf, .string st] w fun e w' => e = .returned (.bool true) ∧ Below w.heap.size w w' := by
  go_enter Yba.func3, Yba.ntmps3
  go_upto_if 30 with fail
  go_cut [9] from 18 (fun x wc => x = .int .i64 n ∧ w = wc)
  case first =>
    by_cases hle : ls + 1 < li
    · go_wp2_with fail
      go_meet
      exact ⟨by rw [hn]; congr 1; omega, rfl⟩
    · go_wp2_with fail
      go_meet
      exact ⟨by rw [hn]; congr 1; omega, rfl⟩
  case rest =>
    obtain ⟨rfl, rfl⟩ := hcut
    have hnl : n ≤ li := by omega
    have hns : n ≤ ls + 1 := by omega
    have HI : Hid (IsI w ia n ids) := hi.mono hnl
    clear hn hi
    go_wp2_with fail
    refine (cloneI HI.out (by omega)).mono ?_
    rintro e w1 ⟨a1, c1, rfl, hi1, hb1⟩
    have HI1 : Hid (IsI w1 a1 n ids) := hi1
    have HB1 : Hid (Below w.heap.size w w1) := hb1
    have HS1 : Hid (IsS w1 sa ls sp) := hs.below hb1
    have HA1 : Hid (IsI w1 ia n ids) := HI.out.below hb1
    clear hi1 hb1 hs HI
    go_wp2_with fail
    refine (cloneS HS1.out (by omega)).mono ?_
    rintro e w2 ⟨a2, c2, rfl, hs2, hb2⟩
    have HS2 : Hid (IsS w2 a2 ls sp) := hs2
    have HB2 : Hid (Below w1.heap.size w1 w2) := hb2
    have HI2 : Hid (IsI w2 a1 n ids) := HI1.out.below hb2
    have HA2 : Hid (IsI w2 ia n ids) := HA1.out.below hb2
    have HT2 : Hid (IsS w2 sa ls sp) := HS1.out.below hb2
    clear hs2 hb2 HI1 HA1 HS1
    go_wp2_with fail
    have hpl : ps.length ≤ n := by rw [← hps]; exact Pk_le _ _ _ _ _ _
    have hp0 : 0 < ps.length := List.length_pos_iff.2 hp
    have HPS : Hid (Pk sf st ids ls sp n = ps) := hps
    clear hps
    refine (cut_pos (rb := w2.heap.size) hns (by omega) (by omega) (ia := ia) (ic := ci) (sa := sa) (sc := cs) ?_ ?_ ?_ ?_ HPS.out hp).mono ?_
    · go_simp
    · go_simp
    · exact HA2.out.below (((Below.refl _ _).alloc (Nat.le_refl _) _).alloc (by simp) _)
    · exact HT2.out.below (((Below.refl _ _).alloc (Nat.le_refl _) _).alloc (by simp) _)
    rintro e w3 ⟨g1, k1, rfl, hP3, hb3⟩
    have HP3 : Hid (IsP w3 g1 ps) := hP3
    clear hP3
    have hb3' : Below w2.heap.size w2 w3 := (((Below.refl _ _).alloc (Nat.le_refl _) _).alloc (by simp) _).trans (hb3.mono (by simp; omega))
    have r0 : w3.cell? ⟨w2.heap.size, 0, none⟩ = some (.slice ia n ci) := (hb3.cell (p := ⟨w2.heap.size, 0, none⟩) (by simp; omega)).trans (by go_simp)
    have r1 : w3.cell? ⟨w2.heap.size, 1, none⟩ = some (.slice sa ls cs) := (hb3.cell (p := ⟨w2.heap.size, 1, none⟩) (by simp; omega)).trans (by go_simp)
    have r2 : w3.cell? ⟨w2.heap.size + 1, 0, none⟩ = some (.string sf) := (hb3.cell (p := ⟨w2.heap.size + 1, 0, none⟩) (by simp)).trans (by go_simp)
    have r3 : w3.cell? ⟨w2.heap.size + 1, 1, none⟩ = some (.string st) := (hb3.cell (p := ⟨w2.heap.size + 1, 1, none⟩) (by simp)).trans (by go_simp)
    have HB3 : Hid (Below w2.heap.size w2 w3) := hb3'
    have HS3 : Hid (IsS w3 a2 ls sp) := HS2.out.below hb3'
    have HI3 : Hid (IsI w3 a1 n ids) := HI2.out.below hb3'
    have HA3 : Hid (IsI w3 ia n ids) := HA2.out.below hb3'
    have HT3 : Hid (IsS w3 sa ls sp) := HT2.out.below hb3'
    clear hb3 hb3' HS2 HI2 HA2 HT2
    go_wp2_with fail
    refine (model_pos hns (by omega) (by omega) HI3.out HS3.out HPS.out hp).mono ?_
    rintro e w4 ⟨g2, k2, rfl, hP4, hb4⟩
    have HP4 : Hid (IsP w4 g2 ps) := hP4
    have HQ4 : Hid (IsP w4 g1 ps) := HP3.out.below hb4
    clear hP4 HP3
    have r0' := cell_below hb4 r0
    have r1' := cell_below hb4 r1
    have HB4 : Hid (Below w3.heap.size w3 w4) := hb4
    have HS4 : Hid (IsS w4 a2 ls sp) := HS3.out.below hb4
    have HI4 : Hid (IsI w4 a1 n ids) := HI3.out.below hb4
    have HA4 : Hid (IsI w4 ia n ids) := HA3.out.below hb4
    have HT4 : Hid (IsS w4 sa ls sp) := HT3.out.below hb4
    clear hb4 r0 r1 r2 r3 HS3 HI3 HA3 HT3 HPS hp
    have hne0 : ((ps.length : Int) == 0) = false := by rw [beq_eq_false_iff_ne]; omega
    have hq := fun W a n c n' c' => Lib.run_eql_slice_nil (P := Yba.prog) W 31 35 a n c n' c' Yba.underlying31
    go_wp2_with fail
    go_loopw [17] (fun i wr => ∃ k : Nat, k ≤ ps.length ∧ i = .int .i64 k ∧ ∃ q, w4.drewN q = wr)
      (fun i _ => ps.length - (intOf i).toNat)
    case atStart => exact ⟨0, Nat.zero_le _, rfl, 0, rfl⟩
    case round =>
      obtain ⟨k, hk, rfl, q, rfl⟩ := hrel
      by_cases hkl : k < ps.length
      · obtain ⟨x1, x2, x3⟩ := HQ4.out k hkl
        obtain ⟨y1, y2, y3⟩ := HP4.out k hkl
        generalize ps[k].1 = pa at x1 y1
        generalize ps[k].2.1 = pb at x2 y2
        generalize ps[k].2.2 = pc at x3 y3
        rw [Nat.mul_comm 3 k] at x1 x2 x3 y1 y2 y3
        have hkI : (k : Int) < (ps.length : Int) := by omega
        go_wp2_with fail
        go_quiet (fail)
        go_wp2
        go_roundw
        case rel => exact ⟨k + 1, by omega, by go_num, _, rfl⟩
        case measure => simp [intOf]; omega
      · have hb5 : Below w4.heap.size w4 (w4.drewN q) := below_drewN (Below.refl _ _) _
        have r05 := cell_below hb5 r0'
        have r15 := cell_below hb5 r1'
        have HS5 : Hid (IsS (w4.drewN q) a2 ls sp) := HS4.out.below hb5
        have HT5 : Hid (IsS (w4.drewN q) sa ls sp) := HT4.out.below hb5
        have HI5 : Hid (IsI (w4.drewN q) a1 n ids) := HI4.out.below hb5
        have HA5 : Hid (IsI (w4.drewN q) ia n ids) := HA4.out.below hb5
        have HB5 : Hid (Below w4.heap.size w4 (w4.drewN q)) := hb5
        clear hb5 r0' r1'
        generalize w4.drewN q = w5 at *
        go_wp2_with fail
        refine (equalI HA5.out HI5.out (by omega)).mono ?_
        rintro e w6 ⟨rfl, q1, hw6⟩
        have hb6 : Below w5.heap.size w5 w6 := by rw [hw6]; exact below_drewN (Below.refl _ _) _
        have r06 := cell_below hb6 r05
        have r16 := cell_below hb6 r15
        have HS6 : Hid (IsS w6 a2 ls sp) := HS5.out.below hb6
        have HT6 : Hid (IsS w6 sa ls sp) := HT5.out.below hb6
        have HB6 : Hid (Below w5.heap.size w5 w6) := hb6
        clear hb6 hw6 r05 r15
        go_wp2_with fail
        refine (equalS HT6.out HS6.out (by omega)).mono ?_
        rintro e w7 ⟨rfl, q2, hw7⟩
        have hb7 : Below w6.heap.size w6 w7 := by rw [hw7]; exact below_drewN (Below.refl _ _) _
        have r07 := cell_below hb7 r06
        have r17 := cell_below hb7 r16
        have HB7 : Hid (Below w6.heap.size w6 w7) := hb7
        clear hb7 hw7 r06 r16
        go_wp2_with fail
        go_ret
        exact ⟨rfl, bt HB1.out (bt HB2.out (bt HB3.out (bt HB4.out (bt HB5.out (bt HB6.out HB7.out)))))⟩
end Go.Proofs.Ybulkdqxm
