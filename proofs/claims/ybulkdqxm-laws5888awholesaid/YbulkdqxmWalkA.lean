import Derived.Test.YbulkdqxmViews
import Derived.WalkSpells
import Derived.Deep.QuietTactic
import Derived.BigQuiet
import Derived.Laws.StructEq
import Derived.WalkSmall
namespace Go.Proofs.Ybulkdqxm
open Go.RowKit
set_option linter.unusedVariables false

theorem lawA_big (ia sa : Option Addr) (li ci ls cs : Nat) (f t : ByteArray) (w : World) (h : 1048576 < li + ls) (h1 : li ≤ 140737488355328) (h2 : ls ≤ 140737488355328) :
    Calls Yba.prog 3 #[.slice ia li ci, .slice sa ls cs, .string f, .string t] w fun e w' => e = .returned (.bool true) ∧ Below w.heap.size w w' := by
  go_enter Yba.func3, Yba.ntmps3
  go_wp2_with fail
  go_ret
  exact ⟨rfl, Below.refl _ _⟩

theorem bt {a b c : World} (h : Below a.heap.size a b) (k : Below b.heap.size b c) : Below a.heap.size a c := h.trans (k.mono h.size)

set_option maxRecDepth 100000 in
set_option maxHeartbeats 1000000 in
theorem lawA_nil (ia sa : Option Addr) (li ci ls cs : Nat) (sf st : ByteArray) (ids : Nat → Int) (sp : Nat → ByteArray) (w : World) (hl : li + ls ≤ 1048576) (hci : li ≤ ci) (hcm : ci ≤ 9223372036854775807)
    (hi : IsI w ia li ids) (hs : IsS w sa ls sp) (n : Nat) (hn : n = min li (ls + 1)) (hp : Pk sf st ids ls sp n = []) :
    Calls Yba.prog 3 #[.slice ia li ci, .slice sa ls cs, .string sf, .string st] w fun e w' => e = .returned (.bool true) ∧ Below w.heap.size w w' := by
  go_enter Yba.func3, Yba.ntmps3
  go_upto_if 30 with fail
  go_cut [9] from 18 (fun x wc => x = .int .i64 n ∧ w = wc)
  case first =>
    by_cases hle : ls + 1 < li
    · go_wp2_with fail
      go_meet
      exact ⟨by rw [hn]; congr 1; omega, rfl⟩
    · go_wp2_with fail
      go_meet
      exact ⟨by rw [hn]; congr 1; omega, rfl⟩
  case rest =>
    obtain ⟨rfl, rfl⟩ := hcut
    have hnl : n ≤ li := by omega
    have hns : n ≤ ls + 1 := by omega
    have HI : Hid (IsI w ia n ids) := hi.mono hnl
    clear hn hi
    go_wp2_with fail
    refine (cloneI HI.out (by omega)).mono ?_
    rintro e w1 ⟨a1, c1, rfl, hi1, hb1⟩
    have HI1 : Hid (IsI w1 a1 n ids) := hi1
    have HB1 : Hid (Below w.heap.size w w1) := hb1
    have HS1 : Hid (IsS w1 sa ls sp) := hs.below hb1
    have HA1 : Hid (IsI w1 ia n ids) := HI.out.below hb1
    clear hi1 hb1 hs HI
    go_wp2_with fail
    refine (cloneS HS1.out (by omega)).mono ?_
    rintro e w2 ⟨a2, c2, rfl, hs2, hb2⟩
    have HS2 : Hid (IsS w2 a2 ls sp) := hs2
    have HB2 : Hid (Below w1.heap.size w1 w2) := hb2
    have HI2 : Hid (IsI w2 a1 n ids) := HI1.out.below hb2
    have HA2 : Hid (IsI w2 ia n ids) := HA1.out.below hb2
    have HT2 : Hid (IsS w2 sa ls sp) := HS1.out.below hb2
    clear hs2 hb2 HI1 HA1 HS1
    go_wp2_with fail
    refine (cut_nil (rb := w2.heap.size) hns (by omega) (by omega) (ia := ia) (ic := ci) (sa := sa) (sc := cs) ?_ ?_ ?_ ?_ hp).mono ?_
    · go_simp
    · go_simp
    · exact HA2.out.below (((Below.refl _ _).alloc (Nat.le_refl _) _).alloc (by simp) _)
    · exact HT2.out.below (((Below.refl _ _).alloc (Nat.le_refl _) _).alloc (by simp) _)
    rintro e w3 ⟨rfl, hb3⟩
    have hb3' : Below w2.heap.size w2 w3 := (((Below.refl _ _).alloc (Nat.le_refl _) _).alloc (by simp) _).trans (hb3.mono (by simp; omega))
    have r0 : w3.cell? ⟨w2.heap.size, 0, none⟩ = some (.slice ia n ci) := (hb3.cell (p := ⟨w2.heap.size, 0, none⟩) (by simp; omega)).trans (by go_simp)
    have r1 : w3.cell? ⟨w2.heap.size, 1, none⟩ = some (.slice sa ls cs) := (hb3.cell (p := ⟨w2.heap.size, 1, none⟩) (by simp; omega)).trans (by go_simp)
    have r2 : w3.cell? ⟨w2.heap.size + 1, 0, none⟩ = some (.string sf) := (hb3.cell (p := ⟨w2.heap.size + 1, 0, none⟩) (by simp)).trans (by go_simp)
    have r3 : w3.cell? ⟨w2.heap.size + 1, 1, none⟩ = some (.string st) := (hb3.cell (p := ⟨w2.heap.size + 1, 1, none⟩) (by simp)).trans (by go_simp)
    have HB3 : Hid (Below w2.heap.size w2 w3) := hb3'
    have HS3 : Hid (IsS w3 a2 ls sp) := HS2.out.below hb3'
    have HI3 : Hid (IsI w3 a1 n ids) := HI2.out.below hb3'
    have HA3 : Hid (IsI w3 ia n ids) := HA2.out.below hb3'
    have HT3 : Hid (IsS w3 sa ls sp) := HT2.out.below hb3'
    clear hb3 hb3' HS2 HI2 HA2 HT2
    go_wp2_with fail
    refine (model_nil hns (by omega) (by omega) HI3.out HS3.out hp).mono ?_
    rintro e w4 ⟨rfl, hb4⟩
    have r0' := cell_below hb4 r0
    have r1' := cell_below hb4 r1
    have HB4 : Hid (Below w3.heap.size w3 w4) := hb4
    have HS4 : Hid (IsS w4 a2 ls sp) := HS3.out.below hb4
    have HI4 : Hid (IsI w4 a1 n ids) := HI3.out.below hb4
    have HA4 : Hid (IsI w4 ia n ids) := HA3.out.below hb4
    have HT4 : Hid (IsS w4 sa ls sp) := HT3.out.below hb4
    clear hb4 r0 r1 r2 r3 HS3 HI3 HA3 HT3 hp
    have hq := fun W a n c n' c' => Lib.run_eql_slice_nil (P := Yba.prog) W 31 35 a n c n' c' Yba.underlying31
    go_wp2_with fail
    refine wp_loop_rounds 1 ?_
    rw [rounds_succ]
    go_wp2_with fail
    refine (equalI HA4.out HI4.out (by omega)).mono ?_
    rintro e w6 ⟨rfl, q1, hw6⟩
    have hb6 : Below w4.heap.size w4 w6 := by rw [hw6]; exact below_drewN (Below.refl _ _) _
    have r06 := cell_below hb6 r0'
    have r16 := cell_below hb6 r1'
    have HS6 : Hid (IsS w6 a2 ls sp) := HS4.out.below hb6
    have HT6 : Hid (IsS w6 sa ls sp) := HT4.out.below hb6
    have HB6 : Hid (Below w4.heap.size w4 w6) := hb6
    clear hb6 hw6 r0' r1'
    go_wp2_with fail
    refine (equalS HT6.out HS6.out (by omega)).mono ?_
    rintro e w7 ⟨rfl, q2, hw7⟩
    have hb7 : Below w6.heap.size w6 w7 := by rw [hw7]; exact below_drewN (Below.refl _ _) _
    have r07 := cell_below hb7 r06
    have r17 := cell_below hb7 r16
    have HB7 : Hid (Below w6.heap.size w6 w7) := hb7
    clear hb7 hw7 r06 r16
    go_wp2_with fail
    go_ret
    exact ⟨rfl, bt HB1.out (bt HB2.out (bt HB3.out (bt HB4.out (bt HB6.out HB7.out))))⟩
end Go.Proofs.Ybulkdqxm
