import Derived.Test.YbulkdqyoPeers
namespace Go.Proofs.Ybulkdqyo
open Go.RowKit
set_option linter.unusedVariables false

theorem Inv.alloc {W0 wr : World} {gb : Nat} {L : List Int} (h : Inv W0 wr gb L) (o : Obj) : Inv W0 (wr.alloc o) gb L := by
  obtain ⟨a, c, hblk, hown, hg, hlt⟩ := h
  exact ⟨a, c, (Below.heap_alloc _ _ _ (by have := hg.size; omega)).trans hblk, hown.alloc o, grown_later hg (World.grownBy_alloc wr o none) (fun q hq => by cases hq), hlt⟩
theorem Inv.drewN {W0 wr : World} {gb : Nat} {L : List Int} (h : Inv W0 wr gb L) (n : Nat) : Inv W0 (wr.drewN n) gb L := by
  obtain ⟨a, c, hblk, hown, hg, hlt⟩ := h
  exact ⟨a, c, hblk, hown, ⟨hg.os, hg.tape, hg.output, hg.size, hg.block⟩, hlt⟩

def takeL (lim : Nat) (l : List Int) : List Int := if lim = 0 then l else l.take lim
def pl (f : Nat → Int) (k : Nat) : List Int := (List.range k).map f
theorem pl_succ (f : Nat → Int) (k : Nat) : pl f (k + 1) = pl f k ++ [f k] := by simp [pl, List.range_succ]
theorem pl_len (f : Nat → Int) (k : Nat) : (pl f k).length = k := by simp [pl]
theorem pl_take (f : Nat → Int) (k m : Nat) (h : m ≤ k) : (pl f k).take m = pl f m := by
  simp [pl, ← List.map_take, List.take_range, Nat.min_eq_left h]
/-- stopped inside the first part -/
theorem take_in {f : Nat → Int} {k lim : Nat} {l : List Int} (h0 : 0 < lim) (h : lim ≤ k) : takeL lim (pl f k ++ l) = pl f lim := by
  unfold takeL
  rw [if_neg (by omega), List.take_append_of_le_length (by rw [pl_len]; exact h), pl_take f k lim h]
theorem take_all {lim : Nat} {l : List Int} (h : lim = 0 ∨ l.length < lim) : takeL lim l = l := by
  unfold takeL
  split
  · rfl
  · exact List.take_of_length_le (by omega)
theorem take_two {f g : Nat → Int} {k m lim : Nat} (h0 : k < lim) (h : lim ≤ k + m) : takeL lim (pl f k ++ pl g m) = pl f k ++ pl g (lim - k) := by
  unfold takeL
  rw [if_neg (by omega), List.take_append, pl_len, List.take_of_length_le (by rw [pl_len]; omega), pl_take g m (lim - k) (by omega)]

theorem slice27 (R kk : Nat) (hk : kk ≤ 32) (W : World) : (Instr.sliceAt 27 (.pointer (some ⟨R, 4, none⟩)) none (some (.int .i32 (kk : Int))) none).run Yba.prog W = .ok (.slice (some ⟨R, 4, none⟩) kk 32) W := by
  have hl : Yba.prog.arrayLen 27 = 32 := by kernel_rfl
  have he : Yba.prog.elem 27 = 21 := by kernel_rfl
  have ht : Yba.prog.underlying 27 = some (.array (Yba.prog.arrayLen 27) (Yba.prog.elem 27)) := by kernel_rfl
  rw [run_sliceAt_array_h (P := Yba.prog) W 27 ⟨R, 4, none⟩ ht .i32 (kk : Int) (by omega) (by rw [hl]; omega), he, Yba.sizeOf21]
  simp [slicedAt, hl, Addr.add_lit]

set_option maxRecDepth 100000 in
set_option maxHeartbeats 1000000 in
theorem seq_some (W0 : World) (gb lb rb R O N nd lim lm : Nat) (pe mp ma : Nat → Int) (hI : Inv W0 W0 gb []) (hlim : W0.cell? ⟨lb, 0, none⟩ = some (.int .i64 lim)) (hll : lim ≤ 65535)
    (hrb : W0.cell? ⟨rb, 0, none⟩ = some (.pointer (some ⟨R, 0, none⟩))) (h3 : W0.cell? ⟨R, 3, none⟩ = some (.int .i32 nd)) (hnd : nd ≤ 2147483647)
    (hp : ∀ j, j < 32 → W0.cell? ⟨R, 4 + j, none⟩ = some (.int .i32 (pe j))) (hm : W0.cell? ⟨R, 132, none⟩ = some (.pointer (some ⟨O, 0, none⟩)))
    (hO : W0.cell? ⟨O, 0, none⟩ = some (.slice (some ⟨N, 0, none⟩) lm lm)) (hlm : lm ≤ 1048576)
    (hN : ∀ j, j < lm → W0.cell? ⟨N, 2 * j, none⟩ = some (.int .i32 (mp j)) ∧ W0.cell? ⟨N, 2 * j + 1, none⟩ = some (.int .i32 (ma j)))
    (n1 : lb ≠ gb) (n2 : rb ≠ gb) (n3 : R ≠ gb) (n4 : O ≠ gb) (n5 : N ≠ gb) (kk : Nat) (hkk : kk = min nd 32) :
    Calls Yba.prog 13 #[.func (.func 8) #[] #[.pointer (some ⟨gb, 0, none⟩), .pointer (some ⟨lb, 0, none⟩)], .pointer (some ⟨rb, 0, none⟩)] W0 fun e w' => e = .returned (.tuple #[]) ∧ Inv W0 w' gb (takeL lim (pl pe kk ++ pl mp lm)) := by
  have hk32 : kk ≤ 32 := by omega
  have HI : Hid (Inv W0 W0 gb []) := hI
  have HP : Hid (∀ j, j < 32 → W0.cell? ⟨R, 4 + j, none⟩ = some (.int .i32 (pe j))) := hp
  have HN : Hid (∀ j, j < lm → W0.cell? ⟨N, 2 * j, none⟩ = some (.int .i32 (mp j)) ∧ W0.cell? ⟨N, 2 * j + 1, none⟩ = some (.int .i32 (ma j))) := hN
  clear hI hp hN
  go_enter Yba.func13, Yba.ntmps13
  have hmin : (if (32 : Int) < (nd : Int) then (32 : Int) else (nd : Int)) = (kk : Int) := by split <;> omega
  clear hkk
  have hsl := slice27 R kk hk32
  go_wp2_with fail
  go_quiet (fail)
  clear hmin hsl
  go_wp2_with fail
  go_loopw [17] (fun i wr => ∃ k : Nat, k ≤ kk ∧ i = .int .i64 k ∧ Hid (Inv W0 wr gb (pl pe k)) ∧ (lim = 0 ∨ k < lim)) (fun i _ => kk - (intOf i).toNat)
  case atStart => exact ⟨0, Nat.zero_le _, rfl, HI.out.drewN _, by omega⟩
  case round =>
    obtain ⟨k, hk, rfl, HV, hst⟩ := hrel
    have HST : Hid (lim = 0 ∨ k < lim) := hst
    clear hst
    by_cases hkk : k < kk
    · have c1 := HV.out.cellOld (HP.out k (by omega)) n3
      by_cases hgo : lim = 0 ∨ k + 1 < lim
      · have hy : true = (lim == 0 || decide ((pl pe k).length + 1 < lim)) := by rw [pl_len]; rcases hgo with h | h <;> simp [h]
        have HY : Hid (true = (lim == 0 || decide ((pl pe k).length + 1 < lim))) := hy
        have HGO : Hid (lim = 0 ∨ k + 1 < lim) := hgo
        clear hy hgo
        go_wp2_with (go_at_call 8; refine (yield_any W0 _ gb lb (pl pe k) _ lim HV.out hlim n1 (by rw [pl_len]; omega) hll true HY.out).mono ?_; rintro e w1 ⟨rfl, hI1⟩; have H1 : Hid _ := hI1; clear hI1)
        go_roundw
        case rel => exact ⟨k + 1, by omega, by go_num, by rw [pl_succ]; exact H1, HGO.out⟩
        case measure => simp [intOf]; omega
      · have hy : false = (lim == 0 || decide ((pl pe k).length + 1 < lim)) := by rw [pl_len]; simp; omega
        have HY : Hid (false = (lim == 0 || decide ((pl pe k).length + 1 < lim))) := hy
        have hL : takeL lim (pl pe kk ++ pl mp lm) = pl pe (k + 1) := by
          have h1 := HST.out
          have : lim = k + 1 := by omega
          subst this
          exact take_in (by omega) (by omega)
        have HL : Hid (takeL lim (pl pe kk ++ pl mp lm) = pl pe (k + 1)) := hL
        clear hy hL hgo
        go_wp2_with (go_at_call 8; refine (yield_any W0 _ gb lb (pl pe k) _ lim HV.out hlim n1 (by rw [pl_len]; omega) hll false HY.out).mono ?_; rintro e w1 ⟨rfl, hI1⟩; have H1 : Hid _ := hI1; clear hI1)
        refine bodyPost_ret (results_none rfl _ _ _) rfl ?_
        exact ⟨rfl, by rw [HL.out, pl_succ]; exact H1⟩
    · obtain rfl : k = kk := by omega
      have q1 := HV.out.cellOld hrb n2
      have q2 := HV.out.cellOld hm n3
      have q3 := HV.out.cellOld hO n4
      go_wp2_with fail
      obtain ⟨wo, hwo⟩ : ∃ wo : World, wo = wr := ⟨_, rfl⟩
      go_loopw [39] (fun i wx => ∃ j : Nat, j ≤ lm ∧ i = .int .i64 j ∧ Hid (Inv W0 wx gb (pl pe k ++ pl mp j)) ∧ (lim = 0 ∨ k + j < lim)) (fun i _ => lm - (intOf i).toNat)
      case atStart => exact ⟨0, Nat.zero_le _, rfl, by simpa [pl] using HV, HST.out⟩
      case round =>
        clear hwo HV HST q1 q2 q3
        obtain ⟨j, hj, rfl, HV, hst⟩ := hrel
        have HST : Hid (lim = 0 ∨ k + j < lim) := hst
        clear hst
        by_cases hjl : j < lm
        · have c1 := HV.out.cellOld (HN.out j hjl).1 n5
          have c2 := HV.out.cellOld (HN.out j hjl).2 n5
          rw [Nat.mul_comm 2 j] at c1 c2
          have hln : (pl pe k ++ pl mp j).length = k + j := by rw [List.length_append, pl_len, pl_len]
          have HLN : Hid ((pl pe k ++ pl mp j).length = k + j) := hln
          clear hln
          by_cases hgo : lim = 0 ∨ k + j + 1 < lim
          · have hy : true = (lim == 0 || decide ((pl pe k ++ pl mp j).length + 1 < lim)) := by rw [HLN.out]; rcases hgo with h | h <;> simp [h]
            have HY : Hid (true = (lim == 0 || decide ((pl pe k ++ pl mp j).length + 1 < lim))) := hy
            have HGO : Hid (lim = 0 ∨ k + j + 1 < lim) := hgo
            clear hy hgo
            go_wp2_with (go_at_call 8; refine (yield_any W0 _ gb lb (pl pe k ++ pl mp j) _ lim (HV.out.alloc _) hlim n1 (by rw [HLN.out]; omega) hll true HY.out).mono ?_; rintro e w1 ⟨rfl, hI1⟩; have H1 : Hid _ := hI1; clear hI1)
            go_roundw
            case rel => exact ⟨j + 1, by omega, by go_num, by rw [pl_succ, ← List.append_assoc]; exact H1, HGO.out⟩
            case measure => simp [intOf]; omega
          · have hy : false = (lim == 0 || decide ((pl pe k ++ pl mp j).length + 1 < lim)) := by rw [HLN.out]; simp; omega
            have HY : Hid (false = (lim == 0 || decide ((pl pe k ++ pl mp j).length + 1 < lim))) := hy
            have hL : takeL lim (pl pe k ++ pl mp lm) = pl pe k ++ pl mp (j + 1) := by
              have h1 := HST.out
              have e : lim = k + j + 1 := by omega
              rw [take_two (by omega) (by omega), show lim - k = j + 1 by omega]
            have HL : Hid (takeL lim (pl pe k ++ pl mp lm) = pl pe k ++ pl mp (j + 1)) := hL
            clear hy hL hgo
            go_wp2_with (go_at_call 8; refine (yield_any W0 _ gb lb (pl pe k ++ pl mp j) _ lim (HV.out.alloc _) hlim n1 (by rw [HLN.out]; omega) hll false HY.out).mono ?_; rintro e w1 ⟨rfl, hI1⟩; have H1 : Hid _ := hI1; clear hI1)
            refine bodyPost_ret (results_none rfl _ _ _) rfl ?_
            exact ⟨rfl, by rw [HL.out, pl_succ, ← List.append_assoc]; exact H1⟩
        · obtain rfl : j = lm := by omega
          have HL : Hid (takeL lim (pl pe k ++ pl mp j) = pl pe k ++ pl mp j) := take_all (by rw [List.length_append, pl_len, pl_len]; exact HST.out)
          go_wp2_with fail
          first | go_end0 | refine bodyPost_ret (results_none rfl _ _ _) rfl ?_
          exact ⟨rfl, by rw [HL.out]; exact HV.out⟩

set_option maxRecDepth 100000 in
set_option maxHeartbeats 1000000 in
theorem seq_none (W0 : World) (gb lb rb R nd lim : Nat) (pe : Nat → Int) (hI : Inv W0 W0 gb []) (hlim : W0.cell? ⟨lb, 0, none⟩ = some (.int .i64 lim)) (hll : lim ≤ 65535)
    (hrb : W0.cell? ⟨rb, 0, none⟩ = some (.pointer (some ⟨R, 0, none⟩))) (h3 : W0.cell? ⟨R, 3, none⟩ = some (.int .i32 nd)) (hnd : nd ≤ 2147483647)
    (hp : ∀ j, j < 32 → W0.cell? ⟨R, 4 + j, none⟩ = some (.int .i32 (pe j))) (hm : W0.cell? ⟨R, 132, none⟩ = some (.pointer none))
    (n1 : lb ≠ gb) (n2 : rb ≠ gb) (n3 : R ≠ gb) (kk : Nat) (hkk : kk = min nd 32) :
    Calls Yba.prog 13 #[.func (.func 8) #[] #[.pointer (some ⟨gb, 0, none⟩), .pointer (some ⟨lb, 0, none⟩)], .pointer (some ⟨rb, 0, none⟩)] W0 fun e w' => e = .returned (.tuple #[]) ∧ Inv W0 w' gb (takeL lim (pl pe kk)) := by
  rw [← List.append_nil (pl pe kk)]
  have hk32 : kk ≤ 32 := by omega
  have HI : Hid (Inv W0 W0 gb []) := hI
  have HP : Hid (∀ j, j < 32 → W0.cell? ⟨R, 4 + j, none⟩ = some (.int .i32 (pe j))) := hp
  clear hI hp
  go_enter Yba.func13, Yba.ntmps13
  have hmin : (if (32 : Int) < (nd : Int) then (32 : Int) else (nd : Int)) = (kk : Int) := by split <;> omega
  clear hkk
  have hsl := slice27 R kk hk32
  go_wp2_with fail
  go_quiet (fail)
  clear hmin hsl
  go_wp2_with fail
  go_loopw [17] (fun i wr => ∃ k : Nat, k ≤ kk ∧ i = .int .i64 k ∧ Hid (Inv W0 wr gb (pl pe k)) ∧ (lim = 0 ∨ k < lim)) (fun i _ => kk - (intOf i).toNat)
  case atStart => exact ⟨0, Nat.zero_le _, rfl, HI.out.drewN _, by omega⟩
  case round =>
    obtain ⟨k, hk, rfl, HV, hst⟩ := hrel
    have HST : Hid (lim = 0 ∨ k < lim) := hst
    clear hst
    by_cases hkk : k < kk
    · have c1 := HV.out.cellOld (HP.out k (by omega)) n3
      by_cases hgo : lim = 0 ∨ k + 1 < lim
      · have hy : true = (lim == 0 || decide ((pl pe k).length + 1 < lim)) := by rw [pl_len]; rcases hgo with h | h <;> simp [h]
        have HY : Hid (true = (lim == 0 || decide ((pl pe k).length + 1 < lim))) := hy
        have HGO : Hid (lim = 0 ∨ k + 1 < lim) := hgo
        clear hy hgo
        go_wp2_with (go_at_call 8; refine (yield_any W0 _ gb lb (pl pe k) _ lim HV.out hlim n1 (by rw [pl_len]; omega) hll true HY.out).mono ?_; rintro e w1 ⟨rfl, hI1⟩; have H1 : Hid _ := hI1; clear hI1)
        go_roundw
        case rel => exact ⟨k + 1, by omega, by go_num, by rw [pl_succ]; exact H1, HGO.out⟩
        case measure => simp [intOf]; omega
      · have hy : false = (lim == 0 || decide ((pl pe k).length + 1 < lim)) := by rw [pl_len]; simp; omega
        have HY : Hid (false = (lim == 0 || decide ((pl pe k).length + 1 < lim))) := hy
        have hL : takeL lim (pl pe kk ++ []) = pl pe (k + 1) := by
          have h1 := HST.out
          have : lim = k + 1 := by omega
          subst this
          exact take_in (by omega) (by omega)
        have HL : Hid (takeL lim (pl pe kk ++ []) = pl pe (k + 1)) := hL
        clear hy hL hgo
        go_wp2_with (go_at_call 8; refine (yield_any W0 _ gb lb (pl pe k) _ lim HV.out hlim n1 (by rw [pl_len]; omega) hll false HY.out).mono ?_; rintro e w1 ⟨rfl, hI1⟩; have H1 : Hid _ := hI1; clear hI1)
        refine bodyPost_ret (results_none rfl _ _ _) rfl ?_
        exact ⟨rfl, by rw [HL.out, pl_succ]; exact H1⟩
    · obtain rfl : k = kk := by omega
      have q1 := HV.out.cellOld hrb n2
      have q2 := HV.out.cellOld hm n3
      have HL : Hid (takeL lim (pl pe k ++ []) = pl pe k) := by rw [List.append_nil]; exact take_all (by rw [pl_len]; exact HST.out)
      go_wp2_with fail
      refine bodyPost_ret (results_none rfl _ _ _) rfl ?_
      exact ⟨rfl, by rw [HL.out]; exact HV.out⟩
end Go.Proofs.Ybulkdqyo
