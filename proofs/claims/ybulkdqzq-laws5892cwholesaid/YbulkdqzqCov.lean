import Derived.Test.YbulkdqzqCal
namespace Go.Proofs.Ybulkdqzq
open Go.RowKit
set_option linter.unusedVariables false

set_option maxRecDepth 100000 in
set_option maxHeartbeats 1000000 in
theorem covers8 (cb g n cap : Nat) (D : Nat → Dt) (d : Dt) (w : World) (hn : 0 < n) (hm : n ≤ 2097152) (hc : w.cell? ⟨cb, 0, none⟩ = some (.slice (some ⟨g, 0, none⟩) n cap)) (hD : IsD w g n D) :
    Calls Yba.prog 8 #[.pointer (some ⟨cb, 0, none⟩), dv d] w fun e w' => e = .returned (.bool (cov d (D 0) (D (n - 1)))) ∧ Below w.heap.size w w' := by
  have HD : Hid (IsD w g n D) := hD
  clear hD
  by_cases h0 : 0 ≤ cmpD d (D 0)
  · have hcv : cov d (D 0) (D (n - 1)) = decide (cmpD d (D (n - 1)) ≤ 0) := by simp [cov, h0]
    rw [hcv]
    clear hcv
    obtain ⟨d0, d1, d2⟩ := d
    have h0' : 0 ≤ cmpD (d0, d1, d2) (D 0) := h0
    show Calls Yba.prog 8 #[.pointer (some ⟨cb, 0, none⟩), .agg #[.int .i64 d0, .int .i64 d1, .int .i64 d2]] w _
    obtain ⟨W1, hW1⟩ : ∃ W1, W1 = w.alloc (.cells #[.int .i64 d0, .int .i64 d1, .int .i64 d2] 26) := ⟨_, rfl⟩
    have hb0 : Below w.heap.size w W1 := by rw [hW1]; exact (Below.refl _ _).alloc (Nat.le_refl _) _
    have hcc : ∀ W', Below W1.heap.size W1 W' → W'.cell? ⟨cb, 0, none⟩ = some (.slice (some ⟨g, 0, none⟩) n cap) := fun W' h => cell_below h (cell_below hb0 hc)
    have hdd : ∀ W', Below W1.heap.size W1 W' → IsD W' g n D := fun W' h => (HD.out.below hb0).below h
    have hx0 : ∀ W', Below W1.heap.size W1 W' → W'.cell? ⟨w.heap.size, 0, none⟩ = some (.int .i64 d0) := fun W' h => cell_below h (by rw [hW1]; simp)
    have hx1 : ∀ W', Below W1.heap.size W1 W' → W'.cell? ⟨w.heap.size, 1, none⟩ = some (.int .i64 d1) := fun W' h => cell_below h (by rw [hW1]; simp)
    have hx2 : ∀ W', Below W1.heap.size W1 W' → W'.cell? ⟨w.heap.size, 2, none⟩ = some (.int .i64 d2) := fun W' h => cell_below h (by rw [hW1]; simp)
    have hB0 : Below W1.heap.size W1 W1.drew := (Below.refl _ _).drew
    have hB00 : Below W1.heap.size W1 W1 := Below.refl _ _
    have HDD : Hid (∀ W', Below W1.heap.size W1 W' → IsD W' g n D) := hdd
    have HB : Hid (Below w.heap.size w W1) := hb0
    have HW1 : Hid (W1 = w.alloc (.cells #[.int .i64 d0, .int .i64 d1, .int .i64 d2] 26)) := hW1
    clear hdd hb0 hW1 hc
    go_enter Yba.func8, Yba.ntmps8
    go_wp2_with fail
    rw [← HW1.out]
    go_region_held3 (fun w' => Below W1.heap.size W1 w' ∧ w'.cell? ⟨w.heap.size, 0, none⟩ = some (.int .i64 d0) ∧ w'.cell? ⟨w.heap.size, 1, none⟩ = some (.int .i64 d1) ∧ w'.cell? ⟨w.heap.size, 2, none⟩ = some (.int .i64 d2)) (exact ⟨by assumption, hx0 _ (by assumption), hx1 _ (by assumption), hx2 _ (by assumption)⟩) (first | (go_at_call 11; refine (first11 cb g n cap D _ hn (by exact hcc _ (by assumption)) (by exact HDD.out _ (by assumption))).mono ?_; rintro e w2 ⟨rfl, hb2⟩; have hB2 := bt hB0 hb2; clear hb2) | (go_at_call 10; refine (compare10 (d0, d1, d2) _ _).mono ?_; rintro e w3 ⟨rfl, hb3⟩; have hB3 := bt (by assumption) hb3; clear hb3) | (go_at_call 12; refine (last12 cb g n cap D _ hn hm (by exact hcc _ (by assumption)) (by exact HDD.out _ (by assumption))).mono ?_; rintro e w4 ⟨rfl, hb4⟩; have hB4 := bt (by assumption) hb4; clear hb4))
    all_goals go_wp2
    all_goals go_ret
    all_goals exact ⟨rfl, bt HB.out (by assumption)⟩
  · have hcv : cov d (D 0) (D (n - 1)) = false := by simp [cov, h0]
    rw [hcv]
    clear hcv
    obtain ⟨d0, d1, d2⟩ := d
    have h0' : decide (0 ≤ cmpD (d0, d1, d2) (D 0)) = false := decide_eq_false h0
    show Calls Yba.prog 8 #[.pointer (some ⟨cb, 0, none⟩), .agg #[.int .i64 d0, .int .i64 d1, .int .i64 d2]] w _
    clear h0
    obtain ⟨W1, hW1⟩ : ∃ W1, W1 = w.alloc (.cells #[.int .i64 d0, .int .i64 d1, .int .i64 d2] 26) := ⟨_, rfl⟩
    have hb0 : Below w.heap.size w W1 := by rw [hW1]; exact (Below.refl _ _).alloc (Nat.le_refl _) _
    have hcc : ∀ W', Below W1.heap.size W1 W' → W'.cell? ⟨cb, 0, none⟩ = some (.slice (some ⟨g, 0, none⟩) n cap) := fun W' h => cell_below h (cell_below hb0 hc)
    have hdd : ∀ W', Below W1.heap.size W1 W' → IsD W' g n D := fun W' h => (HD.out.below hb0).below h
    have hx0 : ∀ W', Below W1.heap.size W1 W' → W'.cell? ⟨w.heap.size, 0, none⟩ = some (.int .i64 d0) := fun W' h => cell_below h (by rw [hW1]; simp)
    have hx1 : ∀ W', Below W1.heap.size W1 W' → W'.cell? ⟨w.heap.size, 1, none⟩ = some (.int .i64 d1) := fun W' h => cell_below h (by rw [hW1]; simp)
    have hx2 : ∀ W', Below W1.heap.size W1 W' → W'.cell? ⟨w.heap.size, 2, none⟩ = some (.int .i64 d2) := fun W' h => cell_below h (by rw [hW1]; simp)
    have hB0 : Below W1.heap.size W1 W1.drew := (Below.refl _ _).drew
    have hB00 : Below W1.heap.size W1 W1 := Below.refl _ _
    have HDD : Hid (∀ W', Below W1.heap.size W1 W' → IsD W' g n D) := hdd
    have HB : Hid (Below w.heap.size w W1) := hb0
    have HW1 : Hid (W1 = w.alloc (.cells #[.int .i64 d0, .int .i64 d1, .int .i64 d2] 26)) := hW1
    clear hdd hb0 hW1 hc
    go_enter Yba.func8, Yba.ntmps8
    go_wp2_with fail
    rw [← HW1.out]
    first | (go_region_with (first | (go_at_call 11; refine (first11 cb g n cap D _ hn (by exact hcc _ (by assumption)) (by exact HDD.out _ (by assumption))).mono ?_; rintro e w2 ⟨rfl, hb2⟩; have hB2 := bt hB0 hb2; clear hb2) | (go_at_call 10; refine (compare10 (d0, d1, d2) _ _).mono ?_; rintro e w3 ⟨rfl, hb3⟩; have hB3 := bt (by assumption) hb3; clear hb3))) | fail
    all_goals go_wp2
    all_goals go_ret
    all_goals exact ⟨rfl, bt HB.out (by assumption)⟩
end Go.Proofs.Ybulkdqzq
