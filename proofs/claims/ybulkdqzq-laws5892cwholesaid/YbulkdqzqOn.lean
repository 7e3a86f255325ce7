import Derived.Test.YbulkdqzqBs
namespace Go.Proofs.Ybulkdqzq
open Go.RowKit
set_option linter.unusedVariables false

theorem cmpI_anti (x y : Int) : cmpI x y = - cmpI y x := by
  unfold cmpI
  split <;> split <;> first | omega | (split <;> omega)
theorem orI_neg (a b c : Int) : orI (-a) (-b) (-c) = - orI a b c := by
  unfold orI
  by_cases h1 : a = 0 <;> by_cases h2 : b = 0 <;> simp [h1, h2]
theorem cmpD_anti (a b : Dt) : cmpD a b = - cmpD b a := by
  unfold cmpD
  rw [cmpI_anti a.1, cmpI_anti a.2.1, cmpI_anti a.2.2, orI_neg]

set_option maxRecDepth 100000 in
set_option maxHeartbeats 1000000 in
theorem on5 (cb g n cap : Nat) (D : Nat → Dt) (d : Dt) (w : World) (hn : 0 < n) (hm : n ≤ 2097152) (hc : w.cell? ⟨cb, 0, none⟩ = some (.slice (some ⟨g, 0, none⟩) n cap)) (hD : IsD w g n D) (hmo : ∀ k l, k ≤ l → l < n → 0 ≤ cmpD (D k) d → 0 ≤ cmpD (D l) d) :
    Calls Yba.prog 5 #[.pointer (some ⟨cb, 0, none⟩), dv d] w fun e w' => ((cov d (D 0) (D (n - 1)) = false ∧ e = .returned (.tuple #[dv (0, 0, 0), .bool false])) ∨
      (cov d (D 0) (D (n - 1)) = true ∧ ∃ i, i < n ∧ e = .returned (.tuple #[dv (D i), .bool true]) ∧ (∀ k, k < i → cmpD (D k) d < 0) ∧ 0 ≤ cmpD (D i) d)) ∧ Below w.heap.size w w' := by
  have HD : Hid (IsD w g n D) := hD
  have HM : Hid (∀ k l, k ≤ l → l < n → 0 ≤ cmpD (D k) d → 0 ≤ cmpD (D l) d) := hmo
  clear hD hmo
  obtain ⟨d0, d1, d2⟩ := d
  show Calls Yba.prog 5 #[.pointer (some ⟨cb, 0, none⟩), .agg #[.int .i64 d0, .int .i64 d1, .int .i64 d2]] w _
  obtain ⟨W1, hW1⟩ : ∃ W1, W1 = (w.alloc (.cells #[.int .i64 d0, .int .i64 d1, .int .i64 d2] 26)).alloc (.cells #[.int .i64 0, .int .i64 0, .int .i64 0] 26) := ⟨_, rfl⟩
  have hb0 : Below w.heap.size w W1 := by rw [hW1]; exact ((Below.refl _ _).alloc (Nat.le_refl _) _).alloc (by simp) _
  have hs1 : W1.heap.size = w.heap.size + 2 := by rw [hW1]; simp
  have hcc : ∀ W', Below W1.heap.size W1 W' → W'.cell? ⟨cb, 0, none⟩ = some (.slice (some ⟨g, 0, none⟩) n cap) := fun W' h => cell_below h (cell_below hb0 hc)
  have hdd : ∀ W', Below W1.heap.size W1 W' → IsD W' g n D := fun W' h => (HD.out.below hb0).below h
  have hx0 : ∀ W', Below W1.heap.size W1 W' → W'.cell? ⟨w.heap.size, 0, none⟩ = some (.int .i64 d0) := fun W' h => cell_below h (by rw [hW1]; simp)
  have hx1 : ∀ W', Below W1.heap.size W1 W' → W'.cell? ⟨w.heap.size, 1, none⟩ = some (.int .i64 d1) := fun W' h => cell_below h (by rw [hW1]; simp)
  have hx2 : ∀ W', Below W1.heap.size W1 W' → W'.cell? ⟨w.heap.size, 2, none⟩ = some (.int .i64 d2) := fun W' h => cell_below h (by rw [hW1]; simp)
  have hz0 : ∀ W', Below W1.heap.size W1 W' → W'.cell? ⟨w.heap.size + 1, 0, none⟩ = some (.int .i64 0) := fun W' h => cell_below h (by rw [hW1]; simp)
  have hz1 : ∀ W', Below W1.heap.size W1 W' → W'.cell? ⟨w.heap.size + 1, 1, none⟩ = some (.int .i64 0) := fun W' h => cell_below h (by rw [hW1]; simp)
  have hz2 : ∀ W', Below W1.heap.size W1 W' → W'.cell? ⟨w.heap.size + 1, 2, none⟩ = some (.int .i64 0) := fun W' h => cell_below h (by rw [hW1]; simp)
  have HDD : Hid (∀ W', Below W1.heap.size W1 W' → IsD W' g n D) := hdd
  have HCC : Hid (∀ W', Below W1.heap.size W1 W' → W'.cell? ⟨cb, 0, none⟩ = some (.slice (some ⟨g, 0, none⟩) n cap)) := hcc
  have HX : Hid (∀ W', Below W1.heap.size W1 W' → W'.cell? ⟨cb, 0, none⟩ = some (.slice (some ⟨g, 0, none⟩) n cap) ∧ W'.cell? ⟨w.heap.size, 0, none⟩ = some (.int .i64 d0) ∧ W'.cell? ⟨w.heap.size, 1, none⟩ = some (.int .i64 d1) ∧ W'.cell? ⟨w.heap.size, 2, none⟩ = some (.int .i64 d2)) := fun W' h => ⟨hcc W' h, hx0 W' h, hx1 W' h, hx2 W' h⟩
  have HZ : Hid (∀ W', Below W1.heap.size W1 W' → W'.cell? ⟨w.heap.size + 1, 0, none⟩ = some (.int .i64 0) ∧ W'.cell? ⟨w.heap.size + 1, 1, none⟩ = some (.int .i64 0) ∧ W'.cell? ⟨w.heap.size + 1, 2, none⟩ = some (.int .i64 0) ∧ W'.frozen? ⟨w.heap.size + 1, 0, none⟩ = false ∧ W'.frozen? ⟨w.heap.size + 1, 1, none⟩ = false ∧ W'.frozen? ⟨w.heap.size + 1, 2, none⟩ = false) :=
    fun W' h => ⟨hz0 W' h, hz1 W' h, hz2 W' h, (h.frozen (by simp [hs1])).trans (by rw [hW1]; simp), (h.frozen (by simp [hs1])).trans (by rw [hW1]; simp), (h.frozen (by simp [hs1])).trans (by rw [hW1]; simp)⟩
  have HB : Hid (Below w.heap.size w W1) := hb0
  have HW1 : Hid (W1 = (w.alloc (.cells #[.int .i64 d0, .int .i64 d1, .int .i64 d2] 26)).alloc (.cells #[.int .i64 0, .int .i64 0, .int .i64 0] 26)) := hW1
  have HS1 : Hid (W1.heap.size = w.heap.size + 2) := hs1
  clear hdd hb0 hW1 hx0 hx1 hx2 hz0 hz1 hz2 hcc hs1 hc
  have HL : Hid (cov (d0, d1, d2) (D 0) (D (n - 1)) = true → 0 ≤ cmpD (D (n - 1)) (d0, d1, d2)) := fun h => by
    simp [cov] at h
    rw [cmpD_anti]; omega
  go_enter Yba.func5, Yba.ntmps5
  by_cases hcv : cov (d0, d1, d2) (D 0) (D (n - 1)) = true
  · go_wp2_with (go_at_call 8; rw [← HW1.out]; refine (covers8 cb g n cap D (d0, d1, d2) _ hn hm (HCC.out _ (Below.refl _ _)) (HDD.out _ (Below.refl _ _))).mono ?_; rintro e w2 ⟨rfl, hb2⟩; have HB2 : Hid _ := hb2; clear hb2)
    have hB0 : Below W1.heap.size W1 w2.drew := HB2.out.drew
    have HW : Hid (∀ W', Below W1.heap.size W1 W' → Below W1.heap.size W1 W' ∧ W'.cell? ⟨cb, 0, none⟩ = some (.slice (some ⟨g, 0, none⟩) n cap) ∧ W'.cell? ⟨w.heap.size, 0, none⟩ = some (.int .i64 d0) ∧ W'.cell? ⟨w.heap.size, 1, none⟩ = some (.int .i64 d1) ∧ W'.cell? ⟨w.heap.size, 2, none⟩ = some (.int .i64 d2)) := fun W' hw => ⟨hw, HX.out W' hw⟩
    go_region_held3 (fun W' => Below W1.heap.size W1 W' ∧ W'.cell? ⟨cb, 0, none⟩ = some (.slice (some ⟨g, 0, none⟩) n cap) ∧ W'.cell? ⟨w.heap.size, 0, none⟩ = some (.int .i64 d0) ∧ W'.cell? ⟨w.heap.size, 1, none⟩ = some (.int .i64 d1) ∧ W'.cell? ⟨w.heap.size, 2, none⟩ = some (.int .i64 d2)) (exact HW.out _ (by assumption)) (first | (go_at_call 9; refine (bsearch9 g n cap D (d0, d1, d2) _ hm (HDD.out _ (by assumption)) HM.out).mono ?_; rintro e w3 ⟨⟨i, b, hi, rfl, hA, hAB⟩, hb3⟩; have hB3 := bt hB0 hb3; clear hb3; have HA : Hid _ := hA; have HAB : Hid _ := hAB; clear hA hAB))
    have hin : i < n := by
      apply Classical.byContradiction
      intro hni
      have h1 := HA.out (n - 1) (by omega)
      have h2 := HL.out hcv
      omega
    obtain ⟨c0, c1, c2⟩ := HDD.out _ hB3 i hin
    have c3 := HCC.out _ hB3
    obtain ⟨z0, z1, z2, z3, z4, z5⟩ := HZ.out _ hB3
    have hgb : g < w.heap.size := World.block_lt_of_cell? _ _ (HD.out i hin).1
    go_wp2
    refine bodyPost_ret (v := .tuple #[dv (D i), .bool true]) (by simp [results, Yba.results5, go_sem, dv, z0, z1, z2]) rfl ⟨Or.inr ⟨hcv, i, hin, rfl, HA.out, HAB.out hin⟩, ?_⟩
    exact (((bt HB.out hB3).setCell (by simp) _).setCell (by simp) _).setCell (by simp) _
  · have hcf : cov (d0, d1, d2) (D 0) (D (n - 1)) = false := by simpa using hcv
    clear hcv
    go_wp2_with (go_at_call 8; rw [← HW1.out]; refine (covers8 cb g n cap D (d0, d1, d2) _ hn hm (HCC.out _ (Below.refl _ _)) (HDD.out _ (Below.refl _ _))).mono ?_; rintro e w2 ⟨rfl, hb2⟩; have HB2 : Hid _ := hb2; obtain ⟨y0, y1, y2, y3, y4, y5⟩ := HZ.out _ hb2; clear hb2)
    refine bodyPost_ret (v := .tuple #[dv (0, 0, 0), .bool false]) (by simp [results, Yba.results5, go_sem, dv, y0, y1, y2]) rfl ⟨Or.inl ⟨hcf, rfl⟩, ?_⟩
    exact (((bt HB.out HB2.out).setCell (by simp) _).setCell (by simp) _).setCell (by simp) _
end Go.Proofs.Ybulkdqzq
