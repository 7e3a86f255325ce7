import Derived.Test.YbulkdqzqCov
namespace Go.Proofs.Ybulkdqzq
open Go.RowKit
set_option linter.unusedVariables false

set_option maxRecDepth 100000 in
set_option maxHeartbeats 1000000 in
theorem bsearch9 (g n cap : Nat) (D : Nat → Dt) (d : Dt) (w : World) (hm : n ≤ 2097152) (hD : IsD w g n D) (hmo : ∀ k l, k ≤ l → l < n → 0 ≤ cmpD (D k) d → 0 ≤ cmpD (D l) d) :
    Calls Yba.prog 9 #[.slice (some ⟨g, 0, none⟩) n cap, dv d, .func (.func 10) #[] #[]] w fun e w' => (∃ (i : Nat) (b : Bool), i ≤ n ∧ e = .returned (.tuple #[.int .i64 i, .bool b]) ∧ (∀ k, k < i → cmpD (D k) d < 0) ∧ (i < n → 0 ≤ cmpD (D i) d)) ∧ Below w.heap.size w w' := by
  have HD : Hid (IsD w g n D) := hD
  have HM : Hid (∀ k l, k ≤ l → l < n → 0 ≤ cmpD (D k) d → 0 ≤ cmpD (D l) d) := hmo
  clear hD hmo
  obtain ⟨d0, d1, d2⟩ := d
  show Calls Yba.prog 9 #[.slice (some ⟨g, 0, none⟩) n cap, .agg #[.int .i64 d0, .int .i64 d1, .int .i64 d2], .func (.func 10) #[] #[]] w _
  obtain ⟨W1, hW1⟩ : ∃ W1, W1 = w.alloc (.cells #[.int .i64 d0, .int .i64 d1, .int .i64 d2] 26) := ⟨_, rfl⟩
  have hb0 : Below w.heap.size w W1 := by rw [hW1]; exact (Below.refl _ _).alloc (Nat.le_refl _) _
  have hdd : ∀ W', Below W1.heap.size W1 W' → IsD W' g n D := fun W' h => (HD.out.below hb0).below h
  have hx0 : ∀ W', Below W1.heap.size W1 W' → W'.cell? ⟨w.heap.size, 0, none⟩ = some (.int .i64 d0) := fun W' h => cell_below h (by rw [hW1]; simp)
  have hx1 : ∀ W', Below W1.heap.size W1 W' → W'.cell? ⟨w.heap.size, 1, none⟩ = some (.int .i64 d1) := fun W' h => cell_below h (by rw [hW1]; simp)
  have hx2 : ∀ W', Below W1.heap.size W1 W' → W'.cell? ⟨w.heap.size, 2, none⟩ = some (.int .i64 d2) := fun W' h => cell_below h (by rw [hW1]; simp)
  have HDD : Hid (∀ W', Below W1.heap.size W1 W' → IsD W' g n D) := hdd
  have HX : Hid (∀ W', Below W1.heap.size W1 W' → W'.cell? ⟨w.heap.size, 0, none⟩ = some (.int .i64 d0) ∧ W'.cell? ⟨w.heap.size, 1, none⟩ = some (.int .i64 d1) ∧ W'.cell? ⟨w.heap.size, 2, none⟩ = some (.int .i64 d2)) := fun W' h => ⟨hx0 W' h, hx1 W' h, hx2 W' h⟩
  have HB : Hid (Below w.heap.size w W1) := hb0
  have HW1 : Hid (W1 = w.alloc (.cells #[.int .i64 d0, .int .i64 d1, .int .i64 d2] 26)) := hW1
  clear hdd hb0 hW1 hx0 hx1 hx2
  go_enter Yba.func9, Yba.ntmps9
  go_wp2_with fail
  rw [← HW1.out]
  go_loopw [9, 10] (fun i j wr => ∃ a b : Nat, a ≤ b ∧ b ≤ n ∧ i = .int .i64 a ∧ j = .int .i64 b ∧ Hid (Below W1.heap.size W1 wr) ∧ Hid (∀ k, k < a → cmpD (D k) (d0, d1, d2) < 0) ∧ Hid (∀ k, b ≤ k → k < n → 0 ≤ cmpD (D k) (d0, d1, d2))) (fun i j _ => (intOf j).toNat - (intOf i).toNat)
  case atStart => exact ⟨0, n, Nat.zero_le _, Nat.le_refl _, rfl, rfl, Below.refl _ _, fun k hk => by omega, fun k h1 h2 => by omega⟩
  case round =>
    obtain ⟨a, b, hab, hbn, rfl, rfl, HBW, HA, HBB⟩ := hrel
    by_cases hlt : a < b
    · obtain ⟨h, hh, hah, hhb⟩ : ∃ h : Nat, ((a : Int) + (b : Int)) / 2 = (h : Int) ∧ a ≤ h ∧ h < b := ⟨(a + b) / 2, by omega, by omega, by omega⟩
      have hhn : h < n := by omega
      have HC : Hid (∀ W', Below W1.heap.size W1 W' → W'.cell? ⟨g, h * 3, none⟩ = some (.int .i64 (D h).1) ∧ W'.cell? ⟨g, h * 3 + 1, none⟩ = some (.int .i64 (D h).2.1) ∧ W'.cell? ⟨g, h * 3 + 2, none⟩ = some (.int .i64 (D h).2.2)) := fun W' hw => HDD.out W' hw h hhn
      have hB0 : Below W1.heap.size W1 wr.drew := HBW.out.drew
      have HW : Hid (∀ W', Below W1.heap.size W1 W' → Below W1.heap.size W1 W' ∧ W'.cell? ⟨w.heap.size, 0, none⟩ = some (.int .i64 d0) ∧ W'.cell? ⟨w.heap.size, 1, none⟩ = some (.int .i64 d1) ∧ W'.cell? ⟨w.heap.size, 2, none⟩ = some (.int .i64 d2) ∧ W'.cell? ⟨g, h * 3, none⟩ = some (.int .i64 (D h).1) ∧ W'.cell? ⟨g, h * 3 + 1, none⟩ = some (.int .i64 (D h).2.1) ∧ W'.cell? ⟨g, h * 3 + 2, none⟩ = some (.int .i64 (D h).2.2)) :=
        fun W' hw => ⟨hw, (HX.out W' hw).1, (HX.out W' hw).2.1, (HX.out W' hw).2.2, (HC.out W' hw).1, (HC.out W' hw).2.1, (HC.out W' hw).2.2⟩
      by_cases hc : cmpD (D h) (d0, d1, d2) < 0
      · go_wp2_with fail
        go_region_held3 (fun W' => Below W1.heap.size W1 W' ∧ W'.cell? ⟨w.heap.size, 0, none⟩ = some (.int .i64 d0) ∧ W'.cell? ⟨w.heap.size, 1, none⟩ = some (.int .i64 d1) ∧ W'.cell? ⟨w.heap.size, 2, none⟩ = some (.int .i64 d2) ∧ W'.cell? ⟨g, h * 3, none⟩ = some (.int .i64 (D h).1) ∧ W'.cell? ⟨g, h * 3 + 1, none⟩ = some (.int .i64 (D h).2.1) ∧ W'.cell? ⟨g, h * 3 + 2, none⟩ = some (.int .i64 (D h).2.2)) (exact HW.out _ (by assumption)) (first | (go_at_call 10; refine (compare10 (D h) (d0, d1, d2) _).mono ?_; rintro e w3 ⟨rfl, hb3⟩; have hB3 := bt hB0 hb3; clear hb3))
        go_wp2
        go_roundw
        case rel => exact ⟨h + 1, b, by omega, by omega, by go_num, rfl, hB3, fun k hk => by
            by_cases hka : cmpD (D k) (d0, d1, d2) < 0
            · exact hka
            · have := HM.out k h (by omega) hhn (by omega); omega, HBB⟩
        case measure => simp [intOf]; omega
      · have hc' : decide (cmpD (D h) (d0, d1, d2) < 0) = false := decide_eq_false hc
        go_wp2_with fail
        go_region_held3 (fun W' => Below W1.heap.size W1 W' ∧ W'.cell? ⟨w.heap.size, 0, none⟩ = some (.int .i64 d0) ∧ W'.cell? ⟨w.heap.size, 1, none⟩ = some (.int .i64 d1) ∧ W'.cell? ⟨w.heap.size, 2, none⟩ = some (.int .i64 d2) ∧ W'.cell? ⟨g, h * 3, none⟩ = some (.int .i64 (D h).1) ∧ W'.cell? ⟨g, h * 3 + 1, none⟩ = some (.int .i64 (D h).2.1) ∧ W'.cell? ⟨g, h * 3 + 2, none⟩ = some (.int .i64 (D h).2.2)) (exact HW.out _ (by assumption)) (first | (go_at_call 10; refine (compare10 (D h) (d0, d1, d2) _).mono ?_; rintro e w3 ⟨rfl, hb3⟩; have hB3 := bt hB0 hb3; clear hb3))
        go_wp2
        go_roundw
        case rel => exact ⟨a, h, hah, by omega, rfl, rfl, hB3, HA, fun k h1 h2 => HM.out h k h1 h2 (by omega)⟩
        case measure => simp [intOf]; omega
    · obtain rfl : a = b := by omega
      clear hlt
      by_cases han : a < n
      · have HC : Hid (∀ W', Below W1.heap.size W1 W' → W'.cell? ⟨g, a * 3, none⟩ = some (.int .i64 (D a).1) ∧ W'.cell? ⟨g, a * 3 + 1, none⟩ = some (.int .i64 (D a).2.1) ∧ W'.cell? ⟨g, a * 3 + 2, none⟩ = some (.int .i64 (D a).2.2)) := fun W' hw => HDD.out W' hw a han
        have hB0 : Below W1.heap.size W1 wr.drew := HBW.out.drew
        have HW : Hid (∀ W', Below W1.heap.size W1 W' → Below W1.heap.size W1 W' ∧ W'.cell? ⟨w.heap.size, 0, none⟩ = some (.int .i64 d0) ∧ W'.cell? ⟨w.heap.size, 1, none⟩ = some (.int .i64 d1) ∧ W'.cell? ⟨w.heap.size, 2, none⟩ = some (.int .i64 d2) ∧ W'.cell? ⟨g, a * 3, none⟩ = some (.int .i64 (D a).1) ∧ W'.cell? ⟨g, a * 3 + 1, none⟩ = some (.int .i64 (D a).2.1) ∧ W'.cell? ⟨g, a * 3 + 2, none⟩ = some (.int .i64 (D a).2.2)) :=
          fun W' hw => ⟨hw, (HX.out W' hw).1, (HX.out W' hw).2.1, (HX.out W' hw).2.2, (HC.out W' hw).1, (HC.out W' hw).2.1, (HC.out W' hw).2.2⟩
        go_wp2_with fail
        go_region_held3 (fun W' => Below W1.heap.size W1 W' ∧ W'.cell? ⟨w.heap.size, 0, none⟩ = some (.int .i64 d0) ∧ W'.cell? ⟨w.heap.size, 1, none⟩ = some (.int .i64 d1) ∧ W'.cell? ⟨w.heap.size, 2, none⟩ = some (.int .i64 d2) ∧ W'.cell? ⟨g, a * 3, none⟩ = some (.int .i64 (D a).1) ∧ W'.cell? ⟨g, a * 3 + 1, none⟩ = some (.int .i64 (D a).2.1) ∧ W'.cell? ⟨g, a * 3 + 2, none⟩ = some (.int .i64 (D a).2.2)) (exact HW.out _ (by assumption)) (first | (go_at_call 10; refine (compare10 (D a) (d0, d1, d2) _).mono ?_; rintro e w3 ⟨rfl, hb3⟩; have hB3 := bt hB0 hb3; clear hb3))
        all_goals go_wp2
        all_goals exact bodyPost_ret (v := .tuple #[.int .i64 a, .bool (cmpD (D a) (d0, d1, d2) == 0)]) (by simp [results, Yba.results9, go_sem]) rfl ⟨⟨a, _, hbn, rfl, HA.out, fun h => HBB.out a (Nat.le_refl _) h⟩, bt HB.out (by assumption)⟩
      · obtain rfl : a = n := by omega
        have hnn : decide ((a : Int) < (a : Int)) = false := decide_eq_false (by omega)
        have hB0 : Below W1.heap.size W1 wr.drew := HBW.out.drew
        go_wp2_with fail
        first | (go_quiet (fail)) | fail
        go_wp2
        exact bodyPost_ret (v := .tuple #[.int .i64 a, .bool false]) (by simp [results, Yba.results9, go_sem]) rfl ⟨⟨a, _, hbn, rfl, HA.out, fun h => HBB.out a (Nat.le_refl _) h⟩, bt HB.out (below_drewN HBW.out _)⟩
end Go.Proofs.Ybulkdqzq
