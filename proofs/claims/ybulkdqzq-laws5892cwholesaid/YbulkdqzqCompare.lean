import Derived.Test.YbulkdqzqCmp
import Derived.Deep.RegionHeld3
namespace Go.Proofs.Ybulkdqzq
open Go.RowKit
set_option linter.unusedVariables false

theorem new3_0 (W : World) (T n : Nat) (x y z : Value) (h : n = W.heap.size) : (W.alloc (.cells #[x, y, z] T)).cell? ⟨n, 0, none⟩ = some x := by subst h; simp
theorem new3_1 (W : World) (T n : Nat) (x y z : Value) (h : n = W.heap.size) : (W.alloc (.cells #[x, y, z] T)).cell? ⟨n, 1, none⟩ = some y := by subst h; simp
theorem new3_2 (W : World) (T n : Nat) (x y z : Value) (h : n = W.heap.size) : (W.alloc (.cells #[x, y, z] T)).cell? ⟨n, 2, none⟩ = some z := by subst h; simp

set_option maxRecDepth 100000 in
set_option maxHeartbeats 1000000 in
theorem compare10 (a b : Dt) (w : World) : Calls Yba.prog 10 #[dv a, dv b] w fun e w' => e = .returned (.int .i64 (cmpD a b)) ∧ Below w.heap.size w w' := by
  obtain ⟨a0, a1, a2⟩ := a
  obtain ⟨b0, b1, b2⟩ := b
  unfold dv cmpD
  simp only []
  go_enter Yba.func10, Yba.ntmps10
  go_wp2_with fail
  go_region_held3 (fun w' => w'.cell? ⟨w.heap.size, 0, none⟩ = some (.int .i64 a0) ∧ w'.cell? ⟨w.heap.size, 1, none⟩ = some (.int .i64 a1) ∧ w'.cell? ⟨w.heap.size, 2, none⟩ = some (.int .i64 a2) ∧ w'.cell? ⟨w.heap.size + 1, 0, none⟩ = some (.int .i64 b0) ∧ w'.cell? ⟨w.heap.size + 1, 1, none⟩ = some (.int .i64 b1) ∧ w'.cell? ⟨w.heap.size + 1, 2, none⟩ = some (.int .i64 b2)) (go_keep)
    (first | (go_at_call 14; refine (cmp14 _ _ _).mono ?_; rintro e w' ⟨rfl, rfl⟩) | (go_at_call 15; refine (cmp15 _ _ _).mono ?_; rintro e w' ⟨rfl, rfl⟩) | (go_at_call 13; refine (or13 _ (cmpI a0 b0) (cmpI a1 b1) (cmpI a2 b2) _ (by exact new3_0 _ _ _ _ _ _ (by simp)) (by exact new3_1 _ _ _ _ _ _ (by simp)) (by exact new3_2 _ _ _ _ _ _ (by simp))).mono ?_; rintro e w' ⟨rfl, rfl⟩))
  all_goals go_wp2
  all_goals go_ret
  all_goals exact ⟨rfl, ((((Below.refl _ _).alloc (Nat.le_refl _) _).alloc (by simp) _).alloc (by simp; omega) _).drew⟩

theorem cd1 {a b : Dt} (h : a.1 < b.1) : cmpD a b = -1 := by simp [cmpD, orI, cmpI, h]
theorem cd2 {a b : Dt} (h : b.1 < a.1) : cmpD a b = 1 := by
  have : ¬ a.1 < b.1 := by omega
  simp [cmpD, orI, cmpI, h, this]
theorem cd3 {a b : Dt} (h0 : a.1 = b.1) (h : a.2.1 < b.2.1) : cmpD a b = -1 := by simp [cmpD, orI, cmpI, h0, h]
theorem cd4 {a b : Dt} (h0 : a.1 = b.1) (h : b.2.1 < a.2.1) : cmpD a b = 1 := by
  have : ¬ a.2.1 < b.2.1 := by omega
  simp [cmpD, orI, cmpI, h0, h, this]
theorem cd5 {a b : Dt} (h0 : a.1 = b.1) (h1 : a.2.1 = b.2.1) : cmpD a b = cmpI a.2.2 b.2.2 := by simp [cmpD, orI, cmpI, h0, h1]
theorem ci1 {x y : Int} (h : x < y) : cmpI x y = -1 := by simp [cmpI, h]
theorem ci2 {x y : Int} (h : y < x) : cmpI x y = 1 := by
  have : ¬ x < y := by omega
  simp [cmpI, h, this]
theorem ci3 (x : Int) : cmpI x x = 0 := by simp [cmpI]

theorem ccmp6 (a b : Dt) (w : World) : Calls Yba.prog 6 #[dv a, dv b] w fun e w' => e = .returned (.int .i64 (cmpD a b)) ∧ Below w.heap.size w w' := by
  obtain ⟨a0, a1, a2⟩ := a
  obtain ⟨b0, b1, b2⟩ := b
  by_cases h0 : a0 = b0
  · have e0 : (a0 != b0) = false := by simp [h0]
    by_cases h1 : a1 = b1
    · have e1 : (a1 != b1) = false := by simp [h1]
      rw [cd5 h0 h1]
      clear h0 h1
      by_cases h2 : a2 = b2
      · subst h2
        have e2 : (a2 != a2) = false := by simp
        rw [ci3]
        unfold dv
        go_enter Yba.func6, Yba.ntmps6
        go_wp2
        go_ret
        exact ⟨rfl, ((Below.refl _ _).alloc (Nat.le_refl _) _).alloc (by simp) _⟩
      · have e2 : (a2 != b2) = true := by simp [h2]
        by_cases h3 : a2 < b2
        · rw [ci1 h3]
          clear h2
          unfold dv
          go_enter Yba.func6, Yba.ntmps6
          go_wp2
          go_ret
          exact ⟨rfl, ((Below.refl _ _).alloc (Nat.le_refl _) _).alloc (by simp) _⟩
        · have h4 : b2 < a2 := by omega
          rw [ci2 h4]
          clear h2
          unfold dv
          go_enter Yba.func6, Yba.ntmps6
          go_wp2
          go_ret
          exact ⟨rfl, ((Below.refl _ _).alloc (Nat.le_refl _) _).alloc (by simp) _⟩
    · have e1 : (a1 != b1) = true := by simp [h1]
      by_cases h3 : a1 < b1
      · rw [cd3 h0 h3]
        clear h0 h1
        unfold dv
        go_enter Yba.func6, Yba.ntmps6
        go_wp2
        go_ret
        exact ⟨rfl, ((Below.refl _ _).alloc (Nat.le_refl _) _).alloc (by simp) _⟩
      · have h4 : b1 < a1 := by omega
        rw [cd4 h0 h4]
        clear h0 h1
        unfold dv
        go_enter Yba.func6, Yba.ntmps6
        go_wp2
        go_ret
        exact ⟨rfl, ((Below.refl _ _).alloc (Nat.le_refl _) _).alloc (by simp) _⟩
  · have e0 : (a0 != b0) = true := by simp [h0]
    by_cases h3 : a0 < b0
    · rw [cd1 h3]
      clear h0
      unfold dv
      go_enter Yba.func6, Yba.ntmps6
      go_wp2
      go_ret
      exact ⟨rfl, ((Below.refl _ _).alloc (Nat.le_refl _) _).alloc (by simp) _⟩
    · have h4 : b0 < a0 := by omega
      rw [cd2 h4]
      clear h0
      unfold dv
      go_enter Yba.func6, Yba.ntmps6
      go_wp2
      go_ret
      exact ⟨rfl, ((Below.refl _ _).alloc (Nat.le_refl _) _).alloc (by simp) _⟩
end Go.Proofs.Ybulkdqzq
