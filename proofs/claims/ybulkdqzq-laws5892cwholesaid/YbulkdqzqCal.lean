import Derived.Test.YbulkdqzqCompare
namespace Go.Proofs.Ybulkdqzq
open Go.RowKit
set_option linter.unusedVariables false

/-- A row of n dates at block g. -/
def IsD (w : World) (g n : Nat) (D : Nat → Dt) : Prop :=
  ∀ j, j < n → w.cell? ⟨g, j * 3, none⟩ = some (.int .i64 (D j).1) ∧ w.cell? ⟨g, j * 3 + 1, none⟩ = some (.int .i64 (D j).2.1) ∧ w.cell? ⟨g, j * 3 + 2, none⟩ = some (.int .i64 (D j).2.2)
theorem IsD.below {W w' : World} {g n : Nat} {D : Nat → Dt} (h : IsD W g n D) (hb : Below W.heap.size W w') : IsD w' g n D :=
  fun j hj => ⟨cell_below hb (h j hj).1, cell_below hb (h j hj).2.1, cell_below hb (h j hj).2.2⟩

theorem first11 (cb g n cap : Nat) (D : Nat → Dt) (w : World) (hn : 0 < n) (hc : w.cell? ⟨cb, 0, none⟩ = some (.slice (some ⟨g, 0, none⟩) n cap)) (hD : IsD w g n D) :
    Calls Yba.prog 11 #[.pointer (some ⟨cb, 0, none⟩)] w fun e w' => e = .returned (dv (D 0)) ∧ Below w.heap.size w w' := by
  obtain ⟨c0, c1, c2⟩ := hD 0 hn
  simp only [Nat.zero_mul, Nat.zero_add] at c0 c1 c2
  have hg : g < w.heap.size := World.block_lt_of_cell? _ _ c0
  have hcb : cb < w.heap.size := World.block_lt_of_cell? _ _ hc
  have hnI : (0 : Int) < (n : Int) := by omega
  clear hD
  generalize D 0 = d at *
  obtain ⟨d0, d1, d2⟩ := d
  simp only [] at c0 c1 c2
  go_enter Yba.func11, Yba.ntmps11
  go_wp2
  exact bodyPost_ret (v := dv (d0, d1, d2)) (by simp [results, Yba.results11, go_sem, dv]) rfl ⟨rfl, (Below.refl _ _).alloc (Nat.le_refl _) _⟩

theorem last12 (cb g n cap : Nat) (D : Nat → Dt) (w : World) (hn : 0 < n) (hm : n ≤ 2097152) (hc : w.cell? ⟨cb, 0, none⟩ = some (.slice (some ⟨g, 0, none⟩) n cap)) (hD : IsD w g n D) :
    Calls Yba.prog 12 #[.pointer (some ⟨cb, 0, none⟩)] w fun e w' => e = .returned (dv (D (n - 1))) ∧ Below w.heap.size w w' := by
  obtain ⟨c0, c1, c2⟩ := hD (n - 1) (by omega)
  have hg : g < w.heap.size := World.block_lt_of_cell? _ _ c0
  have hcb : cb < w.heap.size := World.block_lt_of_cell? _ _ hc
  obtain ⟨m, rfl⟩ : ∃ m, n = m + 1 := ⟨n - 1, by omega⟩
  simp only [Nat.add_sub_cancel] at c0 c1 c2 ⊢
  clear hD
  generalize D m = d at *
  obtain ⟨d0, d1, d2⟩ := d
  simp only [] at c0 c1 c2
  go_enter Yba.func12, Yba.ntmps12
  go_wp2
  go_region
  all_goals go_wp2
  exact bodyPost_ret (v := dv (d0, d1, d2)) (by simp [results, Yba.results12, go_sem, dv]) rfl ⟨rfl, ((Below.refl _ _).alloc (Nat.le_refl _) _).drew⟩

def cov (d x y : Dt) : Bool := decide (0 ≤ cmpD d x) && decide (cmpD d y ≤ 0)

end Go.Proofs.Ybulkdqzq
