import Derived.Test.YbulkdqzqRow
namespace Go.Proofs.Ybulkdqzq
open Go.RowKit
set_option linter.unusedVariables false

def IsV (w : World) (a : Option Addr) (n : Nat) (f : Nat → Int) : Prop := n = 0 ∨ ∃ b off, a = some ⟨b, off, none⟩ ∧ ∀ j, j < n → w.cell? ⟨b, off + j, none⟩ = some (.int .u8 (f j))
/-- the k-th day -/
def day (b : Int) (f : Nat → Int) : Nat → Int
  | 0 => b
  | k + 1 => day b f k + (f k + 1)
theorem day_bound (b : Int) (f : Nat → Int) (n : Nat) (hf : ∀ j, j < n → 0 ≤ f j ∧ f j ≤ 255) : ∀ k, k ≤ n → b ≤ day b f k ∧ day b f k ≤ b + 256 * k := by
  intro k hk
  induction k with
  | zero => simp [day]
  | succ k ih =>
    have h1 := ih (by omega)
    have h2 := hf k (by omega)
    simp only [day]
    omega
theorem day_mono (b : Int) (f : Nat → Int) (n : Nat) (hf : ∀ j, j < n → 0 ≤ f j ∧ f j ≤ 255) : ∀ k l, k ≤ l → l ≤ n → day b f k ≤ day b f l := by
  intro k l hkl hl
  induction l with
  | zero => obtain rfl : k = 0 := by omega
            exact Int.le_refl _
  | succ l ih =>
    by_cases h : k = l + 1
    · subst h; exact Int.le_refl _
    · have h1 := ih (by omega) (by omega)
      have h2 := hf l (by omega)
      simp only [day]
      omega
theorem cmpI_mono {p q x : Int} (h : p ≤ q) (h0 : 0 ≤ cmpI p x) : 0 ≤ cmpI q x := by
  unfold cmpI at *
  split at h0
  · omega
  · split
    · omega
    · split <;> omega
theorem tmodb (a : Int) (c : Int) (h : 0 < c) : -c < a.tmod c ∧ a.tmod c < c := ⟨Int.lt_tmod_of_pos a h, Int.tmod_lt_of_pos a h⟩
theorem cmpD_mono {y m p q : Int} {d : Dt} (h : p ≤ q) (h0 : 0 ≤ cmpD (y, m, p) d) : 0 ≤ cmpD (y, m, q) d := by
  unfold cmpD orI at *
  simp only [] at *
  split
  · rename_i h1; rw [if_pos h1] at h0; exact h0
  · rename_i h1
    rw [if_neg h1] at h0
    split
    · rename_i h2; rw [if_pos h2] at h0; exact h0
    · rename_i h2
      rw [if_neg h2] at h0
      exact cmpI_mono h h0

def DD (y m b : Int) (f : Nat → Int) (k : Nat) : Dt := (y, m, day b f k)

end Go.Proofs.Ybulkdqzq
