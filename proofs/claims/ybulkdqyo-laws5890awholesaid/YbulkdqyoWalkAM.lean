import Derived.Test.YbulkdqyoRoute
import Derived.Test.YbulkdqyoArr
import Derived.Lib.Builder
namespace Go.Proofs.Ybulkdqyo
open Go.RowKit
set_option linter.unusedVariables false

/-- A slice of nodes of two numbers each, as the world holds it. -/
def IsM (w : World) (a : Option Addr) (n : Nat) (f g : Nat → Int) : Prop := n = 0 ∨ ∃ b off, a = some ⟨b, off, none⟩ ∧ ∀ j, j < n → w.cell? ⟨b, off + j * 2, none⟩ = some (.int .i32 (f j)) ∧ w.cell? ⟨b, off + j * 2 + 1, none⟩ = some (.int .i32 (g j))
theorem IsM.below {W w' : World} {a : Option Addr} {n : Nat} {f g : Nat → Int} (h : IsM W a n f g) (hb : Below W.heap.size W w') : IsM w' a n f g := by
  rcases h with h | ⟨b, off, ha, hc⟩
  · exact .inl h
  · exact .inr ⟨b, off, ha, fun j hj => ⟨cell_below hb (hc j hj).1, cell_below hb (hc j hj).2⟩⟩

/-- The overflow's five cells. -/
def oF (N lm : Nat) (i : Nat) : Value := if i = 0 then .slice (some ⟨N, 0, none⟩) lm lm else if i = 1 then .slice none 0 0 else if i = 2 then .int .u8 0 else if i = 3 then .int .i64 0 else .slice none 0 0
/-- Its nodes' cells, the first k set. -/
def nF (f g : Nat → Int) (k : Nat) (i : Nat) : Value := .int .i32 (if i / 2 < k then (if i % 2 = 0 then f (i / 2) else g (i / 2)) else 0)

theorem info42 : (Yba.prog.info? 42).map (fun i => (i.zero, i.size, i.bytes)) = some (some (.agg #[.int .i32 0, .int .i32 0]), 2, 8) := by kernel_rfl
theorem make33 (n : Nat) (hn : n ≤ 1048576) (w : World) : (Instr.makeSlice 33 (.int .i64 (n : Int)) (.int .i64 (n : Int))).run Yba.prog w = .ok (.slice (some ⟨w.heap.size, 0, none⟩) n n) (w.alloc (.cells (madeCells #[.int .i32 0, .int .i32 0] (n * 2)) 42)) := by
  obtain ⟨i0, hI, hz0, hz1, hz2⟩ := info_parts info42
  have := run_make (P := Yba.prog) w 33 42 i0 _ Yba.underlying33 hI hz0 .i64 .i64 n n (by omega) (Int.le_refl _) (by rw [hz2]; omega) (by omega)
  simpa [hz1, Value.cells] using this
theorem n_start (W : World) (f g : Nat → Int) (n : Nat) : (W.alloc (.cells (madeCells #[.int .i32 0, .int .i32 0] (n * 2)) 42)).rowIs W.heap.size 42 (n * 2) (nF f g 0) := by
  have hs := size_madeCells #[.int .i32 0, .int .i32 0] (n * 2)
  have h := World.rowIs_alloc W (madeCells #[.int .i32 0, .int .i32 0] (n * 2)) 42 (nF f g 0) (fun i hi => by
    rw [hs] at hi
    have : i % 2 = 0 ∨ i % 2 = 1 := by omega
    rcases this with h | h <;> simp [madeCells, nF, hi, h])
  rw [hs] at h
  exact h
theorem n_step (f g : Nat → Int) (k n : Nat) : ∀ i, i < n → (if i = k * 2 + 1 then Value.int .i32 (g k) else (if i = k * 2 then Value.int .i32 (f k) else nF f g k i)) = nF f g (k + 1) i := by
  intro i _
  by_cases h1 : i = k * 2 + 1
  · subst h1
    rw [if_pos rfl]
    unfold nF
    rw [show (k * 2 + 1) / 2 = k by omega, show (k * 2 + 1) % 2 = 1 by omega]; simp
  · rw [if_neg h1]
    by_cases h2 : i = k * 2
    · subst h2
      rw [if_pos rfl]
      unfold nF
      rw [show (k * 2) / 2 = k by omega, show (k * 2) % 2 = 0 by omega]; simp
    · rw [if_neg h2]
      unfold nF
      by_cases h : i / 2 < k
      · rw [if_pos h, if_pos (show i / 2 < k + 1 by omega)]
      · rw [if_neg h, if_neg (show ¬ i / 2 < k + 1 by omega)]
theorem n_cell {w : World} {N n : Nat} {f g : Nat → Int} (h : w.rowIs N 42 (n * 2) (nF f g n)) (j : Nat) (hj : j < n) : w.cell? ⟨N, 2 * j, none⟩ = some (.int .i32 (f j)) ∧ w.cell? ⟨N, 2 * j + 1, none⟩ = some (.int .i32 (g j)) := by
  rw [h.cell (by omega), h.cell (by omega)]
  unfold nF
  rw [show 2 * j / 2 = j by omega, show (2 * j) % 2 = 0 by omega, show (2 * j + 1) / 2 = j by omega, show (2 * j + 1) % 2 = 1 by omega]
  simp [hj]
theorem o_start (W : World) (N lm : Nat) (cs : Array Value) (h : cs = #[.slice (some ⟨N, 0, none⟩) lm lm, .slice none 0 0, .int .u8 0, .int .i64 0, .slice none 0 0]) : (W.alloc (.cells cs 38)).rowIs W.heap.size 38 5 (oF N lm) := by
  subst h
  have := World.rowIs_alloc W #[.slice (some ⟨N, 0, none⟩) lm lm, .slice none 0 0, .int .u8 0, .int .i64 0, .slice none 0 0] 38 (oF N lm) (fun i hi => by
    simp at hi
    rcases (show i = 0 ∨ i = 1 ∨ i = 2 ∨ i = 3 ∨ i = 4 by omega) with rfl | rfl | rfl | rfl | rfl <;> rfl)
  simpa using this
theorem neq_ptr (a : Addr) (w : World) : (binOp .neq 30 (.pointer (some a)) (.pointer (some a))).run Yba.prog w = .ok (.bool false) w := by
  have hi : (Yba.prog.info? 38).isSome = true := by kernel_rfl
  obtain ⟨j, hj⟩ := Option.isSome_iff_exists.1 hi
  exact Lib.run_neq_ptr_same w a Yba.underlying30 hj
end Go.Proofs.Ybulkdqyo
