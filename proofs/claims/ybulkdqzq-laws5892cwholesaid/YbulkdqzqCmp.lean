import Derived.Test.YbulkdqzqRows
import Derived.WalkKit
import Derived.WalkLawsBesides
import Derived.WalkSpells
import Derived.WalkSmall
import Derived.OpenShut
import Derived.Below
import Derived.Deep.OwnRows
import Derived.Deep.LoopGhost
import Derived.Deep.Cut
import Derived.Deep.CutRange
import Derived.Deep.CutBlock
import Derived.Deep.QuietTactic
import Derived.BigQuiet
import Derived.BigRegion
import Derived.Deep.RegionWith
import Derived.Laws.StructEq
namespace Go.Proofs.Ybulkdqzq
open Go.RowKit
set_option linter.unusedVariables false

/-! THE PLAIN SIDE: dates and their order. -/
def cmpI (x y : Int) : Int := if x < y then -1 else if y < x then 1 else 0
def orI (a b c : Int) : Int := if a ≠ 0 then a else if b ≠ 0 then b else c
abbrev Dt := Int × Int × Int
def cmpD (a b : Dt) : Int := orI (cmpI a.1 b.1) (cmpI a.2.1 b.2.1) (cmpI a.2.2 b.2.2)
abbrev dv (a : Dt) : Value := .agg #[.int .i64 a.1, .int .i64 a.2.1, .int .i64 a.2.2]

theorem cell_below {W w' : World} (hb : Below W.heap.size W w') {p : Addr} {v : Value} (h : W.cell? p = some v) : w'.cell? p = some v := (hb.cell (World.block_lt_of_cell? _ _ h)).trans h
theorem bt {a b c : World} (h : Below a.heap.size a b) (k : Below b.heap.size b c) : Below a.heap.size a c := h.trans (k.mono h.size)

theorem cmp14 (x y : Int) (w : World) : Calls Yba.prog 14 #[.int .i64 x, .int .i64 y] w fun e w' => e = .returned (.int .i64 (cmpI x y)) ∧ w = w' := by
  unfold cmpI
  by_cases h1 : x < y
  · rw [if_pos h1]
    go_enter Yba.func14, Yba.ntmps14
    go_wp2
    go_ret
    exact ⟨rfl, rfl⟩
  · rw [if_neg h1]
    by_cases h2 : y < x
    · rw [if_pos h2]
      go_enter Yba.func14, Yba.ntmps14
      go_wp2
      go_ret
      exact ⟨rfl, rfl⟩
    · rw [if_neg h2]
      go_enter Yba.func14, Yba.ntmps14
      go_wp2
      go_ret
      exact ⟨rfl, rfl⟩
theorem cmp15 (x y : Int) (w : World) : Calls Yba.prog 15 #[.int .i64 x, .int .i64 y] w fun e w' => e = .returned (.int .i64 (cmpI x y)) ∧ w = w' := by
  unfold cmpI
  by_cases h1 : x < y
  · rw [if_pos h1]
    go_enter Yba.func15, Yba.ntmps15
    go_wp2
    go_ret
    exact ⟨rfl, rfl⟩
  · rw [if_neg h1]
    by_cases h2 : y < x
    · rw [if_pos h2]
      go_enter Yba.func15, Yba.ntmps15
      go_wp2
      go_ret
      exact ⟨rfl, rfl⟩
    · rw [if_neg h2]
      go_enter Yba.func15, Yba.ntmps15
      go_wp2
      go_ret
      exact ⟨rfl, rfl⟩

theorem or13 (b : Nat) (v0 v1 v2 : Int) (w : World) (c0 : w.cell? ⟨b, 0, none⟩ = some (.int .i64 v0)) (c1 : w.cell? ⟨b, 1, none⟩ = some (.int .i64 v1)) (c2 : w.cell? ⟨b, 2, none⟩ = some (.int .i64 v2)) :
    Calls Yba.prog 13 #[.slice (some ⟨b, 0, none⟩) 3 3] w fun e w' => e = .returned (.int .i64 (orI v0 v1 v2)) ∧ w = w' := by
  unfold orI
  by_cases h0 : v0 = 0
  · have e0 : (v0 != 0) = false := by simp [h0]
    rw [if_neg (by simp [h0])]
    by_cases h1 : v1 = 0
    · have e1 : (v1 != 0) = false := by simp [h1]
      rw [if_neg (by simp [h1])]
      by_cases h2 : v2 = 0
      · subst h2
        clear h0 h1
        go_enter Yba.func13, Yba.ntmps13
        go_wp2
        refine wp_loop_rounds 4 ?_
        iterate 4 (rw [rounds_succ]; go_wp2)
        go_ret
        exact ⟨rfl, rfl⟩
      · have e2 : (v2 != 0) = true := by simp [h2]
        clear h0 h1 h2
        go_enter Yba.func13, Yba.ntmps13
        go_wp2
        refine wp_loop_rounds 4 ?_
        iterate 3 (rw [rounds_succ]; go_wp2)
        go_ret
        exact ⟨rfl, rfl⟩
    · have e1 : (v1 != 0) = true := by simp [h1]
      rw [if_pos h1]
      clear h0 h1
      go_enter Yba.func13, Yba.ntmps13
      go_wp2
      refine wp_loop_rounds 4 ?_
      iterate 2 (rw [rounds_succ]; go_wp2)
      go_ret
      exact ⟨rfl, rfl⟩
  · have e0 : (v0 != 0) = true := by simp [h0]
    rw [if_pos h0]
    clear h0
    go_enter Yba.func13, Yba.ntmps13
    go_wp2
    refine wp_loop_rounds 4 ?_
    iterate 1 (rw [rounds_succ]; go_wp2)
    go_ret
    exact ⟨rfl, rfl⟩
end Go.Proofs.Ybulkdqzq
