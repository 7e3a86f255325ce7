import Derived.Test.YbulkdqxmFill
import Derived.Test.YbulkdqxmShelf
import Derived.WalkSpells
import Derived.WalkSmall
import Derived.OpenShut
import Derived.Deep.OwnRows
import Derived.Deep.LoopGhost
import Derived.Deep.Cut
import Derived.Deep.CutRange
import Derived.Deep.CutBlock
import Derived.Deep.QuietTactic
import Derived.BigQuiet
import Derived.Carry
namespace Go.Proofs.Ybulkdqxm
open Go.RowKit Go.MapKept
set_option linter.unusedVariables false

/-- A slice of n strings, nil and empty ones among them. -/
def IsS (w : World) (a : Option Addr) (n : Nat) (K : Nat → ByteArray) : Prop := n = 0 ∨ ∃ b off, a = some ⟨b, off, none⟩ ∧ ∀ j, j < n → w.cell? ⟨b, off + j, none⟩ = some (.string (K j))
theorem cellB {W w' : World} (hb : Below W.heap.size W w') {p : Addr} {v : Value} (h : W.cell? p = some v) : w'.cell? p = some v := (hb.cell (World.block_lt_of_cell? _ _ h)).trans h
theorem bt {a b c : World} (h : Below a.heap.size a b) (k : Below b.heap.size b c) : Below a.heap.size a c := h.trans (k.mono h.size)
theorem IsS.below {W w' : World} {a : Option Addr} {n : Nat} {K : Nat → ByteArray} (h : IsS W a n K) (hb : Below W.heap.size W w') : IsS w' a n K := by
  rcases h with h | ⟨b, off, ha, hc⟩
  · exact .inl h
  · exact .inr ⟨b, off, ha, fun j hj => cellB hb (hc j hj)⟩

theorem index16 (a : Option Addr) (n c : Nat) (K : Nat → ByteArray) (x : ByteArray) (w : World) (h : IsS w a n K) (hn : n ≤ 4096) :
    Calls Yba.prog 16 #[.slice a n c, .string x] w fun e w' => e = .returned (.int .i64 (fstIx K n x)) ∧ w = w' := by
  rcases h with rfl | ⟨b, off, rfl, hc⟩
  · exact (Yba.slices_Index_string_empty a c x w).mono fun e w' h => ⟨h.1, h.2.symm⟩
  · refine (Yba.slices_Index_string b off n c (rowS K n) x w (by rw [rowS_len]; exact Nat.le_refl _) (by omega) (fun j hj => ?_)).mono fun e w' h => ⟨?_, h.2.symm⟩
    · rw [rowS_len] at hj; rw [rowS_getD _ _ _ hj]; exact hc j hj
    · rw [h.1, rowS_take]; rfl
theorem contains14 (a : Option Addr) (n c : Nat) (K : Nat → ByteArray) (x : ByteArray) (w : World) (h : IsS w a n K) (hn : n ≤ 4096) :
    Calls Yba.prog 14 #[.slice a n c, .string x] w fun e w' => e = .returned (.bool (inRow K n x)) ∧ w = w' := by
  rcases h with rfl | ⟨b, off, rfl, hc⟩
  · refine (Yba.slices_Contains_string_empty a c x w).mono fun e w' h => ⟨?_, h.2.symm⟩
    rw [h.1]; rfl
  · refine (Yba.slices_Contains_string b off n c (rowS K n) x w (by rw [rowS_len]; exact Nat.le_refl _) (by omega) (fun j hj => ?_)).mono fun e w' h => ⟨?_, h.2.symm⟩
    · rw [rowS_len] at hj; rw [rowS_getD _ _ _ hj]; exact hc j hj
    · rw [h.1, rowS_take]; rfl

def atS (V : Nat → ByteArray) (n i : Nat) : ByteArray := if i < n then V i else ByteArray.empty
theorem at12 (a : Option Addr) (n c : Nat) (V : Nat → ByteArray) (i : Nat) (w : World) (h : IsS w a n V) (hn : n ≤ 4096) (hi : i ≤ 4096) :
    Calls Yba.prog 12 #[.slice a n c, .int .i64 i] w fun e w' => e = .returned (.string (atS V n i)) ∧ w = w' := by
  by_cases hin : i < n
  · rw [show atS V n i = V i by simp [atS, hin]]
    rcases h with rfl | ⟨b, off, rfl, hc⟩
    · omega
    have c1 := hc i hin
    clear hc
    go_enter Yba.func12, Yba.ntmps12
    go_wp2
    go_ret
    exact ⟨rfl, rfl⟩
  · rw [show atS V n i = ByteArray.empty by simp [atS, hin]]
    clear h
    go_enter Yba.func12, Yba.ntmps12
    go_wp2
    go_ret
    exact ⟨rfl, rfl⟩

theorem lastIx_step (K : Nat → ByteArray) (j : Nat) (x : ByteArray) : lastIx K (j + 1) x = if (K j).toList == x.toList then (j : Int) else lastIx K j x := by rw [lastIx, beq_toListBytes]
theorem last15 (a : Option Addr) (n c : Nat) (K : Nat → ByteArray) (x : ByteArray) (w : World) (h : IsS w a n K) (hn : n ≤ 4096) :
    Calls Yba.prog 15 #[.slice a n c, .string x] w fun e w' => e = .returned (.int .i64 (lastIx K n x)) ∧ w = w' := by
  have HS : Hid (IsS w a n K) := h
  clear h
  go_enter Yba.func15, Yba.ntmps15
  go_wp2_with fail
  go_loopw [5] (fun i wr => ∃ k : Nat, k ≤ n ∧ i = .int .i64 ((k : Int) - 1) ∧ w = wr ∧ Hid (lastIx K n x = lastIx K k x)) (fun i _ => (intOf i + 1).toNat)
  case atStart => exact ⟨n, Nat.le_refl _, rfl, rfl, rfl⟩
  case round =>
    obtain ⟨k, hk, rfl, rfl, HL⟩ := hrel
    cases k with
    | zero =>
      go_wp2_with fail
      go_ret
      exact ⟨by rw [HL.out]; rfl, rfl⟩
    | succ j =>
      rcases HS.out with h0 | ⟨b, off, rfl, hc⟩
      · omega
      have c1 := hc j (by omega)
      have e1 : (((j + 1 : Nat) : Int) - 1) = (j : Int) := by omega
      rw [e1]
      clear e1 hc
      cases he : (K j).toList == x.toList with
      | true =>
        go_wp2_with fail
        go_ret
        exact ⟨by rw [HL.out, lastIx_step, he]; rfl, rfl⟩
      | false =>
        go_wp2_with fail
        go_roundw
        case rel => exact ⟨j, by omega, by go_num, trivial, by show _ = _; rw [HL.out, lastIx_step, he]; rfl⟩
        case measure => simp [intOf]

theorem MapIs.alloc {w : World} {b : Nat} {ks : List ByteArray} {val : ByteArray → Value} (h : MapIs w b ks val) (o : Obj) : MapIs (w.alloc o) b ks val := h.below ((Below.refl _ _).alloc (Nat.le_refl _) o)
theorem new11 (w : World) : Calls Yba.prog 11 #[] w fun e w' => e = .returned (.agg #[.map (some (w.heap.size + 1)), .map (some (w.heap.size + 2)), .map (some (w.heap.size + 3)), .map (some (w.heap.size + 4))]) ∧ Below w.heap.size w w' ∧ w'.heap.size = w.heap.size + 5 ∧
    ∀ j, 1 ≤ j → j ≤ 4 → ∀ val, MapIs w' (w.heap.size + j) [] val := by
  have hmm := @run_makeMap Yba.prog
  go_enter Yba.func11, Yba.ntmps11
  go_wp2
  refine bodyPost_ret (v := .agg #[.map (some (w.heap.size + 1)), .map (some (w.heap.size + 2)), .map (some (w.heap.size + 3)), .map (some (w.heap.size + 4))]) (by simp [results, Yba.results11, go_sem]) rfl ⟨rfl, ?_, by simp, ?_⟩
  · exact (((((Below.refl _ _).alloc (Nat.le_refl _) _).alloc (by simp) _).alloc (by simp; omega) _).alloc (by simp; omega) _).alloc (by simp; omega) _
  · intro j h1 h4 val
    rcases (by omega : j = 1 ∨ j = 2 ∨ j = 3 ∨ j = 4) with rfl | rfl | rfl | rfl
    · have := ((mapIs_made (w.alloc (.cells #[.map (some (w.heap.size + 1)), .map (some (w.heap.size + 1 + 1)), .map (some (w.heap.size + 1 + 1 + 1)), .map (some (w.heap.size + 1 + 1 + 1 + 1))] 44)) val).alloc (.map #[] 0)).alloc (.map #[] 0) |>.alloc (.map #[] 0)
      simpa using this
    · have := ((mapIs_made ((w.alloc (.cells #[.map (some (w.heap.size + 1)), .map (some (w.heap.size + 1 + 1)), .map (some (w.heap.size + 1 + 1 + 1)), .map (some (w.heap.size + 1 + 1 + 1 + 1))] 44)).alloc (.map #[] 0)) val).alloc (.map #[] 0)).alloc (.map #[] 0)
      simpa using this
    · have := (mapIs_made (((w.alloc (.cells #[.map (some (w.heap.size + 1)), .map (some (w.heap.size + 1 + 1)), .map (some (w.heap.size + 1 + 1 + 1)), .map (some (w.heap.size + 1 + 1 + 1 + 1))] 44)).alloc (.map #[] 0)).alloc (.map #[] 0)) val).alloc (.map #[] 0)
      simpa using this
    · have := mapIs_made ((((w.alloc (.cells #[.map (some (w.heap.size + 1)), .map (some (w.heap.size + 1 + 1)), .map (some (w.heap.size + 1 + 1 + 1)), .map (some (w.heap.size + 1 + 1 + 1 + 1))] 44)).alloc (.map #[] 0)).alloc (.map #[] 0)).alloc (.map #[] 0)) val
      simpa using this
end Go.Proofs.Ybulkdqxm
