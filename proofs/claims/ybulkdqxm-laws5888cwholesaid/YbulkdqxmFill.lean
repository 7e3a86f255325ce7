import Derived.Test.YbulkdqxmMap
import Derived.Lib.SlicesS
namespace Go.Proofs.Ybulkdqxm
open Go.RowKit Go.MapKept
set_option linter.unusedVariables false

/-! THE PLAIN SIDE: a map that is filled from a row of keys and a row of values. -/
def firsts (K : Nat → ByteArray) : Nat → List ByteArray
  | 0 => []
  | n + 1 => addK (firsts K n) (K n)
def vfill (v0 : ByteArray → Value) (K : Nat → ByteArray) (V : Nat → Value) : Nat → ByteArray → Value
  | 0 => v0
  | n + 1 => addV (vfill v0 K V n) (K n) (V n)
/-- the last index below n at which x stands, or -1 -/
def lastIx (K : Nat → ByteArray) : Nat → ByteArray → Int
  | 0, _ => -1
  | n + 1, x => if K n == x then (n : Int) else lastIx K n x
def rowS (K : Nat → ByteArray) (n : Nat) : List ByteArray := (List.range n).map K
/-- the first index, or -1 -/
def fstIx (K : Nat → ByteArray) (n : Nat) (x : ByteArray) : Int := Lib.idxOfS (rowS K n) x
def inRow (K : Nat → ByteArray) (n : Nat) (x : ByteArray) : Bool := Lib.containsS (rowS K n) x

theorem mem_addK {ks : List ByteArray} {k x : ByteArray} : x ∈ addK ks k ↔ x ∈ ks ∨ x = k := by
  unfold addK
  cases h : ks.contains k with
  | true =>
    simp only [if_true]
    exact ⟨Or.inl, fun h' => h'.elim id fun e => e ▸ hasB.1 h⟩
  | false => simp
theorem mem_firsts (K : Nat → ByteArray) (n : Nat) (x : ByteArray) : x ∈ firsts K n ↔ ∃ i, i < n ∧ K i = x := by
  induction n with
  | zero => simp [firsts]
  | succ n ih =>
    rw [firsts, mem_addK, ih]
    constructor
    · rintro (⟨i, hi, h⟩ | rfl)
      · exact ⟨i, by omega, h⟩
      · exact ⟨n, by omega, rfl⟩
    · rintro ⟨i, hi, h⟩
      by_cases e : i = n
      · subst e; exact .inr h.symm
      · exact .inl ⟨i, by omega, h⟩
theorem mem_rowS (K : Nat → ByteArray) (n : Nat) (x : ByteArray) : x ∈ rowS K n ↔ ∃ i, i < n ∧ K i = x := by simp [rowS]
theorem inRow_iff (K : Nat → ByteArray) (n : Nat) (x : ByteArray) : inRow K n x = true ↔ ∃ i, i < n ∧ K i = x := by rw [inRow, Lib.containsS_iff, mem_rowS]
theorem rowS_len (K : Nat → ByteArray) (n : Nat) : (rowS K n).length = n := by simp [rowS]
theorem rowS_getD (K : Nat → ByteArray) (n j : Nat) (h : j < n) : (rowS K n).getD j ByteArray.empty = K j := by simp [rowS, List.getD, h]
theorem rowS_take (K : Nat → ByteArray) (n : Nat) : (rowS K n).take n = rowS K n := List.take_of_length_le (by rw [rowS_len]; exact Nat.le_refl _)
theorem fstIx_eq (K : Nat → ByteArray) (n i : Nat) (hi : i < n) : fstIx K n (K i) = (i : Int) ↔ (firsts K i).contains (K i) = false := by
  rw [hasF, mem_firsts]
  constructor
  · rintro h ⟨j, hj, e⟩
    -- the least j
    have hex : ∃ j, j < i ∧ K j = K i := ⟨j, hj, e⟩
    have hle : ∀ m, ∀ j, j < m → K j = K i → ∃ k, k < m ∧ K k = K i ∧ ∀ l, l < k → K l ≠ K i := by
      intro m
      induction m with
      | zero => intro j hj; omega
      | succ m ih =>
        intro j hj e
        by_cases hh : ∃ l, l < m ∧ K l = K i
        · obtain ⟨l, hl, e'⟩ := hh
          obtain ⟨k, hk, r⟩ := ih l hl e'
          exact ⟨k, by omega, r⟩
        · have : j = m := Classical.byContradiction fun hne => hh ⟨j, by omega, e⟩
          subst this
          exact ⟨j, by omega, e, fun l hl el => hh ⟨l, hl, el⟩⟩
    obtain ⟨k, hk, ek, hmin⟩ := hle i j hj e
    have h2 : fstIx K n (K i) = (k : Int) := by
      have := Lib.idxOfS_hit (rowS K n) n k (K i) (by omega) (by rw [rowS_len]; exact Nat.le_refl _) (by rw [rowS_getD _ _ _ (by omega)]; exact ek) (fun l hl => by rw [rowS_getD _ _ _ (by omega)]; exact hmin l hl)
      rwa [rowS_take] at this
    rw [h] at h2
    omega
  · intro h
    have := Lib.idxOfS_hit (rowS K n) n i (K i) hi (by rw [rowS_len]; exact Nat.le_refl _) (rowS_getD _ _ _ hi) (fun l hl => by rw [rowS_getD _ _ _ (by omega)]; exact fun e => h ⟨l, hl, e⟩)
    rwa [rowS_take] at this
theorem last_spec (v0 : ByteArray → Value) (K : Nat → ByteArray) (V : Nat → Value) (n : Nat) (x : ByteArray) (h : ∃ i, i < n ∧ K i = x) : ∃ j, j < n ∧ lastIx K n x = (j : Int) ∧ K j = x ∧ vfill v0 K V n x = V j := by
  induction n with
  | zero => obtain ⟨i, hi, _⟩ := h; omega
  | succ n ih =>
    by_cases e : K n = x
    · refine ⟨n, by omega, ?_, e, ?_⟩
      · rw [lastIx, if_pos (beqB.2 e)]
      · rw [vfill, addV, if_pos (beqB.2 e.symm)]
    · obtain ⟨i, hi, hx⟩ := h
      have hin : i < n := by
        by_cases e' : i = n
        · subst e'; exact absurd hx e
        · omega
      obtain ⟨j, hj, h1, h2, h3⟩ := ih ⟨i, hin, hx⟩
      refine ⟨j, by omega, ?_, h2, ?_⟩
      · rw [lastIx, if_neg (fun h => e (beqB.1 h))]; exact h1
      · rw [vfill, addV, if_neg (fun h => e (beqB.1 h).symm)]; exact h3
/-- how many keys of the first n rounds stand, of those that 'keep' keeps -/
def cnt (K : Nat → ByteArray) (keep : ByteArray → Bool) (n : Nat) : Nat := ((firsts K n).filter keep).length
theorem cnt_zero (K : Nat → ByteArray) (keep : ByteArray → Bool) : cnt K keep 0 = 0 := rfl
theorem cnt_no (K : Nat → ByteArray) (keep : ByteArray → Bool) (n : Nat) (h : keep (K n) = false) : cnt K keep (n + 1) = cnt K keep n := by
  unfold cnt
  rw [firsts, addK]
  split
  · rfl
  · simp [List.filter_append, h]
theorem cnt_old (K : Nat → ByteArray) (keep : ByteArray → Bool) (n : Nat) (h : (firsts K n).contains (K n) = true) : cnt K keep (n + 1) = cnt K keep n := by
  unfold cnt
  rw [firsts, addK, if_pos h]
theorem cnt_new (K : Nat → ByteArray) (keep : ByteArray → Bool) (n : Nat) (hk : keep (K n) = true) (h : (firsts K n).contains (K n) = false) : cnt K keep (n + 1) = cnt K keep n + 1 := by
  unfold cnt
  rw [firsts, addK, if_neg (by rw [h]; simp), List.filter_append]
  simp [hk]
theorem firsts_len (K : Nat → ByteArray) (n : Nat) : (firsts K n).length ≤ n := by
  induction n with
  | zero => simp [firsts]
  | succ n ih =>
    rw [firsts, addK]
    split
    · omega
    · simp; omega
theorem cnt_le (K : Nat → ByteArray) (keep : ByteArray → Bool) (n : Nat) : cnt K keep n ≤ n := Nat.le_trans (List.length_filter_le _ _) (firsts_len K n)
end Go.Proofs.Ybulkdqxm
