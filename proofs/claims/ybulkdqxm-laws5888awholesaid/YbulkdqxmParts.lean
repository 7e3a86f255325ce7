import Derived.WalkKit
import Derived.Lib.MinMaxS
namespace Go.Proofs.Ybulkdqxm
open Go.RowKit

/-! THE PLAIN SIDE of Cut and of its model: strings compare as the model's own '<' on bytes. -/
def lt (a b : ByteArray) : Bool := Op.bytesLess a.toList b.toList
def em (a : ByteArray) : Bool := a.toList == []
/-- The greater of two lower bounds. -/
def lowS (a b : ByteArray) : ByteArray := if lt a b then b else a
/-- The least of two upper bounds, the empty one standing for none. -/
def upS (a b : ByteArray) : ByteArray := if em a then b else if em b then a else if lt a b then a else b

/-- One piece's three cells. -/
def cellsP (p : Int × ByteArray × ByteArray) : List Value := [.int .i64 p.1, .string p.2.1, .string p.2.2]
def pcs (sf st : ByteArray) (id : Int) (lo hi : ByteArray) : List (Int × ByteArray × ByteArray) :=
  if em (upS st hi) || lt (lowS sf lo) (upS st hi) then [(id, lowS sf lo, upS st hi)] else []
def loF (sp : Nat → ByteArray) (i : Nat) : ByteArray := if 0 < i then sp (i - 1) else ByteArray.empty
def hiF (ns : Nat) (sp : Nat → ByteArray) (i : Nat) : ByteArray := if i < ns then sp i else ByteArray.empty
/-- What the first k rounds have gathered. -/
def Pk (sf st : ByteArray) (ids : Nat → Int) (ns : Nat) (sp : Nat → ByteArray) : Nat → List (Int × ByteArray × ByteArray)
  | 0 => []
  | k + 1 => Pk sf st ids ns sp k ++ pcs sf st (ids k) (loF sp k) (hiF ns sp k)
theorem pcs_le (sf st : ByteArray) (id : Int) (lo hi : ByteArray) : (pcs sf st id lo hi).length ≤ 1 := by unfold pcs; split <;> simp
theorem Pk_le (sf st : ByteArray) (ids : Nat → Int) (ns : Nat) (sp : Nat → ByteArray) (k : Nat) : (Pk sf st ids ns sp k).length ≤ k := by
  induction k with
  | zero => simp [Pk]
  | succ k ih => have := pcs_le sf st (ids k) (loF sp k) (hiF ns sp k); simp [Pk]; omega
def flat (l : List (Int × ByteArray × ByteArray)) : List Value := l.flatMap cellsP
theorem flat_append (a b : List (Int × ByteArray × ByteArray)) : flat (a ++ b) = flat a ++ flat b := by simp [flat]
theorem flat_length (a : List (Int × ByteArray × ByteArray)) : (flat a).length = a.length * 3 := by
  induction a with
  | nil => rfl
  | cons p a ih => simp only [flat, List.flatMap_cons, List.length_append, List.length_cons] at *; rw [ih]; simp [cellsP]; omega
theorem flat_at (a : List (Int × ByteArray × ByteArray)) (i : Nat) (h : i < a.length) : (flat a)[3 * i]? = some (.int .i64 a[i].1) ∧ (flat a)[3 * i + 1]? = some (.string a[i].2.1) ∧ (flat a)[3 * i + 2]? = some (.string a[i].2.2) := by
  induction a generalizing i with
  | nil => simp at h
  | cons p a ih =>
    cases i with
    | zero => simp [flat, cellsP]
    | succ i =>
      have := ih i (by simpa using h)
      simp only [flat, List.flatMap_cons, cellsP, List.cons_append, List.nil_append, List.getElem_cons_succ] at *
      refine ⟨?_, ?_, ?_⟩
      · rw [show 3 * (i + 1) = 3 * i + 1 + 1 + 1 by omega]; simpa using this.1
      · rw [show 3 * (i + 1) + 1 = 3 * i + 1 + 1 + 1 + 1 by omega]; simpa using this.2.1
      · rw [show 3 * (i + 1) + 2 = 3 * i + 2 + 1 + 1 + 1 by omega]; simpa using this.2.2

end Go.Proofs.Ybulkdqxm
