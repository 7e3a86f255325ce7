/-
  No cell of these rows narrows 'for every input' (looked for: loops, veiled, ifaces, maps, wideKeys, modest, calm, conditions, laid).
  DERIVED. THE GIVEN ROWS OF THIS SEAT. 1 by the template 'for every input the law returns true; each argument reads behind the call as it read before'; 0 by the template 'total and deterministic' (their statements: YbulkdqyaTotals.lean).
  GIVEN WITH THE SEED: the statements are not yours to turn. If you find one false, say at which input.
  Laid BY PROGRAM, IN A SANDBOX (cutbox-rows.mjs): the forced cells as the released guide's own fill.sh prints them over the translation 0b0397d74596cd6b… (all of the seat's roots in one cut). By AI agents, Wed Nov 11 2026. No macro, syntax, notation, axiom, sorry.
-/
import Derived.Test.YbulkdqyaChecked
import GoSem.Claim
import GoSem.ClaimJoined
import GoSem.ClaimMapViews
import Derived.JoinedTies
import Derived.KernelRfl
namespace Go.Proofs.Ybulkdqya
/- THE CELL 'sum', in the pinned program and in every row, IS THE sha256 OF THE DUMP (.gsa) THAT YbulkdqyaProg.lean LOADS. Nothing in Lean hashes anything: it is a label: what it is worth is what the hold of that sum in a sandbox is worth. -/
noncomputable def Yba.pinned : Pinned := { name := "ybulkdqya", sum := "0b0397d74596cd6b62126e2e4b0fa048e792044b0164d5a4bd31168936dd5a61", checked := Yba.checked }
namespace Rows
def none {H : Type} : Left H := { results := [], args := [] }

/-- 'ninefold.LawS5889AWhole': WHATEVER THE INPUT: true; the input reads as it did. -/
def lawS5889AWholeSpec : ChangeSpec := { name := "lawS5889AWhole", fn := fun _ => fun
  | [d1, d2, d3] => { results := [.lit (.bool true)], args := [d1, d2, d3] }
  | _ => none }
def lawS5889AWholeRow : OpenClaim := { program := "ybulkdqya", sum := "0b0397d74596cd6b62126e2e4b0fa048e792044b0164d5a4bd31168936dd5a61", func := "example.com/ninefold/ninefold.LawS5889AWhole", spec := "lawS5889AWhole", apart := false }
def LawS5889AWholeSaid : Prop := lawS5889AWholeRow.holds Yba.pinned (OpenSpec.ofChange lawS5889AWholeSpec)

/-- ITS FALSE NEIGHBOUR: 'it returns false'. Refute it at one input. -/
def lawS5889AWholeWrong : ChangeSpec := { name := "lawS5889AWhole", fn := fun _ => fun
  | [d1, d2, d3] => { results := [.lit (.bool false)], args := [d1, d2, d3] }
  | _ => none }
def LawS5889AWholeWrongFalsely : Prop := lawS5889AWholeRow.holds Yba.pinned (OpenSpec.ofChange lawS5889AWholeWrong)

end Rows
end Go.Proofs.Ybulkdqya
