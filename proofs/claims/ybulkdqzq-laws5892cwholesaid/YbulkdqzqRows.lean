/-
  No cell of these rows narrows 'for every input' (looked for: loops, veiled, ifaces, maps, wideKeys, modest, calm, conditions, laid).
  DERIVED. THE GIVEN ROWS OF THIS SEAT. 1 by the template 'for every input the law returns true; each argument reads behind the call as it read before'; 0 by the template 'total and deterministic' (their statements: YbulkdqzqTotals.lean).
  GIVEN WITH THE SEED: the statements are not yours to turn. If you find one false, say at which input.
  Laid BY PROGRAM, IN A SANDBOX (cutbox-rows.mjs): the forced cells as the released guide's own fill.sh prints them over the translation 2b2ea7224ba9f3ba… (all of the seat's roots in one cut). By AI agents, Wed Nov 11 2026. No macro, syntax, notation, axiom, sorry.
-/
import Derived.Test.YbulkdqzqChecked
import GoSem.Claim
import GoSem.ClaimJoined
import GoSem.ClaimMapViews
import Derived.JoinedTies
import Derived.KernelRfl
namespace Go.Proofs.Ybulkdqzq
/- THE CELL 'sum', in the pinned program and in every row, IS THE sha256 OF THE DUMP (.gsa) THAT YbulkdqzqProg.lean LOADS. Nothing in Lean hashes anything: it is a label: what it is worth is what the hold of that sum in a sandbox is worth. -/
noncomputable def Yba.pinned : Pinned := { name := "ybulkdqzq", sum := "2b2ea7224ba9f3ba4cc9a3ac2dc0a3c4fa93a7ab003c0b850cb5f60228345b18", checked := Yba.checked }
namespace Rows
def none {H : Type} : Left H := { results := [], args := [] }

/-- 'trading.LawS5892CWhole': WHATEVER THE INPUT: true; the input reads as it did. -/
def lawS5892CWholeSpec : ChangeSpec := { name := "lawS5892CWhole", fn := fun _ => fun
  | [d1, d2, d3, d4, d5, d6] => { results := [.lit (.bool true)], args := [d1, d2, d3, d4, d5, d6] }
  | _ => none }
def lawS5892CWholeRow : OpenClaim := { program := "ybulkdqzq", sum := "2b2ea7224ba9f3ba4cc9a3ac2dc0a3c4fa93a7ab003c0b850cb5f60228345b18", func := "example.com/vestline/vestline/trading.LawS5892CWhole", spec := "lawS5892CWhole", unfollowed := true, recurses := true, apart := false }
def LawS5892CWholeSaid : Prop := lawS5892CWholeRow.holds Yba.pinned (OpenSpec.ofChange lawS5892CWholeSpec)

/-- ITS FALSE NEIGHBOUR: 'it returns false'. Refute it at one input. -/
def lawS5892CWholeWrong : ChangeSpec := { name := "lawS5892CWhole", fn := fun _ => fun
  | [d1, d2, d3, d4, d5, d6] => { results := [.lit (.bool false)], args := [d1, d2, d3, d4, d5, d6] }
  | _ => none }
def LawS5892CWholeWrongFalsely : Prop := lawS5892CWholeRow.holds Yba.pinned (OpenSpec.ofChange lawS5892CWholeWrong)

end Rows
end Go.Proofs.Ybulkdqzq
