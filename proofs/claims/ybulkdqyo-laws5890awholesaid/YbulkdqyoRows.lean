/-
  No cell of these rows narrows 'for every input' (looked for: loops, veiled, ifaces, maps, wideKeys, modest, calm, conditions, laid).
  DERIVED. THE GIVEN ROWS OF THIS SEAT. 4 by the template 'for every input the law returns true; each argument reads behind the call as it read before'; 0 by the template 'total and deterministic' (their statements: YbulkdqyoTotals.lean).
  GIVEN WITH THE SEED: the statements are not yours to turn. If you find one false, say at which input.
  Laid BY PROGRAM, IN A SANDBOX (cutbox-rows.mjs): the forced cells as the released guide's own fill.sh prints them over the translation 536c9fb4e1474d58… (all of the seat's roots in one cut). By AI agents, Wed Nov 11 2026. No macro, syntax, notation, axiom, sorry.
-/
import Derived.Test.YbulkdqyoChecked
import GoSem.Claim
import GoSem.ClaimJoined
import GoSem.ClaimMapViews
import Derived.JoinedTies
import Derived.KernelRfl
namespace Go.Proofs.Ybulkdqyo
/- THE CELL 'sum', in the pinned program and in every row, IS THE sha256 OF THE DUMP (.gsa) THAT YbulkdqyoProg.lean LOADS. Nothing in Lean hashes anything: it is a label: what it is worth is what the hold of that sum in a sandbox is worth. -/
noncomputable def Yba.pinned : Pinned := { name := "ybulkdqyo", sum := "536c9fb4e1474d586e2113b63d5bba3a1ac65dfdf2ce3a032476f4bc0d86df3e", checked := Yba.checked }
namespace Rows
def none {H : Type} : Left H := { results := [], args := [] }

/-- 'messaging.LawS5890AWhole': WHATEVER THE INPUT: true; the input reads as it did. -/
def lawS5890AWholeSpec : ChangeSpec := { name := "lawS5890AWhole", fn := fun _ => fun
  | [d1, d2, d3, d4, d5] => { results := [.lit (.bool true)], args := [d1, d2, d3, d4, d5] }
  | _ => none }
def lawS5890AWholeRow : OpenClaim := { program := "ybulkdqyo", sum := "536c9fb4e1474d586e2113b63d5bba3a1ac65dfdf2ce3a032476f4bc0d86df3e", func := "example.com/kindred-mesh/kindred-mesh/pkg/messaging.LawS5890AWhole", spec := "lawS5890AWhole", unfollowed := true, recurses := true, apart := false }
def LawS5890AWholeSaid : Prop := lawS5890AWholeRow.holds Yba.pinned (OpenSpec.ofChange lawS5890AWholeSpec)

/-- ITS FALSE NEIGHBOUR: 'it returns false'. Refute it at one input. -/
def lawS5890AWholeWrong : ChangeSpec := { name := "lawS5890AWhole", fn := fun _ => fun
  | [d1, d2, d3, d4, d5] => { results := [.lit (.bool false)], args := [d1, d2, d3, d4, d5] }
  | _ => none }
def LawS5890AWholeWrongFalsely : Prop := lawS5890AWholeRow.holds Yba.pinned (OpenSpec.ofChange lawS5890AWholeWrong)

/-- 'workload.LawS5890BWhole': WHATEVER THE INPUT: true; the input reads as it did. -/
def lawS5890BWholeSpec : ChangeSpec := { name := "lawS5890BWhole", fn := fun _ => fun
  | [d] => { results := [.lit (.bool true)], args := [d] }
  | _ => none }
def lawS5890BWholeRow : OpenClaim := { program := "ybulkdqyo", sum := "536c9fb4e1474d586e2113b63d5bba3a1ac65dfdf2ce3a032476f4bc0d86df3e", func := "example.com/kindred-mesh/kindred-mesh/pkg/workload.LawS5890BWhole", spec := "lawS5890BWhole", apart := false }
def LawS5890BWholeSaid : Prop := lawS5890BWholeRow.holds Yba.pinned (OpenSpec.ofChange lawS5890BWholeSpec)

/-- ITS FALSE NEIGHBOUR: 'it returns false'. Refute it at one input. -/
def lawS5890BWholeWrong : ChangeSpec := { name := "lawS5890BWhole", fn := fun _ => fun
  | [d] => { results := [.lit (.bool false)], args := [d] }
  | _ => none }
def LawS5890BWholeWrongFalsely : Prop := lawS5890BWholeRow.holds Yba.pinned (OpenSpec.ofChange lawS5890BWholeWrong)

/-- 'workload.LawS5890BKindsOf': WHATEVER THE INPUT: true; the input reads as it did. -/
def lawS5890BKindsOfSpec : ChangeSpec := { name := "lawS5890BKindsOf", fn := fun _ => fun
  | [d1, d2] => { results := [.lit (.bool true)], args := [d1, d2] }
  | _ => none }
def lawS5890BKindsOfRow : OpenClaim := { program := "ybulkdqyo", sum := "536c9fb4e1474d586e2113b63d5bba3a1ac65dfdf2ce3a032476f4bc0d86df3e", func := "example.com/kindred-mesh/kindred-mesh/pkg/workload.LawS5890BKindsOf", spec := "lawS5890BKindsOf", apart := false }
def LawS5890BKindsOfSaid : Prop := lawS5890BKindsOfRow.holds Yba.pinned (OpenSpec.ofChange lawS5890BKindsOfSpec)

/-- ITS FALSE NEIGHBOUR: 'it returns false'. Refute it at one input. -/
def lawS5890BKindsOfWrong : ChangeSpec := { name := "lawS5890BKindsOf", fn := fun _ => fun
  | [d1, d2] => { results := [.lit (.bool false)], args := [d1, d2] }
  | _ => none }
def LawS5890BKindsOfWrongFalsely : Prop := lawS5890BKindsOfRow.holds Yba.pinned (OpenSpec.ofChange lawS5890BKindsOfWrong)

/-- 'workload.LawS5890CWhole': WHATEVER THE INPUT: true; the input reads as it did. -/
def lawS5890CWholeSpec : ChangeSpec := { name := "lawS5890CWhole", fn := fun _ => fun
  | [d1, d2] => { results := [.lit (.bool true)], args := [d1, d2] }
  | _ => none }
def lawS5890CWholeRow : OpenClaim := { program := "ybulkdqyo", sum := "536c9fb4e1474d586e2113b63d5bba3a1ac65dfdf2ce3a032476f4bc0d86df3e", func := "example.com/kindred-mesh/kindred-mesh/pkg/workload.LawS5890CWhole", spec := "lawS5890CWhole", apart := false }
def LawS5890CWholeSaid : Prop := lawS5890CWholeRow.holds Yba.pinned (OpenSpec.ofChange lawS5890CWholeSpec)

/-- ITS FALSE NEIGHBOUR: 'it returns false'. Refute it at one input. -/
def lawS5890CWholeWrong : ChangeSpec := { name := "lawS5890CWhole", fn := fun _ => fun
  | [d1, d2] => { results := [.lit (.bool false)], args := [d1, d2] }
  | _ => none }
def LawS5890CWholeWrongFalsely : Prop := lawS5890CWholeRow.holds Yba.pinned (OpenSpec.ofChange lawS5890CWholeWrong)

end Rows
end Go.Proofs.Ybulkdqyo
