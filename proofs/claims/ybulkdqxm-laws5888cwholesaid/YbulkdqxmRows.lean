/-
  No cell of these rows narrows 'for every input' (looked for: loops, veiled, ifaces, maps, wideKeys, modest, calm, conditions, laid).
  DERIVED. THE GIVEN ROWS OF THIS SEAT. 2 by the template 'for every input the law returns true; each argument reads behind the call as it read before'; 0 by the template 'total and deterministic' (their statements: YbulkdqxmTotals.lean).
  GIVEN WITH THE SEED: the statements are not yours to turn. If you find one false, say at which input.
  Laid BY PROGRAM, IN A SANDBOX (cutbox-rows.mjs): the forced cells as the released guide's own fill.sh prints them over the translation 3cd20ef7194749f9… (all of the seat's roots in one cut). By AI agents, Wed Nov 11 2026. No macro, syntax, notation, axiom, sorry.
-/
import Derived.Test.YbulkdqxmChecked
import GoSem.Claim
import GoSem.ClaimJoined
import GoSem.ClaimMapViews
import Derived.JoinedTies
import Derived.KernelRfl
namespace Go.Proofs.Ybulkdqxm
/- THE CELL 'sum', in the pinned program and in every row, IS THE sha256 OF THE DUMP (.gsa) THAT YbulkdqxmProg.lean LOADS. Nothing in Lean hashes anything: it is a label: what it is worth is what the hold of that sum in a sandbox is worth. -/
noncomputable def Yba.pinned : Pinned := { name := "ybulkdqxm", sum := "3cd20ef7194749f932a8910f3a3e3d56b4609006392b993df30df580f61abdd7", checked := Yba.checked }
namespace Rows
def none {H : Type} : Left H := { results := [], args := [] }

/-- 'placement.LawS5888AWhole': WHATEVER THE INPUT: true; the input reads as it did. -/
def lawS5888AWholeSpec : ChangeSpec := { name := "lawS5888AWhole", fn := fun _ => fun
  | [d1, d2, d3, d4] => { results := [.lit (.bool true)], args := [d1, d2, d3, d4] }
  | _ => none }
def lawS5888AWholeRow : OpenClaim := { program := "ybulkdqxm", sum := "3cd20ef7194749f932a8910f3a3e3d56b4609006392b993df30df580f61abdd7", func := "example.com/pledgebook/pledgebook/internal/placement.LawS5888AWhole", spec := "lawS5888AWhole", apart := false }
def LawS5888AWholeSaid : Prop := lawS5888AWholeRow.holds Yba.pinned (OpenSpec.ofChange lawS5888AWholeSpec)

/-- ITS FALSE NEIGHBOUR: 'it returns false'. Refute it at one input. -/
def lawS5888AWholeWrong : ChangeSpec := { name := "lawS5888AWhole", fn := fun _ => fun
  | [d1, d2, d3, d4] => { results := [.lit (.bool false)], args := [d1, d2, d3, d4] }
  | _ => none }
def LawS5888AWholeWrongFalsely : Prop := lawS5888AWholeRow.holds Yba.pinned (OpenSpec.ofChange lawS5888AWholeWrong)

/-- 'shard.LawS5888CWhole': WHATEVER THE INPUT: true; the input reads as it did. -/
def lawS5888CWholeSpec : ChangeSpec := { name := "lawS5888CWhole", fn := fun _ => fun
  | [d1, d2, d3, d4, d5, d6, d7, d8, d9, d10] => { results := [.lit (.bool true)], args := [d1, d2, d3, d4, d5, d6, d7, d8, d9, d10] }
  | _ => none }
def lawS5888CWholeRow : OpenClaim := { program := "ybulkdqxm", sum := "3cd20ef7194749f932a8910f3a3e3d56b4609006392b993df30df580f61abdd7", func := "example.com/pledgebook/pledgebook/internal/shard.LawS5888CWhole", spec := "lawS5888CWhole", unfollowed := true, recurses := true, apart := false }
def LawS5888CWholeSaid : Prop := lawS5888CWholeRow.holds Yba.pinned (OpenSpec.ofChange lawS5888CWholeSpec)

/-- ITS FALSE NEIGHBOUR: 'it returns false'. Refute it at one input. -/
def lawS5888CWholeWrong : ChangeSpec := { name := "lawS5888CWhole", fn := fun _ => fun
  | [d1, d2, d3, d4, d5, d6, d7, d8, d9, d10] => { results := [.lit (.bool false)], args := [d1, d2, d3, d4, d5, d6, d7, d8, d9, d10] }
  | _ => none }
def LawS5888CWholeWrongFalsely : Prop := lawS5888CWholeRow.holds Yba.pinned (OpenSpec.ofChange lawS5888CWholeWrong)

end Rows
end Go.Proofs.Ybulkdqxm
