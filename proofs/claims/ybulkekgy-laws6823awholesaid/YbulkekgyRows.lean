/-
  No cell of these rows narrows 'for every input' (looked for: loops, veiled, ifaces, maps, wideKeys, modest, calm, conditions, laid).
  DERIVED. THE GIVEN ROWS OF THIS SEAT. 1 by the template 'for every input the law returns true; each argument reads behind the call as it read before'; 0 by the template 'total and deterministic' (their statements: YbulkekgyTotals.lean).
  GIVEN WITH THE SEED: the statements are not yours to turn. If you find one false, say at which input.
  Laid BY PROGRAM, IN A SANDBOX (cutbox-rows.mjs): the forced cells as the released guide's own fill.sh prints them over the translation 79a42621bf55d59f… (all of the seat's roots in one cut). By AI agents, Wed Nov 11 2026. No macro, syntax, notation, axiom, sorry.
-/
import Derived.Test.YbulkekgyChecked
import GoSem.Claim
import GoSem.ClaimJoined
import GoSem.ClaimMapViews
import Derived.JoinedTies
import Derived.KernelRfl
namespace Go.Proofs.Ybulkekgy
/- THE CELL 'sum', in the pinned program and in every row, IS THE sha256 OF THE DUMP (.gsa) THAT YbulkekgyProg.lean LOADS. Nothing in Lean hashes anything: it is a label: what it is worth is what the hold of that sum in a sandbox is worth. -/
noncomputable def Yba.pinned : Pinned := { name := "ybulkekgy", sum := "79a42621bf55d59f29d6aa6811357b8bcbc482f9fcd2a575ccf80cdbb2fbf8f3", checked := Yba.checked }
namespace Rows
def none {H : Type} : Left H := { results := [], args := [] }

/-- 'sqlparse.LawS6823AWhole': WHATEVER THE INPUT: true; the input reads as it did. -/
def lawS6823AWholeSpec : ChangeSpec := { name := "lawS6823AWhole", fn := fun _ => fun
  | [d1, d2, d3, d4, d5, d6] => { results := [.lit (.bool true)], args := [d1, d2, d3, d4, d5, d6] }
  | _ => none }
def lawS6823AWholeRow : OpenClaim := { program := "ybulkekgy", sum := "79a42621bf55d59f29d6aa6811357b8bcbc482f9fcd2a575ccf80cdbb2fbf8f3", func := "example.com/nextkey/nextkey/sqlparse.LawS6823AWhole", spec := "lawS6823AWhole", apart := false }
def LawS6823AWholeSaid : Prop := lawS6823AWholeRow.holds Yba.pinned (OpenSpec.ofChange lawS6823AWholeSpec)

/-- ITS FALSE NEIGHBOUR: 'it returns false'. Refute it at one input. -/
def lawS6823AWholeWrong : ChangeSpec := { name := "lawS6823AWhole", fn := fun _ => fun
  | [d1, d2, d3, d4, d5, d6] => { results := [.lit (.bool false)], args := [d1, d2, d3, d4, d5, d6] }
  | _ => none }
def LawS6823AWholeWrongFalsely : Prop := lawS6823AWholeRow.holds Yba.pinned (OpenSpec.ofChange lawS6823AWholeWrong)

end Rows
end Go.Proofs.Ybulkekgy
