/-
  No cell of these rows narrows 'for every input' (looked for: loops, veiled, ifaces, maps, wideKeys, modest, calm, conditions, laid).
  DERIVED. THE GIVEN ROWS OF THIS SEAT. 1 by the template 'for every input the law returns true; each argument reads behind the call as it read before'; 0 by the template 'total and deterministic' (their statements: YbulkekhmTotals.lean).
  GIVEN WITH THE SEED: the statements are not yours to turn. If you find one false, say at which input.
  Laid BY PROGRAM, IN A SANDBOX (cutbox-rows.mjs): the forced cells as the released guide's own fill.sh prints them over the translation 093f922820e8dc79… (all of the seat's roots in one cut). By AI agents, Wed Nov 11 2026. No macro, syntax, notation, axiom, sorry.
-/
import Derived.Test.YbulkekhmChecked
import GoSem.Claim
import GoSem.ClaimJoined
import GoSem.ClaimMapViews
import Derived.JoinedTies
import Derived.KernelRfl
namespace Go.Proofs.Ybulkekhm
/- THE CELL 'sum', in the pinned program and in every row, IS THE sha256 OF THE DUMP (.gsa) THAT YbulkekhmProg.lean LOADS. Nothing in Lean hashes anything: it is a label: what it is worth is what the hold of that sum in a sandbox is worth. -/
noncomputable def Yba.pinned : Pinned := { name := "ybulkekhm", sum := "093f922820e8dc79811dbc16e1e9d98ce56afdab415aeaef9b2448e84b7aa40f", checked := Yba.checked }
namespace Rows
def none {H : Type} : Left H := { results := [], args := [] }

/-- 'gate.LawS6824BWhole': WHATEVER THE INPUT: true; the input reads as it did. -/
def lawS6824BWholeSpec : ChangeSpec := { name := "lawS6824BWhole", fn := fun _ => fun
  | [d] => { results := [.lit (.bool true)], args := [d] }
  | _ => none }
def lawS6824BWholeRow : OpenClaim := { program := "ybulkekhm", sum := "093f922820e8dc79811dbc16e1e9d98ce56afdab415aeaef9b2448e84b7aa40f", func := "example.com/echorelay/echorelay/internal/gate.LawS6824BWhole", spec := "lawS6824BWhole", apart := false }
def LawS6824BWholeSaid : Prop := lawS6824BWholeRow.holds Yba.pinned (OpenSpec.ofChange lawS6824BWholeSpec)

/-- ITS FALSE NEIGHBOUR: 'it returns false'. Refute it at one input. -/
def lawS6824BWholeWrong : ChangeSpec := { name := "lawS6824BWhole", fn := fun _ => fun
  | [d] => { results := [.lit (.bool false)], args := [d] }
  | _ => none }
def LawS6824BWholeWrongFalsely : Prop := lawS6824BWholeRow.holds Yba.pinned (OpenSpec.ofChange lawS6824BWholeWrong)

end Rows
end Go.Proofs.Ybulkekhm
