/-
  No cell of these rows narrows 'for every input' (looked for: loops, veiled, ifaces, maps, wideKeys, modest, calm, conditions, laid).
  DERIVED. THE GIVEN ROWS OF THIS SEAT. 2 by the template 'for every input the law returns true; each argument reads behind the call as it read before'; 0 by the template 'total and deterministic' (their statements: YbulkekysTotals.lean).
  GIVEN WITH THE SEED: the statements are not yours to turn. If you find one false, say at which input.
  Laid BY PROGRAM, IN A SANDBOX (cutbox-rows.mjs): the forced cells as the released guide's own fill.sh prints them over the translation a5fd2e7db222072c… (all of the seat's roots in one cut). By AI agents, Wed Nov 11 2026. No macro, syntax, notation, axiom, sorry.
-/
import Derived.Test.YbulkekysChecked
import GoSem.Claim
import GoSem.ClaimJoined
import GoSem.ClaimMapViews
import Derived.JoinedTies
import Derived.KernelRfl
namespace Go.Proofs.Ybulkekys
/- THE CELL 'sum', in the pinned program and in every row, IS THE sha256 OF THE DUMP (.gsa) THAT YbulkekysProg.lean LOADS. Nothing in Lean hashes anything: it is a label: what it is worth is what the hold of that sum in a sandbox is worth. -/
noncomputable def Yba.pinned : Pinned := { name := "ybulkekys", sum := "a5fd2e7db222072cba6d9caf333490727ed39a6e5b1bdf514b7da7103834272e", checked := Yba.checked }
namespace Rows
def none {H : Type} : Left H := { results := [], args := [] }

/-- 'waitgraph.LawS6856AWhole': WHATEVER THE INPUT: true; the input reads as it did. -/
def lawS6856AWholeSpec : ChangeSpec := { name := "lawS6856AWhole", fn := fun _ => fun
  | [d1, d2] => { results := [.lit (.bool true)], args := [d1, d2] }
  | _ => none }
def lawS6856AWholeRow : OpenClaim := { program := "ybulkekys", sum := "a5fd2e7db222072cba6d9caf333490727ed39a6e5b1bdf514b7da7103834272e", func := "example.com/waitgraph/waitgraph.LawS6856AWhole", spec := "lawS6856AWhole", apart := false }
def LawS6856AWholeSaid : Prop := lawS6856AWholeRow.holds Yba.pinned (OpenSpec.ofChange lawS6856AWholeSpec)

/-- ITS FALSE NEIGHBOUR: 'it returns false'. Refute it at one input. -/
def lawS6856AWholeWrong : ChangeSpec := { name := "lawS6856AWhole", fn := fun _ => fun
  | [d1, d2] => { results := [.lit (.bool false)], args := [d1, d2] }
  | _ => none }
def LawS6856AWholeWrongFalsely : Prop := lawS6856AWholeRow.holds Yba.pinned (OpenSpec.ofChange lawS6856AWholeWrong)

/-- 'waitgraph.LawS6856BWhole': WHATEVER THE INPUT: true; the input reads as it did. -/
def lawS6856BWholeSpec : ChangeSpec := { name := "lawS6856BWhole", fn := fun _ => fun
  | [d1, d2, d3, d4, d5, d6, d7] => { results := [.lit (.bool true)], args := [d1, d2, d3, d4, d5, d6, d7] }
  | _ => none }
def lawS6856BWholeRow : OpenClaim := { program := "ybulkekys", sum := "a5fd2e7db222072cba6d9caf333490727ed39a6e5b1bdf514b7da7103834272e", func := "example.com/waitgraph/waitgraph.LawS6856BWhole", spec := "lawS6856BWhole", apart := false }
def LawS6856BWholeSaid : Prop := lawS6856BWholeRow.holds Yba.pinned (OpenSpec.ofChange lawS6856BWholeSpec)

/-- ITS FALSE NEIGHBOUR: 'it returns false'. Refute it at one input. -/
def lawS6856BWholeWrong : ChangeSpec := { name := "lawS6856BWhole", fn := fun _ => fun
  | [d1, d2, d3, d4, d5, d6, d7] => { results := [.lit (.bool false)], args := [d1, d2, d3, d4, d5, d6, d7] }
  | _ => none }
def LawS6856BWholeWrongFalsely : Prop := lawS6856BWholeRow.holds Yba.pinned (OpenSpec.ofChange lawS6856BWholeWrong)

end Rows
end Go.Proofs.Ybulkekys
