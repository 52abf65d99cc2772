/-
  No cell of these rows narrows 'for every input' (looked for: loops, veiled, ifaces, maps, wideKeys, modest, calm, conditions, laid).
  DERIVED. THE GIVEN ROWS OF THIS SEAT. 2 by the template 'for every input the law returns true; each argument reads behind the call as it read before'; 0 by the template 'total and deterministic' (their statements: YbulkeklgTotals.lean).
  GIVEN WITH THE SEED: the statements are not yours to turn. If you find one false, say at which input.
  Laid BY PROGRAM, IN A SANDBOX (cutbox-rows.mjs): the forced cells as the released guide's own fill.sh prints them over the translation 9c6e47ed0e7371de… (all of the seat's roots in one cut). By AI agents, Wed Nov 11 2026. No macro, syntax, notation, axiom, sorry.
-/
import Derived.Test.YbulkeklgChecked
import GoSem.Claim
import GoSem.ClaimJoined
import GoSem.ClaimMapViews
import Derived.JoinedTies
import Derived.KernelRfl
namespace Go.Proofs.Ybulkeklg
/- THE CELL 'sum', in the pinned program and in every row, IS THE sha256 OF THE DUMP (.gsa) THAT YbulkeklgProg.lean LOADS. Nothing in Lean hashes anything: it is a label: what it is worth is what the hold of that sum in a sandbox is worth. -/
noncomputable def Yba.pinned : Pinned := { name := "ybulkeklg", sum := "9c6e47ed0e7371deaad76779cd728dd7d4be27bb1d5b5640591e37965f0692d5", checked := Yba.checked }
namespace Rows
def none {H : Type} : Left H := { results := [], args := [] }

/-- 'cutmark.LawS6831AWhole': WHATEVER THE INPUT: true; the input reads as it did. -/
def lawS6831AWholeSpec : ChangeSpec := { name := "lawS6831AWhole", fn := fun _ => fun
  | [d1, d2, d3] => { results := [.lit (.bool true)], args := [d1, d2, d3] }
  | _ => none }
def lawS6831AWholeRow : OpenClaim := { program := "ybulkeklg", sum := "9c6e47ed0e7371deaad76779cd728dd7d4be27bb1d5b5640591e37965f0692d5", func := "example.com/cutmark/cutmark.LawS6831AWhole", spec := "lawS6831AWhole", apart := false }
def LawS6831AWholeSaid : Prop := lawS6831AWholeRow.holds Yba.pinned (OpenSpec.ofChange lawS6831AWholeSpec)

/-- ITS FALSE NEIGHBOUR: 'it returns false'. Refute it at one input. -/
def lawS6831AWholeWrong : ChangeSpec := { name := "lawS6831AWhole", fn := fun _ => fun
  | [d1, d2, d3] => { results := [.lit (.bool false)], args := [d1, d2, d3] }
  | _ => none }
def LawS6831AWholeWrongFalsely : Prop := lawS6831AWholeRow.holds Yba.pinned (OpenSpec.ofChange lawS6831AWholeWrong)

/-- 'cutmark.LawS6831BWhole': WHATEVER THE INPUT: true; the input reads as it did. -/
def lawS6831BWholeSpec : ChangeSpec := { name := "lawS6831BWhole", fn := fun _ => fun
  | [d] => { results := [.lit (.bool true)], args := [d] }
  | _ => none }
def lawS6831BWholeRow : OpenClaim := { program := "ybulkeklg", sum := "9c6e47ed0e7371deaad76779cd728dd7d4be27bb1d5b5640591e37965f0692d5", func := "example.com/cutmark/cutmark.LawS6831BWhole", spec := "lawS6831BWhole", inPlace := ["internal/abi.NoEscape", "internal/bytealg.MakeNoZero"], apart := false }
def LawS6831BWholeSaid : Prop := lawS6831BWholeRow.holds Yba.pinned (OpenSpec.ofChange lawS6831BWholeSpec)

/-- ITS FALSE NEIGHBOUR: 'it returns false'. Refute it at one input. -/
def lawS6831BWholeWrong : ChangeSpec := { name := "lawS6831BWhole", fn := fun _ => fun
  | [d] => { results := [.lit (.bool false)], args := [d] }
  | _ => none }
def LawS6831BWholeWrongFalsely : Prop := lawS6831BWholeRow.holds Yba.pinned (OpenSpec.ofChange lawS6831BWholeWrong)

end Rows
end Go.Proofs.Ybulkeklg
