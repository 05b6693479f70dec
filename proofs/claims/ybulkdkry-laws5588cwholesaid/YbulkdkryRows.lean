/-
  No cell of these rows narrows 'for every input' (looked for: loops, veiled, ifaces, maps, wideKeys, modest, calm, conditions, laid).
  DERIVED. THE GIVEN ROWS OF THIS SEAT. 3 by the template 'for every input the law returns true; each argument reads behind the call as it read before'; 0 by the template 'total and deterministic' (their statements: YbulkdkryTotals.lean).
  GIVEN WITH THE SEED: the statements are not yours to turn. If you find one false, say at which input.
  Laid BY PROGRAM, IN A SANDBOX (cutbox-rows.mjs): the forced cells as the released guide's own fill.sh prints them over the translation 0de0e1c7fcc62147… (all of the seat's roots in one cut). By AI agents, Wed Nov 11 2026. No macro, syntax, notation, axiom, sorry.
-/
import Derived.Test.YbulkdkryChecked
import GoSem.Claim
import GoSem.ClaimJoined
import GoSem.ClaimMapViews
import Derived.JoinedTies
import Derived.KernelRfl
namespace Go.Proofs.Ybulkdkry
/- THE CELL 'sum', in the pinned program and in every row, IS THE sha256 OF THE DUMP (.gsa) THAT YbulkdkryProg.lean LOADS. Nothing in Lean hashes anything: it is a label: what it is worth is what the hold of that sum in a sandbox is worth. -/
noncomputable def Yba.pinned : Pinned := { name := "ybulkdkry", sum := "0de0e1c7fcc62147a3b65cd3d1393427559f61fb93cfe4a480214eb37aa7823e", checked := Yba.checked }
namespace Rows
def none {H : Type} : Left H := { results := [], args := [] }

/-- 'machine.LawS5588BWhole': WHATEVER THE INPUT: true; the input reads as it did. -/
def lawS5588BWholeSpec : ChangeSpec := { name := "lawS5588BWhole", fn := fun _ => fun
  | [d] => { results := [.lit (.bool true)], args := [d] }
  | _ => none }
def lawS5588BWholeRow : OpenClaim := { program := "ybulkdkry", sum := "0de0e1c7fcc62147a3b65cd3d1393427559f61fb93cfe4a480214eb37aa7823e", func := "example.com/waitless/waitless/machine.LawS5588BWhole", spec := "lawS5588BWhole", apart := false }
def LawS5588BWholeSaid : Prop := lawS5588BWholeRow.holds Yba.pinned (OpenSpec.ofChange lawS5588BWholeSpec)

/-- ITS FALSE NEIGHBOUR: 'it returns false'. Refute it at one input. -/
def lawS5588BWholeWrong : ChangeSpec := { name := "lawS5588BWhole", fn := fun _ => fun
  | [d] => { results := [.lit (.bool false)], args := [d] }
  | _ => none }
def LawS5588BWholeWrongFalsely : Prop := lawS5588BWholeRow.holds Yba.pinned (OpenSpec.ofChange lawS5588BWholeWrong)

/-- 'machine.LawS5588BWindow': WHATEVER THE INPUT: true; the input reads as it did. -/
def lawS5588BWindowSpec : ChangeSpec := { name := "lawS5588BWindow", fn := fun _ => fun
  | [d1, d2] => { results := [.lit (.bool true)], args := [d1, d2] }
  | _ => none }
def lawS5588BWindowRow : OpenClaim := { program := "ybulkdkry", sum := "0de0e1c7fcc62147a3b65cd3d1393427559f61fb93cfe4a480214eb37aa7823e", func := "example.com/waitless/waitless/machine.LawS5588BWindow", spec := "lawS5588BWindow", apart := false }
def LawS5588BWindowSaid : Prop := lawS5588BWindowRow.holds Yba.pinned (OpenSpec.ofChange lawS5588BWindowSpec)

/-- ITS FALSE NEIGHBOUR: 'it returns false'. Refute it at one input. -/
def lawS5588BWindowWrong : ChangeSpec := { name := "lawS5588BWindow", fn := fun _ => fun
  | [d1, d2] => { results := [.lit (.bool false)], args := [d1, d2] }
  | _ => none }
def LawS5588BWindowWrongFalsely : Prop := lawS5588BWindowRow.holds Yba.pinned (OpenSpec.ofChange lawS5588BWindowWrong)

/-- 'check.LawS5588CWhole': WHATEVER THE INPUT: true; the input reads as it did. -/
def lawS5588CWholeSpec : ChangeSpec := { name := "lawS5588CWhole", fn := fun _ => fun
  | [d] => { results := [.lit (.bool true)], args := [d] }
  | _ => none }
def lawS5588CWholeRow : OpenClaim := { program := "ybulkdkry", sum := "0de0e1c7fcc62147a3b65cd3d1393427559f61fb93cfe4a480214eb37aa7823e", func := "example.com/waitless/waitless/check.LawS5588CWhole", spec := "lawS5588CWhole", apart := false }
def LawS5588CWholeSaid : Prop := lawS5588CWholeRow.holds Yba.pinned (OpenSpec.ofChange lawS5588CWholeSpec)

/-- ITS FALSE NEIGHBOUR: 'it returns false'. Refute it at one input. -/
def lawS5588CWholeWrong : ChangeSpec := { name := "lawS5588CWhole", fn := fun _ => fun
  | [d] => { results := [.lit (.bool false)], args := [d] }
  | _ => none }
def LawS5588CWholeWrongFalsely : Prop := lawS5588CWholeRow.holds Yba.pinned (OpenSpec.ofChange lawS5588CWholeWrong)

end Rows
end Go.Proofs.Ybulkdkry
