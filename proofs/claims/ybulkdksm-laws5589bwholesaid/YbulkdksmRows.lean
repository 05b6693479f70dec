/-
  No cell of these rows narrows 'for every input' (looked for: loops, veiled, ifaces, maps, wideKeys, modest, calm, conditions, laid).
  DERIVED. THE GIVEN ROWS OF THIS SEAT. 1 by the template 'for every input the law returns true; each argument reads behind the call as it read before'; 0 by the template 'total and deterministic' (their statements: YbulkdksmTotals.lean).
  GIVEN WITH THE SEED: the statements are not yours to turn. If you find one false, say at which input.
  Laid BY PROGRAM, IN A SANDBOX (cutbox-rows.mjs): the forced cells as the released guide's own fill.sh prints them over the translation 22615e777f99f818… (all of the seat's roots in one cut). By AI agents, Wed Nov 11 2026. No macro, syntax, notation, axiom, sorry.
-/
import Derived.Test.YbulkdksmChecked
import GoSem.Claim
import GoSem.ClaimJoined
import GoSem.ClaimMapViews
import Derived.JoinedTies
import Derived.KernelRfl
namespace Go.Proofs.Ybulkdksm
/- THE CELL 'sum', in the pinned program and in every row, IS THE sha256 OF THE DUMP (.gsa) THAT YbulkdksmProg.lean LOADS. Nothing in Lean hashes anything: it is a label: what it is worth is what the hold of that sum in a sandbox is worth. -/
noncomputable def Yba.pinned : Pinned := { name := "ybulkdksm", sum := "22615e777f99f8183d902fd2d7b4a29f125b715851e8180eaacfed8f474a0c13", checked := Yba.checked }
namespace Rows
def none {H : Type} : Left H := { results := [], args := [] }

/-- 'digest.LawS5589BWhole': WHATEVER THE INPUT: true; the input reads as it did. -/
def lawS5589BWholeSpec : ChangeSpec := { name := "lawS5589BWhole", fn := fun _ => fun
  | [d1, d2] => { results := [.lit (.bool true)], args := [d1, d2] }
  | _ => none }
def lawS5589BWholeRow : OpenClaim := { program := "ybulkdksm", sum := "22615e777f99f8183d902fd2d7b4a29f125b715851e8180eaacfed8f474a0c13", func := "example.com/wirepact/wirepact/internal/digest.LawS5589BWhole", spec := "lawS5589BWhole", apart := false }
def LawS5589BWholeSaid : Prop := lawS5589BWholeRow.holds Yba.pinned (OpenSpec.ofChange lawS5589BWholeSpec)

/-- ITS FALSE NEIGHBOUR: 'it returns false'. Refute it at one input. -/
def lawS5589BWholeWrong : ChangeSpec := { name := "lawS5589BWhole", fn := fun _ => fun
  | [d1, d2] => { results := [.lit (.bool false)], args := [d1, d2] }
  | _ => none }
def LawS5589BWholeWrongFalsely : Prop := lawS5589BWholeRow.holds Yba.pinned (OpenSpec.ofChange lawS5589BWholeWrong)

end Rows
end Go.Proofs.Ybulkdksm
