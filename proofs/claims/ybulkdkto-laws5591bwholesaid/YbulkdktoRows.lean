/-
  No cell of these rows narrows 'for every input' (looked for: loops, veiled, ifaces, maps, wideKeys, modest, calm, conditions, laid).
  DERIVED. THE GIVEN ROWS OF THIS SEAT. 1 by the template 'for every input the law returns true; each argument reads behind the call as it read before'; 0 by the template 'total and deterministic' (their statements: YbulkdktoTotals.lean).
  GIVEN WITH THE SEED: the statements are not yours to turn. If you find one false, say at which input.
  Laid BY PROGRAM, IN A SANDBOX (cutbox-rows.mjs): the forced cells as the released guide's own fill.sh prints them over the translation 62e49d07ae441d39… (all of the seat's roots in one cut). By AI agents, Wed Nov 11 2026. No macro, syntax, notation, axiom, sorry.
-/
import Derived.Test.YbulkdktoChecked
import GoSem.Claim
import GoSem.ClaimJoined
import GoSem.ClaimMapViews
import Derived.JoinedTies
import Derived.KernelRfl
namespace Go.Proofs.Ybulkdkto
/- THE CELL 'sum', in the pinned program and in every row, IS THE sha256 OF THE DUMP (.gsa) THAT YbulkdktoProg.lean LOADS. Nothing in Lean hashes anything: it is a label: what it is worth is what the hold of that sum in a sandbox is worth. -/
noncomputable def Yba.pinned : Pinned := { name := "ybulkdkto", sum := "62e49d07ae441d39fc165ba6090f62f76d610205b846e2925051b541bc121487", checked := Yba.checked }
namespace Rows
def none {H : Type} : Left H := { results := [], args := [] }

/-- 'dialsieve.LawS5591BWhole': WHATEVER THE INPUT: true; the input reads as it did. -/
def lawS5591BWholeSpec : ChangeSpec := { name := "lawS5591BWhole", fn := fun _ => fun
  | [d1, d2, d3, d4] => { results := [.lit (.bool true)], args := [d1, d2, d3, d4] }
  | _ => none }
def lawS5591BWholeRow : OpenClaim := { program := "ybulkdkto", sum := "62e49d07ae441d39fc165ba6090f62f76d610205b846e2925051b541bc121487", func := "example.com/dialsieve/dialsieve.LawS5591BWhole", spec := "lawS5591BWhole", apart := false }
def LawS5591BWholeSaid : Prop := lawS5591BWholeRow.holds Yba.pinned (OpenSpec.ofChange lawS5591BWholeSpec)

/-- ITS FALSE NEIGHBOUR: 'it returns false'. Refute it at one input. -/
def lawS5591BWholeWrong : ChangeSpec := { name := "lawS5591BWhole", fn := fun _ => fun
  | [d1, d2, d3, d4] => { results := [.lit (.bool false)], args := [d1, d2, d3, d4] }
  | _ => none }
def LawS5591BWholeWrongFalsely : Prop := lawS5591BWholeRow.holds Yba.pinned (OpenSpec.ofChange lawS5591BWholeWrong)

end Rows
end Go.Proofs.Ybulkdkto
