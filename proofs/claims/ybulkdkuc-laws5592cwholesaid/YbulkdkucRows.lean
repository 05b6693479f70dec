/-
  No cell of these rows narrows 'for every input' (looked for: loops, veiled, ifaces, maps, wideKeys, modest, calm, conditions, laid).
  DERIVED. THE GIVEN ROWS OF THIS SEAT. 2 by the template 'for every input the law returns true; each argument reads behind the call as it read before'; 0 by the template 'total and deterministic' (their statements: YbulkdkucTotals.lean).
  GIVEN WITH THE SEED: the statements are not yours to turn. If you find one false, say at which input.
  Laid BY PROGRAM, IN A SANDBOX (cutbox-rows.mjs): the forced cells as the released guide's own fill.sh prints them over the translation 9921181928efae59… (all of the seat's roots in one cut). By AI agents, Wed Nov 11 2026. No macro, syntax, notation, axiom, sorry.
-/
import Derived.Test.YbulkdkucChecked
import GoSem.Claim
import GoSem.ClaimJoined
import GoSem.ClaimMapViews
import Derived.JoinedTies
import Derived.KernelRfl
namespace Go.Proofs.Ybulkdkuc
/- THE CELL 'sum', in the pinned program and in every row, IS THE sha256 OF THE DUMP (.gsa) THAT YbulkdkucProg.lean LOADS. Nothing in Lean hashes anything: it is a label: what it is worth is what the hold of that sum in a sandbox is worth. -/
noncomputable def Yba.pinned : Pinned := { name := "ybulkdkuc", sum := "9921181928efae592654a6e79d00c1d05daed3f063a5b9b877e08c341e51f9ec", checked := Yba.checked }
namespace Rows
def none {H : Type} : Left H := { results := [], args := [] }

/-- 'interlace.LawS5592AWhole': WHATEVER THE INPUT: true; the input reads as it did. -/
def lawS5592AWholeSpec : ChangeSpec := { name := "lawS5592AWhole", fn := fun _ => fun
  | [d1, d2, d3] => { results := [.lit (.bool true)], args := [d1, d2, d3] }
  | _ => none }
def lawS5592AWholeRow : OpenClaim := { program := "ybulkdkuc", sum := "9921181928efae592654a6e79d00c1d05daed3f063a5b9b877e08c341e51f9ec", func := "example.com/interlace/interlace.LawS5592AWhole", spec := "lawS5592AWhole", inPlace := ["slices.overlaps[string]", "slices.overlaps[*example.com/interlace/interlace.keysNode]"], recurses := true, apart := false }
def LawS5592AWholeSaid : Prop := lawS5592AWholeRow.holds Yba.pinned (OpenSpec.ofChange lawS5592AWholeSpec)

/-- ITS FALSE NEIGHBOUR: 'it returns false'. Refute it at one input. -/
def lawS5592AWholeWrong : ChangeSpec := { name := "lawS5592AWhole", fn := fun _ => fun
  | [d1, d2, d3] => { results := [.lit (.bool false)], args := [d1, d2, d3] }
  | _ => none }
def LawS5592AWholeWrongFalsely : Prop := lawS5592AWholeRow.holds Yba.pinned (OpenSpec.ofChange lawS5592AWholeWrong)

/-- 'schedule.LawS5592CWhole': WHATEVER THE INPUT: true; the input reads as it did. -/
def lawS5592CWholeSpec : ChangeSpec := { name := "lawS5592CWhole", fn := fun _ => fun
  | [d] => { results := [.lit (.bool true)], args := [d] }
  | _ => none }
def lawS5592CWholeRow : OpenClaim := { program := "ybulkdkuc", sum := "9921181928efae592654a6e79d00c1d05daed3f063a5b9b877e08c341e51f9ec", func := "example.com/interlace/interlace/internal/schedule.LawS5592CWhole", spec := "lawS5592CWhole", apart := false }
def LawS5592CWholeSaid : Prop := lawS5592CWholeRow.holds Yba.pinned (OpenSpec.ofChange lawS5592CWholeSpec)

/-- ITS FALSE NEIGHBOUR: 'it returns false'. Refute it at one input. -/
def lawS5592CWholeWrong : ChangeSpec := { name := "lawS5592CWhole", fn := fun _ => fun
  | [d] => { results := [.lit (.bool false)], args := [d] }
  | _ => none }
def LawS5592CWholeWrongFalsely : Prop := lawS5592CWholeRow.holds Yba.pinned (OpenSpec.ofChange lawS5592CWholeWrong)

end Rows
end Go.Proofs.Ybulkdkuc
