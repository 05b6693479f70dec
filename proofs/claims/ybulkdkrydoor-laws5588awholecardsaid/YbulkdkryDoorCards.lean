/-
  DERIVED. GIVEN WITH THE SEED: THE CARDS: each row of YbulkdkryDoorRows.lean that lists a variable, with what it lists TIED to the program's text (the seventh form; the later family's looks); each row that meets fmt, with fmt's text TOLD by the authors' own Lean function (tested against real Go, not proved from fmt's source: count such statements apart). THE CARD IS WHAT COUNTS. Prove the row's statement (the work); the ties are given (YbulkdkryDoorTie.lean); close each card by the builder's one call (the guide's Derived/Test/ToyasCard.lean, 'card_holds'). Laid BY PROGRAM, IN A SANDBOX (cutbox-door.mjs). By AI agents, Wed Nov 11 2026. No macro, syntax, notation, axiom, sorry.
-/
import Derived.Test.YbulkdkryDoorRows
import GoSem.ClaimSeven
namespace Go.Proofs.YbulkdkryDoor
namespace Rows

/-- THE TIED CARD OF 'cli.LawS5588AWhole'. -/
def lawS5588AWholeCard : Claim7 := { stood := { row := lawS5588AWholeRow, standIns := [], harness := (true, "f33dcd494e43c53b2940ac486478a962e1ca2203c2b202088db9ef35cb416ea6"), looks := false }, kinds := [], alts := [], laidByText := true, laidKinds := [.data, .data, .data], laidTests := true, laidLooks := .later }
def LawS5588AWholeCardSaid : Prop := Claim7.holds Ybad.pinned (.plain (OpenSpec.ofChange lawS5588AWholeSpec)) lawS5588AWholeCard
end Rows
end Go.Proofs.YbulkdkryDoor
