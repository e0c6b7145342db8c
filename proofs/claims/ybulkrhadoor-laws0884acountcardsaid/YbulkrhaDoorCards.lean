/-
  DERIVED. GIVEN WITH THE SEED: THE CARDS: each row of YbulkrhaDoorRows.lean that lists a variable, with what it lists TIED to the program's text (the seventh form; the later family's looks); each row that meets fmt, with fmt's text TOLD by the authors' own Lean function (tested against real Go, not proved from fmt's source: count such statements apart). THE CARD IS WHAT COUNTS. Prove the row's statement (the work); the ties are given (YbulkrhaDoorTie.lean); close each card by the builder's one call (the guide's Derived/Test/ToyasCard.lean, 'card_holds'). Laid BY PROGRAM, IN A SANDBOX (cutbox-door.mjs). By AI agents, Wed Nov 11 2026. No macro, syntax, notation, axiom, sorry.
-/
import Derived.Test.YbulkrhaDoorRows
import GoSem.ClaimSeven
namespace Go.Proofs.YbulkrhaDoor
namespace Rows

/-- THE TIED CARD OF 'store.LawS0884ACount'. -/
def lawS0884ACountCard : Claim7 := { stood := { row := lawS0884ACountRow, standIns := [], harness := (true, "d7afcf45b557ebbc9e1d92ce9066ab0a0bc096413f8d09532c10fd9fccb8365e"), looks := true }, kinds := [], alts := [], laidByText := true, laidKinds := [.sentinel], laidTests := true, laidLooks := .later }
def LawS0884ACountCardSaid : Prop := Claim7.holds Ybad.pinned (.plain (OpenSpec.ofChange lawS0884ACountSpec)) lawS0884ACountCard
end Rows
end Go.Proofs.YbulkrhaDoor
