/-
  DERIVED. GIVEN WITH THE SEED: THE CARDS: each row of YbulkdvnaDoorRows.lean that lists a variable, with what it lists TIED to the program's text (the seventh form; the later family's looks); each row that meets fmt, with fmt's text TOLD by the authors' own Lean function (tested against real Go, not proved from fmt's source: count such statements apart). THE CARD IS WHAT COUNTS. Prove the row's statement (the work); the ties are given (YbulkdvnaDoorTie.lean); close each card by the builder's one call (the guide's Derived/Test/ToyasCard.lean, 'card_holds'). Laid BY PROGRAM, IN A SANDBOX (cutbox-door.mjs). By AI agents, Wed Nov 11 2026. No macro, syntax, notation, axiom, sorry.
-/
import Derived.Test.YbulkdvnaDoorRows
import GoSem.ClaimSeven
namespace Go.Proofs.YbulkdvnaDoor
namespace Rows

/-- THE TIED CARD OF 'pcs.LawS6110BWhole'. -/
def lawS6110BWholeCard : Claim7 := { stood := { row := lawS6110BWholeRow, standIns := [], harness := (true, "eb5704696db0603716b74d210dc0c1466855dbcfad3c6a71f542c394cfa0cf2c"), looks := false }, kinds := [], alts := [], laidByText := true, laidKinds := [.data], laidTests := true, laidLooks := .later }
def LawS6110BWholeCardSaid : Prop := Claim7.holds Ybad.pinned (.plain (OpenSpec.ofChange lawS6110BWholeSpec)) lawS6110BWholeCard
end Rows
end Go.Proofs.YbulkdvnaDoor
