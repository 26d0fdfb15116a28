/-
  DERIVED. GIVEN WITH THE SEED: THE CARDS: each row of YbulkdvkwDoorRows.lean that lists a variable, with what it lists TIED to the program's text (the seventh form; the later family's looks); each row that meets fmt, with fmt's text TOLD by the authors' own Lean function (tested against real Go, not proved from fmt's source: count such statements apart). THE CARD IS WHAT COUNTS. Prove the row's statement (the work); the ties are given (YbulkdvkwDoorTie.lean); close each card by the builder's one call (the guide's Derived/Test/ToyasCard.lean, 'card_holds'). Laid BY PROGRAM, IN A SANDBOX (cutbox-door.mjs). By AI agents, Wed Nov 11 2026. No macro, syntax, notation, axiom, sorry.
-/
import Derived.Test.YbulkdvkwDoorRows
import GoSem.ClaimSeven
namespace Go.Proofs.YbulkdvkwDoor
namespace Rows

/-- THE TIED CARD OF 'yaml.LawS6106CWhole'. -/
def lawS6106CWholeCard : Claim7 := { stood := { row := lawS6106CWholeRow, standIns := [], harness := (true, "5f7e41a2e54992120abfbfa7a1b499b5a19be6ab73a12dbbd8241eaa78f1889d"), looks := true }, kinds := [], alts := [], laidByText := true, laidKinds := [.data, .data, .data, .sentinel, .sentinel], laidTests := true, laidLooks := .later }
def LawS6106CWholeCardSaid : Prop := Claim7.holds Ybad.pinned (.plain (OpenSpec.ofChange lawS6106CWholeSpec)) lawS6106CWholeCard
end Rows
end Go.Proofs.YbulkdvkwDoor
