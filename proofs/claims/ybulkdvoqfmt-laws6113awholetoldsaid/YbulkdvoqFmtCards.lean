/-
  DERIVED. GIVEN WITH THE SEED: THE CARDS: each row of YbulkdvoqFmtRows.lean that lists a variable, with what it lists TIED to the program's text (the seventh form; the later family's looks); each row that meets fmt, with fmt's text TOLD by the authors' own Lean function (tested against real Go, not proved from fmt's source: count such statements apart). THE CARD IS WHAT COUNTS. Prove the row's statement (the work); the ties are given (YbulkdvoqFmtTie.lean); close each card by the builder's one call (the guide's Derived/Test/ToyasCard.lean, 'card_holds'). Laid BY PROGRAM, IN A SANDBOX (cutbox-door.mjs). By AI agents, Wed Nov 11 2026. No macro, syntax, notation, axiom, sorry.
-/
import Derived.Test.YbulkdvoqFmtRows
import GoSem.ClaimSeven
namespace Go.Proofs.YbulkdvoqFmt
namespace Rows

/-- THE TOLD AND TIED CARD OF 'message.LawS6113AWhole'. -/
def lawS6113AWholeCard : Claim7 := { stood := { row := lawS6113AWholeRow, standIns := [], harness := (true, "b925beb20e5e307a1486ad5b03d90706b7c455a490986a69aee06c5310cb6c04"), looks := true }, told := true, laidByText := true, laidKinds := [.sentinel, .sentinel, .sentinel], laidTests := true, laidLooks := .later, goes := false }
def LawS6113AWholeToldSaid : Prop := Claim7.holds Ybaf.pinned (.plain (OpenSpec.ofChange lawS6113AWholeSpec)) lawS6113AWholeCard
/-- ITS FALSE NEIGHBOUR. Refute it at one input. -/
def LawS6113AWholeToldWrongFalsely : Prop := Claim7.holds Ybaf.pinned (.plain (OpenSpec.ofChange lawS6113AWholeWrong)) lawS6113AWholeCard
end Rows
end Go.Proofs.YbulkdvoqFmt
