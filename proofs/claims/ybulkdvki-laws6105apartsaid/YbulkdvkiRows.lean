/-
  No cell of these rows narrows 'for every input' (looked for: loops, veiled, ifaces, maps, wideKeys, modest, calm, conditions, laid).
  DERIVED. THE GIVEN ROWS OF THIS SEAT. 1 by the template 'for every input the law returns true; each argument reads behind the call as it read before'; 0 by the template 'total and deterministic' (their statements: YbulkdvkiTotals.lean).
  GIVEN WITH THE SEED: the statements are not yours to turn. If you find one false, say at which input.
  Laid BY PROGRAM, IN A SANDBOX (cutbox-rows.mjs): the forced cells as the released guide's own fill.sh prints them over the translation b9eb15c087d0ddff… (all of the seat's roots in one cut). By AI agents, Wed Nov 11 2026. No macro, syntax, notation, axiom, sorry.
-/
import Derived.Test.YbulkdvkiChecked
import GoSem.Claim
import GoSem.ClaimJoined
import GoSem.ClaimMapViews
import Derived.JoinedTies
import Derived.KernelRfl
namespace Go.Proofs.Ybulkdvki
/- THE CELL 'sum', in the pinned program and in every row, IS THE sha256 OF THE DUMP (.gsa) THAT YbulkdvkiProg.lean LOADS. Nothing in Lean hashes anything: it is a label: what it is worth is what the hold of that sum in a sandbox is worth. -/
noncomputable def Yba.pinned : Pinned := { name := "ybulkdvki", sum := "b9eb15c087d0ddffb3f219afb8524697645a336f3298d2cda3c42fd5f7324e24", checked := Yba.checked }
namespace Rows
def none {H : Type} : Left H := { results := [], args := [] }

/-- 'cli.LawS6105APart': WHATEVER THE INPUT: true; the input reads as it did. -/
def lawS6105APartSpec : ChangeSpec := { name := "lawS6105APart", fn := fun _ => fun
  | [d1, d2, d3, d4, d5, d6, d7] => { results := [.lit (.bool true)], args := [d1, d2, d3, d4, d5, d6, d7] }
  | _ => none }
def lawS6105APartRow : OpenClaim := { program := "ybulkdvki", sum := "b9eb15c087d0ddffb3f219afb8524697645a336f3298d2cda3c42fd5f7324e24", func := "example.com/crewgate/crewgate/pkg/cli.LawS6105APart", spec := "lawS6105APart", inPlace := ["internal/bytealg.abigen_runtime_cmpstring"], unfollowed := true, recurses := true, apart := false }
def LawS6105APartSaid : Prop := lawS6105APartRow.holds Yba.pinned (OpenSpec.ofChange lawS6105APartSpec)

/-- ITS FALSE NEIGHBOUR: 'it returns false'. Refute it at one input. -/
def lawS6105APartWrong : ChangeSpec := { name := "lawS6105APart", fn := fun _ => fun
  | [d1, d2, d3, d4, d5, d6, d7] => { results := [.lit (.bool false)], args := [d1, d2, d3, d4, d5, d6, d7] }
  | _ => none }
def LawS6105APartWrongFalsely : Prop := lawS6105APartRow.holds Yba.pinned (OpenSpec.ofChange lawS6105APartWrong)

end Rows
end Go.Proofs.Ybulkdvki
