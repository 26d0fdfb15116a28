/-
  No cell of these rows narrows 'for every input' (looked for: loops, veiled, ifaces, maps, wideKeys, modest, calm, conditions, laid).
  DERIVED. THE GIVEN ROWS OF THIS SEAT. 1 by the template 'for every input the law returns true; each argument reads behind the call as it read before'; 0 by the template 'total and deterministic' (their statements: YbulkdvnaTotals.lean).
  GIVEN WITH THE SEED: the statements are not yours to turn. If you find one false, say at which input.
  Laid BY PROGRAM, IN A SANDBOX (cutbox-rows.mjs): the forced cells as the released guide's own fill.sh prints them over the translation 584029308fe7ebe3… (all of the seat's roots in one cut). By AI agents, Wed Nov 11 2026. No macro, syntax, notation, axiom, sorry.
-/
import Derived.Test.YbulkdvnaChecked
import GoSem.Claim
import GoSem.ClaimJoined
import GoSem.ClaimMapViews
import Derived.JoinedTies
import Derived.KernelRfl
namespace Go.Proofs.Ybulkdvna
/- THE CELL 'sum', in the pinned program and in every row, IS THE sha256 OF THE DUMP (.gsa) THAT YbulkdvnaProg.lean LOADS. Nothing in Lean hashes anything: it is a label: what it is worth is what the hold of that sum in a sandbox is worth. -/
noncomputable def Yba.pinned : Pinned := { name := "ybulkdvna", sum := "584029308fe7ebe36666f3613d2c77ccbd40f663d66a901a9fa8ae5848bc790d", checked := Yba.checked }
namespace Rows
def none {H : Type} : Left H := { results := [], args := [] }

/-- 'jsonread.LawS6110CWhole': WHATEVER THE INPUT: true; the input reads as it did. -/
def lawS6110CWholeSpec : ChangeSpec := { name := "lawS6110CWhole", fn := fun _ => fun
  | [d1, d2] => { results := [.lit (.bool true)], args := [d1, d2] }
  | _ => none }
def lawS6110CWholeRow : OpenClaim := { program := "ybulkdvna", sum := "584029308fe7ebe36666f3613d2c77ccbd40f663d66a901a9fa8ae5848bc790d", func := "example.com/rowan/rowan/internal/jsonread.LawS6110CWhole", spec := "lawS6110CWhole", apart := false }
def LawS6110CWholeSaid : Prop := lawS6110CWholeRow.holds Yba.pinned (OpenSpec.ofChange lawS6110CWholeSpec)

/-- ITS FALSE NEIGHBOUR: 'it returns false'. Refute it at one input. -/
def lawS6110CWholeWrong : ChangeSpec := { name := "lawS6110CWhole", fn := fun _ => fun
  | [d1, d2] => { results := [.lit (.bool false)], args := [d1, d2] }
  | _ => none }
def LawS6110CWholeWrongFalsely : Prop := lawS6110CWholeRow.holds Yba.pinned (OpenSpec.ofChange lawS6110CWholeWrong)

end Rows
end Go.Proofs.Ybulkdvna
