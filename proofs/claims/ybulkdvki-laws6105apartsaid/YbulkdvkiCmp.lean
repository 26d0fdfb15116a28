import Derived.Test.YbulkdvkiVis
import Derived.Lib.Bytealg
import Derived.Lib.Walk
namespace Go.Proofs.Ybulkdvki
open Go Go.RowKit

set_option maxHeartbeats 1000000 in
set_option maxRecDepth 100000 in
theorem compareString_any (a b : ByteArray) (w : World) :
    Calls Yba.prog 20 #[.string a, .string b] w fun e w' => e = .returned (.int .i64 (Lib.compareBytes a.data.toList b.data.toList)) ∧ w' = w := by
  go_enter Yba.func20, Yba.ntmps20
  go_wp2
  rw [run_callFunc_extern Yba.func34 (by kernel_rfl) (by kernel_rfl) (by kernel_rfl) (e := Extern.BytealgCompare.compare) (by kernel_rfl), Lib.run_compareString]
  simp only [Result.andThen]
  rw [Oper.upon_value]
  go_wp2
  go_ret
  exact ⟨rfl, rfl⟩

set_option maxHeartbeats 1000000 in
theorem compare_any (a b : ByteArray) (w : World) :
    Calls Yba.prog 15 #[.string a, .string b] w fun e w' => e = .returned (.int .i64 (Lib.compareBytes a.data.toList b.data.toList)) ∧ w' = w := by
  go_enter Yba.func15, Yba.ntmps15
  go_wp2_with (go_at_call 20; refine (compareString_any _ _ _).mono ?_; rintro e w' ⟨rfl, rfl⟩)
  go_ret
  exact ⟨rfl, rfl⟩

set_option maxHeartbeats 1000000 in
/-- the closure of sortedTeams -/
theorem closure_any (b1 b2 : Nat) (n1 n2 : ByteArray) (w : World) (h1 : w.cell? ⟨b1, 0, none⟩ = some (.string n1)) (h2 : w.cell? ⟨b2, 0, none⟩ = some (.string n2)) :
    Calls Yba.prog 14 #[.pointer (some ⟨b1, 0, none⟩), .pointer (some ⟨b2, 0, none⟩)] w fun e w' => e = .returned (.int .i64 (Lib.compareBytes n1.data.toList n2.data.toList)) ∧ ∃ q, w' = w.drewN q := by
  have hC := fun k => compare_any n1 n2 (w.drewN k)
  generalize Lib.compareBytes n1.data.toList n2.data.toList = r at hC ⊢
  go_enter Yba.func14, Yba.ntmps14
  go_wp2
  go_quiet ((go_at_call 15; exact Calls.quiet_of_same (hC _)))
  go_wp2
  go_ret
  exact ⟨rfl, _, rfl⟩
end Go.Proofs.Ybulkdvki
