import Derived.Test.YbulkdvoqFmtLeast
import Derived.Stop.CallBack
import Derived.Stop.IfaceNil
import Derived.Lib.EndianBits
import GoSem.ClaimData
namespace Go.Proofs
open Go.Extern.Stop Go.Stop Go.Extern

-- fmt.errorf: function 10: a plain stop
@[go_sem] theorem Ybaf.call10 (args : Array Value) (w : World) : (callFunc 10 args).run Ybaf.prog w = ((FmtStop.errorf #[9, 51] #[27] args).run Ybaf.prog w).andThen fun v w' => .ok (.value v) w' :=
  run_callFunc_extern Ybaf.func10 (by kernel_rfl) (by kernel_rfl) (by kernel_rfl) (by kernel_rfl) args w
@[go_sem] theorem Ybaf.guard (name : String) (w : World) : (FmtStop.guard name).run Ybaf.prog w = .ok () w := by kernel_rfl
-- "payload length %d is above %d", 2 operands
@[go_sem] theorem Ybaf.fmt0 : FmtStop.printed? ⟨#[112, 97, 121, 108, 111, 97, 100, 32, 108, 101, 110, 103, 116, 104, 32, 37, 100, 32, 105, 115, 32, 97, 98, 111, 118, 101, 32, 37, 100]⟩ 2 = some [(0, 100, false), (1, 100, false)] := by kernel_rfl
@[go_sem] theorem Ybaf.fmt0r (w : World) : (FmtDoors.printed ⟨#[112, 97, 121, 108, 111, 97, 100, 32, 108, 101, 110, 103, 116, 104, 32, 37, 100, 32, 105, 115, 32, 97, 98, 111, 118, 101, 32, 37, 100]⟩ 2).run Ybaf.prog w = .ok [(0, 100, false), (1, 100, false)] w := by kernel_rfl
-- type 23: uint32
def Ybaf.shape23 : List UInt8 := [8, 6, 0, 0, 0, 0, 0, 0, 0, 117, 105, 110, 116, 51, 50]
@[go_sem] theorem Ybaf.op23_100 (name : String) (x : Int) (w : World) : (FmtStop.operand name false 100 false (.iface 23 (.int .u32 x))).run Ybaf.prog w = .ok (Ybaf.shape23, Go.Extern.Stop.digits 8 (x % 2 ^ 64).toNat) w := by kernel_rfl
@[go_sem] theorem Ybaf.op23_100w (name : String) (x : Int) (w : World) : (FmtStop.operand name true 100 false (.iface 23 (.int .u32 x))).run Ybaf.prog w = .ok (Ybaf.shape23, Go.Extern.Stop.digits 8 (x % 2 ^ 64).toNat) w := by kernel_rfl
-- type 3: int
def Ybaf.shape3 : List UInt8 := [5, 3, 0, 0, 0, 0, 0, 0, 0, 105, 110, 116]
@[go_sem] theorem Ybaf.op3_100 (name : String) (x : Int) (w : World) : (FmtStop.operand name false 100 false (.iface 3 (.int .i64 x))).run Ybaf.prog w = .ok (Ybaf.shape3, Go.Extern.Stop.digits 8 (x % 2 ^ 64).toNat) w := by kernel_rfl
@[go_sem] theorem Ybaf.op3_100w (name : String) (x : Int) (w : World) : (FmtStop.operand name true 100 false (.iface 3 (.int .i64 x))).run Ybaf.prog w = .ok (Ybaf.shape3, Go.Extern.Stop.digits 8 (x % 2 ^ 64).toNat) w := by kernel_rfl
-- the error type that fmt.errorf makes
@[go_sem] theorem Ybaf.ptr38 (w : World) : (FmtStop.ptrTo "errors.errorString").run Ybaf.prog w = .ok 38 w := by kernel_rfl
@[go_sem] theorem Ybaf.elem38 (w : World) : (elemOf 38).run Ybaf.prog w = .ok 40 w := by kernel_rfl
@[go_sem] theorem Ybaf.isError38' (w : World) : (FmtDoors.textMethod 38 "Error").run Ybaf.prog w = .ok true w := by kernel_rfl
end Go.Proofs

namespace Go.Proofs.YbulkdvoqFmt
open Go Go.RowKit Go.Extern.Stop Go.Stop Go.Extern

theorem errorf_any (F : Interp) (x y : Int) (blk : Nat) (w : World) (hF : F.answers w.tape) (hc0 : w.cell? ⟨blk, 0, none⟩ = some (.iface 23 (.int .u32 x))) (hc1 : w.cell? ⟨blk, 1, none⟩ = some (.iface 3 (.int .i64 y))) :
    Calls Ybaf.prog 8 #[.string ⟨#[112, 97, 121, 108, 111, 97, 100, 32, 108, 101, 110, 103, 116, 104, 32, 37, 100, 32, 105, 115, 32, 97, 98, 111, 118, 101, 32, 37, 100]⟩, .slice (some ⟨blk, 0, none⟩) 2 2] w fun e w' =>
      e = .returned (.iface 38 (.pointer (some ⟨w.heap.size, 0, none⟩))) ∧ ∃ s, w' = (w.alloc (.cells #[.string s] 40)).drew := by
  have hF' : ∀ i name reading k range, w.tape i (.extern (word name reading k) range) = F name reading k := hF
  go_enter Ybaf.func8, Ybaf.ntmps8
  go_wp2
  go_ret
  exact ⟨rfl, _, rfl⟩

set_option maxHeartbeats 4000000 in
theorem u32_any (g o n c : Nat) (b0 b1 b2 b3 : Int) (w : World) (hn : 4 ≤ n) (h0 : 0 ≤ b0 ∧ b0 < 256) (h1 : 0 ≤ b1 ∧ b1 < 256) (h2 : 0 ≤ b2 ∧ b2 < 256) (h3 : 0 ≤ b3 ∧ b3 < 256)
    (c0 : w.cell? ⟨g, o, none⟩ = some (.int .u8 b0)) (c1 : w.cell? ⟨g, o + 1, none⟩ = some (.int .u8 b1)) (c2 : w.cell? ⟨g, o + 2, none⟩ = some (.int .u8 b2)) (c3 : w.cell? ⟨g, o + 3, none⟩ = some (.int .u8 b3)) :
    Calls Ybaf.prog 7 #[.agg #[], .slice (some ⟨g, o, none⟩) n c] w fun e w' => e = .returned (.int .u32 (b0 + b1 * 256 + b2 * 65536 + b3 * 16777216)) ∧ w' = (w.alloc (.cells #[] 47)).drew := by
  have hb : Below w.heap.size w (w.alloc (.cells #[] 47)) := (Below.refl _ w).alloc (Nat.le_refl _) _
  have d0 := (hb.cell (World.block_lt_of_cell? _ _ c0)).trans c0
  have d1 := (hb.cell (World.block_lt_of_cell? _ _ c1)).trans c1
  have d2 := (hb.cell (World.block_lt_of_cell? _ _ c2)).trans c2
  have d3 := (hb.cell (World.block_lt_of_cell? _ _ c3)).trans c3
  clear hb
  go_enter Ybaf.func7, Ybaf.ntmps7
  go_wp2
  go_region
  go_wp2
  go_ret
  refine ⟨?_, rfl⟩
  simp (disch := omega) only [u32_or8, u32_or16, u32_or24]
  rfl
end Go.Proofs.YbulkdvoqFmt
