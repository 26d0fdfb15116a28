import Derived.Test.YbulkdvnaDoorShelf
namespace Go.Proofs
open Go.Shelf
def Ybad.laysB_ren : Go.Shelf.Ren := ⟨fun | 156 => 8 | 165 => 13 | 166 => 14 | 167 => 22 | 169 => 15 | 240 => 23 | 241 => 24 | 276 => 31 | 277 => 32 | n => n, fun | 31 => 22 | 9 => 9 | 3 => 3 | 4 => 4 | 0 => 0 | 20 => 20 | 72 => 45 | 76 => 49 | 70 => 43 | 37 => 39 | 75 => 48 | 127 => 56 | 164 => 64 | 5 => 5 | 80 => 42 | n => n, fun | n => n⟩
theorem Ybad.laysB166 : Go.Proofs.Lays.n166 Ybad.prog Ybad.laysB_ren := {
  mixed := by kernel_rfl
  f166 := Ybad.func14.trans (congrArg some (by kernel_rfl))
  f240 := Ybad.func23.trans (congrArg some (by kernel_rfl))
  f276 := Ybad.func31.trans (congrArg some (by kernel_rfl))
  t0 := Ybad.underlying0
  a0 := Ybad.isAgg0
  z0 := Ybad.sizeOf0
  v0 := Ybad.zeroValue0
  t3 := Ybad.underlying3
  a3 := Ybad.isAgg3
  z3 := Ybad.sizeOf3
  v3 := Ybad.zeroValue3
  t4 := Ybad.underlying4
  a4 := Ybad.isAgg4
  z4 := Ybad.sizeOf4
  v4 := Ybad.zeroValue4
  t9 := Ybad.underlying9
  a9 := Ybad.isAgg9
  z9 := Ybad.sizeOf9
  v9 := Ybad.zeroValue9
  t20 := Ybad.underlying20
  a20 := Ybad.isAgg20
  z20 := Ybad.sizeOf20
  v20 := Ybad.zeroValue20
  t37 := Ybad.underlying39
  a37 := Ybad.isAgg39
  z37 := Ybad.sizeOf39
  v37 := Ybad.zeroValue39
  t70 := Ybad.underlying43
  a70 := Ybad.isAgg43
  z70 := Ybad.sizeOf43
  v70 := Ybad.zeroValue43
  t72 := Ybad.underlying45
  a72 := Ybad.isAgg45
  z72 := Ybad.sizeOf45
  v72 := Ybad.zeroValue45
  t75 := Ybad.underlying48
  a75 := Ybad.isAgg48
  z75 := Ybad.sizeOf48
  v75 := Ybad.zeroValue48
  t164 := Ybad.underlying64
  a164 := Ybad.isAgg64
  z164 := Ybad.sizeOf64
  v164 := Ybad.zeroValue64
}
theorem Ybad.laysB167 : Go.Proofs.Lays.n167 Ybad.prog Ybad.laysB_ren := {
  mixed := by kernel_rfl
  f167 := Ybad.func22.trans (congrArg some (by kernel_rfl))
  f240 := Ybad.func23.trans (congrArg some (by kernel_rfl))
  f276 := Ybad.func31.trans (congrArg some (by kernel_rfl))
  t0 := Ybad.underlying0
  a0 := Ybad.isAgg0
  z0 := Ybad.sizeOf0
  v0 := Ybad.zeroValue0
  t4 := Ybad.underlying4
  a4 := Ybad.isAgg4
  z4 := Ybad.sizeOf4
  v4 := Ybad.zeroValue4
  t5 := Ybad.underlying5
  a5 := Ybad.isAgg5
  z5 := Ybad.sizeOf5
  v5 := Ybad.zeroValue5
  t9 := Ybad.underlying9
  a9 := Ybad.isAgg9
  z9 := Ybad.sizeOf9
  v9 := Ybad.zeroValue9
  t20 := Ybad.underlying20
  a20 := Ybad.isAgg20
  z20 := Ybad.sizeOf20
  v20 := Ybad.zeroValue20
  t37 := Ybad.underlying39
  a37 := Ybad.isAgg39
  z37 := Ybad.sizeOf39
  v37 := Ybad.zeroValue39
  t70 := Ybad.underlying43
  a70 := Ybad.isAgg43
  z70 := Ybad.sizeOf43
  v70 := Ybad.zeroValue43
  t72 := Ybad.underlying45
  a72 := Ybad.isAgg45
  z72 := Ybad.sizeOf45
  v72 := Ybad.zeroValue45
  t75 := Ybad.underlying48
  a75 := Ybad.isAgg48
  z75 := Ybad.sizeOf48
  v75 := Ybad.zeroValue48
  t164 := Ybad.underlying64
  a164 := Ybad.isAgg64
  z164 := Ybad.sizeOf64
  v164 := Ybad.zeroValue64
}
theorem Ybad.laysBX : Builder.Extra Ybad.prog Ybad.laysB_ren := {
  sizeBuilder := by kernel_rfl
  liesBuilder := by kernel_rfl
  t5 := Ybad.underlying5
  a5 := Ybad.isAgg5
  z5 := Ybad.sizeOf5
  v5 := Ybad.zeroValue5
  infoByte := by kernel_rfl
  cellsByte := by kernel_rfl
  sizeByte := by kernel_rfl
  neB5 := by decide }
theorem Ybad.bWriteByte (B b : Nat) (bs : List Value) (c : Int) (w : World) (h : Lib.IsBuilder 45 5 B b bs w) (hlen : bs.length + 1 ≤ 140737488355328) (hBw : B ≤ w.heap.size) :
    Calls Ybad.prog 22 #[.pointer (some ⟨b, 0, none⟩), .int .u8 c] w fun e w' => e = .returned .nilIface ∧ (Lib.BuilderAt 45 5 B b (.pointer (some ⟨b, 0, none⟩)) (bs ++ [.int .u8 c]) w' ∧ Go.RowKit.Below B w w') := Any.Builder_WriteByte Ybad.laysB167 Ybad.laysBX B b bs c w h hlen hBw
theorem Ybad.bWriteString (B b : Nat) (bs : List Value) (s : ByteArray) (w : World) (h : Lib.IsBuilder 45 5 B b bs w) (hlen : bs.length + s.size ≤ 140737488355328) (hBw : B ≤ w.heap.size) :
    Calls Ybad.prog 14 #[.pointer (some ⟨b, 0, none⟩), .string s] w fun e w' => e = .returned (.tuple #[.int .i64 s.size, .nilIface]) ∧ (Lib.BuilderAt 45 5 B b (.pointer (some ⟨b, 0, none⟩)) (bs ++ Lib.strCells s) w' ∧ Go.RowKit.Below B w w') := Any.Builder_WriteString Ybad.laysB166 Ybad.laysBX B b bs s w h hlen hBw
end Go.Proofs
