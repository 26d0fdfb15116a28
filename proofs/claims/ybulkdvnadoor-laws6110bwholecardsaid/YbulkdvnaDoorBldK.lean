import Derived.Test.YbulkdvnaDoorBld
import Derived.Shelf.Strings.BuilderK
namespace Go.Proofs
open Go.Shelf Go.RowKit
theorem Ybad.bWriteByteK (B b : Nat) (bs : List Value) (c : Int) (w : World) (h : Lib.IsBuilderF 45 5 B b bs w) (hlen : bs.length + 1 ≤ 140737488355328) (hBw : B ≤ w.heap.size) :
    Calls Ybad.prog 22 #[.pointer (some ⟨b, 0, none⟩), .int .u8 c] w fun e w' => e = .returned .nilIface ∧ (Lib.BuilderAtF 45 5 B b (.pointer (some ⟨b, 0, none⟩)) (bs ++ [.int .u8 c]) w' ∧ Below B w w' ∧ Lib.OthersKept 5 (some b) w w') := Any.Builder_WriteByte_k Ybad.laysB167 Ybad.laysBX B b bs c w h hlen hBw
theorem Ybad.bWriteStringK (B b : Nat) (bs : List Value) (s : ByteArray) (w : World) (h : Lib.IsBuilderF 45 5 B b bs w) (hlen : bs.length + s.size ≤ 140737488355328) (hBw : B ≤ w.heap.size) :
    Calls Ybad.prog 14 #[.pointer (some ⟨b, 0, none⟩), .string s] w fun e w' => e = .returned (.tuple #[.int .i64 s.size, .nilIface]) ∧ (Lib.BuilderAtF 45 5 B b (.pointer (some ⟨b, 0, none⟩)) (bs ++ Lib.strCells s) w' ∧ Below B w w' ∧ Lib.OthersKept 5 (some b) w w') := Any.Builder_WriteString_k Ybad.laysB166 Ybad.laysBX B b bs s w h hlen hBw
theorem Ybad.bStringK (B b : Nat) (l : List UInt8) (w : World) (h : Lib.IsBuilderF 45 5 B b (Lib.byteCells l) w) (hBw : B ≤ w.heap.size) :
    Calls Ybad.prog 15 #[.pointer (some ⟨b, 0, none⟩)] w fun e w' => e = .returned (.string ⟨l.toArray⟩) ∧ (Lib.IsBuilderF 45 5 B b (Lib.byteCells l) w' ∧ Below B w w' ∧ Lib.OthersKept 5 (some b) w w') := Any.Builder_String_any_k Ybad.lays169 Ybad.Builder_Extra_169 B b l w h hBw
theorem Ybad.bLenF (B b : Nat) (bs : List Value) (w : World) (h : Lib.IsBuilderF 45 5 B b bs w) :
    Calls Ybad.prog 21 #[.pointer (some ⟨b, 0, none⟩)] w fun e w' => e = .returned (.int .i64 bs.length) ∧ w' = w := Any.Builder_Len_f Ybad.lays170 B b bs w h
end Go.Proofs
