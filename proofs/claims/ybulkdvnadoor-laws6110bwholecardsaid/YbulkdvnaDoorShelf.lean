/-
  DERIVED: THE SHELF's CONTRACTS AT THIS DUMP, IN PLAIN WORDS (tools/lay-plain.mjs out of 'YbadShelf.lean', which tools/lay-shelf.mjs wrote): THE SAME DECLARATIONS UNDER THE SAME NAMES: 'import', 'namespace', 'open', 'def', 'theorem' AND NOTHING ELSE: no command of the shelf's: FOR A HAND-IN. Each laying: the table of numbers ('.._ren') and one theorem, a field a fact of the dump's own or the kernel's comparison; each contract: ONE APPLICATION.
-/
import Derived.Shelf.Strings.Builder1
import Derived.Shelf.Strings.Builder2
import Derived.Shelf.Strings.OnBuilder
import Derived.Shelf.Small.Bits
import Derived.Shelf.Strconv.Itoa0
import Derived.Shelf.Sort.Plain
import Derived.Shelf.Strings.Prefix
import Derived.Ground.PaProg
import Derived.Shelf.Path.LazyBuf
import Derived.Shelf.Path.CleanRel
import Derived.Shelf.Path.CleanAbs
import Derived.Shelf.Path.Clean
import Derived.Shelf.Path.Join
import Derived.Shelf.Path.JoinRules
import Derived.Test.YbulkdvnaDoorProg
namespace Go.Proofs
open Go.Shelf
def Ybad.lays170_ren : Go.Shelf.Ren := ⟨fun | 170 => 21 | n => n, fun | 70 => 43 | 3 => 3 | 0 => 0 | 72 => 45 | 37 => 39 | 5 => 5 | n => n, fun | n => n⟩
theorem Ybad.lays170 : Go.Proofs.Lays.n170 Ybad.prog Ybad.lays170_ren := {
  mixed := by kernel_rfl
  f170 := Ybad.func21.trans (congrArg some (by kernel_rfl))
  t0 := Ybad.underlying0
  a0 := Ybad.isAgg0
  z0 := Ybad.sizeOf0
  v0 := Ybad.zeroValue0
  t3 := Ybad.underlying3
  a3 := Ybad.isAgg3
  z3 := Ybad.sizeOf3
  v3 := Ybad.zeroValue3
  t37 := Ybad.underlying39
  a37 := Ybad.isAgg39
  z37 := Ybad.sizeOf39
  v37 := Ybad.zeroValue39
  t70 := Ybad.underlying43
  a70 := Ybad.isAgg43
  z70 := Ybad.sizeOf43
  v70 := Ybad.zeroValue43
  t72 := Ybad.underlying45
  a72 := Ybad.isAgg45
  z72 := Ybad.sizeOf45
  v72 := Ybad.zeroValue45 }
open Go.RowKit in
/-- (*strings.Builder).Len: "Len returns the number of accumulated bytes; b.Len() == len(b.String()).": the world is as it was. (LAID: no walk: one application.) -/
theorem Ybad.Builder_Len (B b : Nat) (bs : List Value) (w : World) (h : Lib.IsBuilder 45 5 B b bs w) :
    Calls Ybad.prog 21 #[.pointer (some ⟨b, 0, none⟩)] w fun e w' => e = .returned (.int .i64 bs.length) ∧ w' = w := Any.Builder_Len Ybad.lays170 B b bs w h
def Ybad.lays169_ren : Go.Shelf.Ren := ⟨fun | 169 => 15 | n => n, fun | 70 => 43 | 9 => 9 | 0 => 0 | 72 => 45 | 37 => 39 | 127 => 56 | 3 => 3 | 5 => 5 | n => n, fun | n => n⟩
theorem Ybad.lays169 : Go.Proofs.Lays.n169 Ybad.prog Ybad.lays169_ren := {
  mixed := by kernel_rfl
  f169 := Ybad.func15.trans (congrArg some (by kernel_rfl))
  t0 := Ybad.underlying0
  a0 := Ybad.isAgg0
  z0 := Ybad.sizeOf0
  v0 := Ybad.zeroValue0
  t3 := Ybad.underlying3
  a3 := Ybad.isAgg3
  z3 := Ybad.sizeOf3
  v3 := Ybad.zeroValue3
  t9 := Ybad.underlying9
  a9 := Ybad.isAgg9
  z9 := Ybad.sizeOf9
  v9 := Ybad.zeroValue9
  t37 := Ybad.underlying39
  a37 := Ybad.isAgg39
  z37 := Ybad.sizeOf39
  v37 := Ybad.zeroValue39
  t70 := Ybad.underlying43
  a70 := Ybad.isAgg43
  z70 := Ybad.sizeOf43
  v70 := Ybad.zeroValue43
  t72 := Ybad.underlying45
  a72 := Ybad.isAgg45
  z72 := Ybad.sizeOf45
  v72 := Ybad.zeroValue45
  t127 := Ybad.underlying56
  a127 := Ybad.isAgg56
  z127 := Ybad.sizeOf56
  v127 := Ybad.zeroValue56 }
theorem Ybad.Builder_Extra_169 : Builder.Extra Ybad.prog Ybad.lays169_ren := {
  sizeBuilder := by kernel_rfl
  liesBuilder := by kernel_rfl
  t5 := Ybad.underlying5
  a5 := Ybad.isAgg5
  z5 := Ybad.sizeOf5
  v5 := Ybad.zeroValue5
  infoByte := by kernel_rfl
  cellsByte := by kernel_rfl
  sizeByte := by kernel_rfl
  neB5 := by decide }
open Go.RowKit in
/-- (*strings.Builder).String: "String returns the accumulated string.": OF A BUILDER THAT HOLDS AT LEAST ONE BYTE. ✋ THE MODEL FREEZES THOSE BYTES IN THE BUFFER: a later write INTO them ends the model's run without an answer; a later append BEHIND them goes on. The statement's order of evaluation is drawn: one draw. (LAID: no walk: one application.) -/
theorem Ybad.Builder_String (B b : Nat) (l : List UInt8) (w : World) (h : Lib.IsBuilder 45 5 B b (Lib.byteCells l) w) (h0 : l ≠ []) :
    Calls Ybad.prog 15 #[.pointer (some ⟨b, 0, none⟩)] w fun e w' => e = .returned (.string ⟨l.toArray⟩) ∧ Below B w w' := Any.Builder_String Ybad.lays169 Ybad.Builder_Extra_169 B b l w h h0
open Go.RowKit in
/-- (*strings.Builder).String OF A BUILDER THAT HOLDS NO BYTE: the empty string. (Its buffer is nil, or a row of which it has taken nothing yet; where that row has NO capacity the model lays one new block.) One draw. (LAID: no walk: one application.) -/
theorem Ybad.Builder_String_empty (B b : Nat) (w : World) (h : Lib.IsBuilder 45 5 B b [] w) (hBw : B ≤ w.heap.size) :
    Calls Ybad.prog 15 #[.pointer (some ⟨b, 0, none⟩)] w fun e w' => e = .returned (.string ⟨#[]⟩) ∧ Below B w w' := Any.Builder_String_empty Ybad.lays169 Ybad.Builder_Extra_169 B b w h hBw
open Go.RowKit in
/-- (*strings.Builder).String: "String returns the accumulated string.": WHATEVER THE BUILDER HOLDS. (LAID: no walk: one application.) -/
theorem Ybad.Builder_String_any (B b : Nat) (l : List UInt8) (w : World) (h : Lib.IsBuilder 45 5 B b (Lib.byteCells l) w) (hBw : B ≤ w.heap.size) :
    Calls Ybad.prog 15 #[.pointer (some ⟨b, 0, none⟩)] w fun e w' => e = .returned (.string ⟨l.toArray⟩) ∧ Below B w w' := Any.Builder_String_any Ybad.lays169 Ybad.Builder_Extra_169 B b l w h hBw
def Ybad.lays241_ren : Go.Shelf.Ren := ⟨fun | 241 => 24 | 277 => 32 | n => n, fun | 70 => 43 | 3 => 3 | 0 => 0 | 72 => 45 | 37 => 39 | 5 => 5 | n => n, fun | n => n⟩
theorem Ybad.lays241 : Go.Proofs.Lays.n241 Ybad.prog Ybad.lays241_ren := {
  mixed := by kernel_rfl
  f241 := Ybad.func24.trans (congrArg some (by kernel_rfl))
  f277 := Ybad.func32.trans (congrArg some (by kernel_rfl))
  t0 := Ybad.underlying0
  a0 := Ybad.isAgg0
  z0 := Ybad.sizeOf0
  v0 := Ybad.zeroValue0
  t3 := Ybad.underlying3
  a3 := Ybad.isAgg3
  z3 := Ybad.sizeOf3
  v3 := Ybad.zeroValue3
  t37 := Ybad.underlying39
  a37 := Ybad.isAgg39
  z37 := Ybad.sizeOf39
  v37 := Ybad.zeroValue39
  t70 := Ybad.underlying43
  a70 := Ybad.isAgg43
  z70 := Ybad.sizeOf43
  v70 := Ybad.zeroValue43
  t72 := Ybad.underlying45
  a72 := Ybad.isAgg45
  z72 := Ybad.sizeOf45
  v72 := Ybad.zeroValue45 }
theorem Ybad.Builder_Extra_241 : Builder.Extra Ybad.prog Ybad.lays241_ren := {
  sizeBuilder := by kernel_rfl
  liesBuilder := by kernel_rfl
  t5 := Ybad.underlying5
  a5 := Ybad.isAgg5
  z5 := Ybad.sizeOf5
  v5 := Ybad.zeroValue5
  infoByte := by kernel_rfl
  cellsByte := by kernel_rfl
  sizeByte := by kernel_rfl
  neB5 := by decide }
open Go.RowKit in
/-- (*strings.Builder).grow (no doc but "grow copies the buffer to a new, larger buffer so that there are at least n bytes of capacity beyond len(b.buf)."): AT A BUILDER WITHOUT A BUFFER: a new row of whatever bytes for its buffer, none of them its own yet. Three draws. (LAID: no walk: one application.) -/
theorem Ybad.Builder_grow_fresh (B b n : Nat) (w : World) (hB : B ≤ b) (hbk : w.heap[b]? = some (.cells #[.pointer (some ⟨b, 0, none⟩), .slice none 0 0] 45 (0, 0))) (hBw : B ≤ w.heap.size) (hn : n ≤ 281474976710656) :
    Calls Ybad.prog 24 #[.pointer (some ⟨b, 0, none⟩), .int .i64 n] w fun e w' => e = .returned (.tuple #[]) ∧ (Lib.BuilderAt 45 5 B b (.pointer (some ⟨b, 0, none⟩)) [] w' ∧ Below B w w') := Any.Builder_grow_fresh Ybad.lays241 Ybad.Builder_Extra_241 B b n w hB hbk hBw hn
def Ybad.lays165_ren : Go.Shelf.Ren := ⟨fun | 165 => 13 | 240 => 23 | 241 => 24 | 276 => 31 | 277 => 32 | n => n, fun | 70 => 43 | 3 => 3 | 0 => 0 | 4 => 4 | 9 => 9 | 20 => 20 | 72 => 45 | 37 => 39 | 164 => 64 | 5 => 5 | n => n, fun | n => n⟩
theorem Ybad.lays165 : Go.Proofs.Lays.n165 Ybad.prog Ybad.lays165_ren := {
  mixed := by kernel_rfl
  f165 := Ybad.func13.trans (congrArg some (by kernel_rfl))
  f240 := Ybad.func23.trans (congrArg some (by kernel_rfl))
  f241 := Ybad.func24.trans (congrArg some (by kernel_rfl))
  f276 := Ybad.func31.trans (congrArg some (by kernel_rfl))
  f277 := Ybad.func32.trans (congrArg some (by kernel_rfl))
  t0 := Ybad.underlying0
  a0 := Ybad.isAgg0
  z0 := Ybad.sizeOf0
  v0 := Ybad.zeroValue0
  t3 := Ybad.underlying3
  a3 := Ybad.isAgg3
  z3 := Ybad.sizeOf3
  v3 := Ybad.zeroValue3
  t4 := Ybad.underlying4
  a4 := Ybad.isAgg4
  z4 := Ybad.sizeOf4
  v4 := Ybad.zeroValue4
  t9 := Ybad.underlying9
  a9 := Ybad.isAgg9
  z9 := Ybad.sizeOf9
  v9 := Ybad.zeroValue9
  t20 := Ybad.underlying20
  a20 := Ybad.isAgg20
  z20 := Ybad.sizeOf20
  v20 := Ybad.zeroValue20
  t37 := Ybad.underlying39
  a37 := Ybad.isAgg39
  z37 := Ybad.sizeOf39
  v37 := Ybad.zeroValue39
  t70 := Ybad.underlying43
  a70 := Ybad.isAgg43
  z70 := Ybad.sizeOf43
  v70 := Ybad.zeroValue43
  t72 := Ybad.underlying45
  a72 := Ybad.isAgg45
  z72 := Ybad.sizeOf45
  v72 := Ybad.zeroValue45
  t164 := Ybad.underlying64
  a164 := Ybad.isAgg64
  z164 := Ybad.sizeOf64
  v164 := Ybad.zeroValue64 }
theorem Ybad.Builder_Extra_165 : Builder.Extra Ybad.prog Ybad.lays165_ren := {
  sizeBuilder := by kernel_rfl
  liesBuilder := by kernel_rfl
  t5 := Ybad.underlying5
  a5 := Ybad.isAgg5
  z5 := Ybad.sizeOf5
  v5 := Ybad.zeroValue5
  infoByte := by kernel_rfl
  cellsByte := by kernel_rfl
  sizeByte := by kernel_rfl
  neB5 := by decide }
open Go.RowKit in
/-- (*strings.Builder).Grow AT A BUILDER THAT HAS NOT BEEN WRITTEN ('var b strings.Builder; b.Grow(n)'): "Grow grows b's capacity, if necessary, to guarantee space for another n bytes.": it holds no byte behind it as before it. (LAID: no walk: one application.) -/
theorem Ybad.Builder_Grow_fresh (B b n : Nat) (w : World) (hB : B ≤ b) (hbk : w.heap[b]? = some (.cells #[.pointer none, .slice none 0 0] 45 (0, 0))) (hBw : B ≤ w.heap.size) (hn : n ≤ 281474976710656) :
    Calls Ybad.prog 13 #[.pointer (some ⟨b, 0, none⟩), .int .i64 n] w fun e w' => e = .returned (.tuple #[]) ∧ (Lib.BuilderAt 45 5 B b (.pointer (some ⟨b, 0, none⟩)) [] w' ∧ Below B w w') := Any.Builder_Grow_fresh Ybad.lays165 Ybad.Builder_Extra_165 B b n w hB hbk hBw hn
def Ybad.lays156_ren : Go.Shelf.Ren := ⟨fun | 156 => 8 | 165 => 13 | 166 => 14 | 169 => 15 | 240 => 23 | 241 => 24 | 276 => 31 | 277 => 32 | n => n, fun | 31 => 22 | 9 => 9 | 3 => 3 | 4 => 4 | 0 => 0 | 20 => 20 | 72 => 45 | 76 => 49 | 70 => 43 | 37 => 39 | 75 => 48 | 127 => 56 | 164 => 64 | 5 => 5 | 80 => 42 | n => n, fun | n => n⟩
theorem Ybad.lays156 : Go.Proofs.Lays.n156 Ybad.prog Ybad.lays156_ren := {
  mixed := by kernel_rfl
  f156 := Ybad.func8.trans (congrArg some (by kernel_rfl))
  f165 := Ybad.func13.trans (congrArg some (by kernel_rfl))
  f166 := Ybad.func14.trans (congrArg some (by kernel_rfl))
  f169 := Ybad.func15.trans (congrArg some (by kernel_rfl))
  f240 := Ybad.func23.trans (congrArg some (by kernel_rfl))
  f241 := Ybad.func24.trans (congrArg some (by kernel_rfl))
  f276 := Ybad.func31.trans (congrArg some (by kernel_rfl))
  f277 := Ybad.func32.trans (congrArg some (by kernel_rfl))
  t0 := Ybad.underlying0
  a0 := Ybad.isAgg0
  z0 := Ybad.sizeOf0
  v0 := Ybad.zeroValue0
  t3 := Ybad.underlying3
  a3 := Ybad.isAgg3
  z3 := Ybad.sizeOf3
  v3 := Ybad.zeroValue3
  t4 := Ybad.underlying4
  a4 := Ybad.isAgg4
  z4 := Ybad.sizeOf4
  v4 := Ybad.zeroValue4
  t9 := Ybad.underlying9
  a9 := Ybad.isAgg9
  z9 := Ybad.sizeOf9
  v9 := Ybad.zeroValue9
  t20 := Ybad.underlying20
  a20 := Ybad.isAgg20
  z20 := Ybad.sizeOf20
  v20 := Ybad.zeroValue20
  t31 := Ybad.underlying22
  a31 := Ybad.isAgg22
  z31 := Ybad.sizeOf22
  v31 := Ybad.zeroValue22
  t37 := Ybad.underlying39
  a37 := Ybad.isAgg39
  z37 := Ybad.sizeOf39
  v37 := Ybad.zeroValue39
  t70 := Ybad.underlying43
  a70 := Ybad.isAgg43
  z70 := Ybad.sizeOf43
  v70 := Ybad.zeroValue43
  t72 := Ybad.underlying45
  a72 := Ybad.isAgg45
  z72 := Ybad.sizeOf45
  v72 := Ybad.zeroValue45
  t75 := Ybad.underlying48
  a75 := Ybad.isAgg48
  z75 := Ybad.sizeOf48
  v75 := Ybad.zeroValue48
  t76 := Ybad.underlying49
  a76 := Ybad.isAgg49
  z76 := Ybad.sizeOf49
  v76 := Ybad.zeroValue49
  t127 := Ybad.underlying56
  a127 := Ybad.isAgg56
  z127 := Ybad.sizeOf56
  v127 := Ybad.zeroValue56
  t164 := Ybad.underlying64
  a164 := Ybad.isAgg64
  z164 := Ybad.sizeOf64
  v164 := Ybad.zeroValue64 }
theorem Ybad.Builder_Extra_156 : Builder.Extra Ybad.prog Ybad.lays156_ren := {
  sizeBuilder := by kernel_rfl
  liesBuilder := by kernel_rfl
  t5 := Ybad.underlying5
  a5 := Ybad.isAgg5
  z5 := Ybad.sizeOf5
  v5 := Ybad.zeroValue5
  infoByte := by kernel_rfl
  cellsByte := by kernel_rfl
  sizeByte := by kernel_rfl
  neB5 := by decide }
open Go.RowKit in
/-- No element: the empty string; the world is as it was. (Whatever the slice's address and capacity: a nil slice too.) (LAID: no walk: one application.) -/
theorem Ybad.strings_Join_none (a : Option Addr) (c : Nat) (sep : ByteArray) (w : World) :
    Calls Ybad.prog 8 #[.slice a 0 c, .string sep] w fun e w' => e = .returned (.string ⟨#[]⟩) ∧ w' = w := Any.strings_Join_none Ybad.lays156 Ybad.Builder_Extra_156 a c sep w
open Go.RowKit in
/-- strings.Join: "Join concatenates the elements of its first argument to create a single string. The separator string sep is placed between elements in the resulting string.": HOWEVER MANY ELEMENTS. Below the heap's end the world is as it was. (LAID: no walk: one application.) -/
theorem Ybad.strings_Join (bk o c : Nat) (xs : List ByteArray) (sep : ByteArray) (w : World) (hcells : ∀ (j : Nat) x, xs[j]? = some x → w.cell? ⟨bk, o + j, none⟩ = some (.string x)) (hbk : bk < w.heap.size) (hN : xs.length ≤ 140737488355328) (hcap : xs.length ≤ c) (hlen : (Lib.join (xs.map (·.data.toList)) sep.data.toList).length ≤ 140737488355328) :
    Calls Ybad.prog 8 #[.slice (some ⟨bk, o, none⟩) xs.length c, .string sep] w fun e w' => e = .returned (.string ⟨(Lib.join (xs.map (·.data.toList)) sep.data.toList).toArray⟩) ∧ Below w.heap.size w w' := Any.strings_Join Ybad.lays156 Ybad.Builder_Extra_156 bk o c xs sep w hcells hbk hN hcap hlen
def Ybad.lays128_ren : Go.Shelf.Ren := ⟨fun | 128 => 45 | n => n, fun | 51 => 79 | 3 => 3 | 4 => 4 | 46 => 61 | 5 => 5 | 9 => 9 | n => n, fun | n => n⟩
theorem Ybad.lays128 : Go.Proofs.Lays.n128 Ybad.prog Ybad.lays128_ren := {
  mixed := by kernel_rfl
  f128 := Ybad.func45.trans (congrArg some (by kernel_rfl))
  t3 := Ybad.underlying3
  a3 := Ybad.isAgg3
  z3 := Ybad.sizeOf3
  v3 := Ybad.zeroValue3
  t4 := Ybad.underlying4
  a4 := Ybad.isAgg4
  z4 := Ybad.sizeOf4
  v4 := Ybad.zeroValue4
  t5 := Ybad.underlying5
  a5 := Ybad.isAgg5
  z5 := Ybad.sizeOf5
  v5 := Ybad.zeroValue5
  t9 := Ybad.underlying9
  a9 := Ybad.isAgg9
  z9 := Ybad.sizeOf9
  v9 := Ybad.zeroValue9
  t46 := Ybad.underlying61
  a46 := Ybad.isAgg61
  z46 := Ybad.sizeOf61
  v46 := Ybad.zeroValue61
  t51 := Ybad.underlying79
  a51 := Ybad.isAgg79
  z51 := Ybad.sizeOf79
  v51 := Ybad.zeroValue79 }
/-- bits.Len32: "Len32 returns the minimum number of bits required to represent x; the result is 0 for x == 0.": IT RETURNS 'Lib.bitLen x'; the world is as it was. ('h0', 'h1': x is a uint32.) (LAID: no walk: one application.) -/
theorem Ybad.bits_Len32 (x : Int) (w : World) (h0 : 0 ≤ x) (h1 : x ≤ 4294967295) :
    Calls Ybad.prog 45 #[.int .u32 x] w fun e w' => e = .returned (.int .i64 (Lib.bitLen x.toNat)) ∧ w' = w := Any.bits_Len32 Ybad.lays128 x w h0 h1
def Ybad.lays125_ren : Go.Shelf.Ren := ⟨fun | 125 => 29 | 128 => 45 | 129 => 46 | n => n, fun | 46 => 61 | 3 => 3 | 51 => 79 | 53 => 81 | 4 => 4 | 5 => 5 | 9 => 9 | n => n, fun | n => n⟩
theorem Ybad.lays125 : Go.Proofs.Lays.n125 Ybad.prog Ybad.lays125_ren := {
  mixed := by kernel_rfl
  f125 := Ybad.func29.trans (congrArg some (by kernel_rfl))
  f128 := Ybad.func45.trans (congrArg some (by kernel_rfl))
  f129 := Ybad.func46.trans (congrArg some (by kernel_rfl))
  t3 := Ybad.underlying3
  a3 := Ybad.isAgg3
  z3 := Ybad.sizeOf3
  v3 := Ybad.zeroValue3
  t4 := Ybad.underlying4
  a4 := Ybad.isAgg4
  z4 := Ybad.sizeOf4
  v4 := Ybad.zeroValue4
  t5 := Ybad.underlying5
  a5 := Ybad.isAgg5
  z5 := Ybad.sizeOf5
  v5 := Ybad.zeroValue5
  t9 := Ybad.underlying9
  a9 := Ybad.isAgg9
  z9 := Ybad.sizeOf9
  v9 := Ybad.zeroValue9
  t46 := Ybad.underlying61
  a46 := Ybad.isAgg61
  z46 := Ybad.sizeOf61
  v46 := Ybad.zeroValue61
  t51 := Ybad.underlying79
  a51 := Ybad.isAgg79
  z51 := Ybad.sizeOf79
  v51 := Ybad.zeroValue79
  t53 := Ybad.underlying81
  a53 := Ybad.isAgg81
  z53 := Ybad.sizeOf81
  v53 := Ybad.zeroValue81 }
/-- bits.Len: "Len returns the minimum number of bits required to represent x; the result is 0 for x == 0.": IT RETURNS 'Lib.bitLen x'; the world is as it was. (A uint has 64 bits in the model.) ITS CALLEE bits.Len64 IS MET BY ITS OWN CONTRACT OFF THE SHELF (lay that first). (LAID: no walk: one application.) -/
theorem Ybad.bits_Len (x : Int) (w : World) (h0 : 0 ≤ x) (h1 : x ≤ 18446744073709551615) :
    Calls Ybad.prog 29 #[.int .u64 x] w fun e w' => e = .returned (.int .i64 (Lib.bitLen x.toNat)) ∧ w' = w := Any.bits_Len Ybad.lays125 x w h0 h1
def Ybad.lays129_ren : Go.Shelf.Ren := ⟨fun | 129 => 46 | n => n, fun | 53 => 81 | 3 => 3 | 4 => 4 | 46 => 61 | 5 => 5 | 9 => 9 | n => n, fun | n => n⟩
theorem Ybad.lays129 : Go.Proofs.Lays.n129 Ybad.prog Ybad.lays129_ren := {
  mixed := by kernel_rfl
  f129 := Ybad.func46.trans (congrArg some (by kernel_rfl))
  t3 := Ybad.underlying3
  a3 := Ybad.isAgg3
  z3 := Ybad.sizeOf3
  v3 := Ybad.zeroValue3
  t4 := Ybad.underlying4
  a4 := Ybad.isAgg4
  z4 := Ybad.sizeOf4
  v4 := Ybad.zeroValue4
  t5 := Ybad.underlying5
  a5 := Ybad.isAgg5
  z5 := Ybad.sizeOf5
  v5 := Ybad.zeroValue5
  t9 := Ybad.underlying9
  a9 := Ybad.isAgg9
  z9 := Ybad.sizeOf9
  v9 := Ybad.zeroValue9
  t46 := Ybad.underlying61
  a46 := Ybad.isAgg61
  z46 := Ybad.sizeOf61
  v46 := Ybad.zeroValue61
  t53 := Ybad.underlying81
  a53 := Ybad.isAgg81
  z53 := Ybad.sizeOf81
  v53 := Ybad.zeroValue81 }
/-- bits.Len64: "Len64 returns the minimum number of bits required to represent x; the result is 0 for x == 0.": IT RETURNS 'Lib.bitLen x'; the world is as it was. ('h0', 'h1': x is a uint64.) (LAID: no walk: one application.) -/
theorem Ybad.bits_Len64 (x : Int) (w : World) (h0 : 0 ≤ x) (h1 : x ≤ 18446744073709551615) :
    Calls Ybad.prog 46 #[.int .u64 x] w fun e w' => e = .returned (.int .i64 (Lib.bitLen x.toNat)) ∧ w' = w := Any.bits_Len64 Ybad.lays129 x w h0 h1
def Ybad.lays190_ren : Go.Shelf.Ren := ⟨fun | 190 => 19 | 125 => 29 | 258 => 28 | 128 => 45 | 129 => 46 | 302 => 36 | 303 => 37 | 304 => 38 | 305 => 39 | 306 => 40 | 307 => 41 | 308 => 42 | 309 => 43 | 310 => 44 | 333 => 53 | 329 => 54 | 330 => 55 | 334 => 56 | 335 => 57 | 336 => 58 | 344 => 59 | n => n, fun | 31 => 22 | 9 => 9 | 3 => 3 | 46 => 61 | 0 => 0 | 51 => 79 | 53 => 81 | 4 => 4 | 183 => 72 | 182 => 71 | 131 => 76 | 5 => 5 | 218 => 92 | 222 => 96 | 228 => 101 | 229 => 102 | n => n, fun | n => n⟩
theorem Ybad.lays190 : Go.Proofs.Lays.n190 Ybad.prog Ybad.lays190_ren := {
  mixed := by kernel_rfl
  f125 := Ybad.func29.trans (congrArg some (by kernel_rfl))
  f128 := Ybad.func45.trans (congrArg some (by kernel_rfl))
  f129 := Ybad.func46.trans (congrArg some (by kernel_rfl))
  f190 := Ybad.func19.trans (congrArg some (by kernel_rfl))
  f258 := Ybad.func28.trans (congrArg some (by kernel_rfl))
  f302 := Ybad.func36.trans (congrArg some (by kernel_rfl))
  f303 := Ybad.func37.trans (congrArg some (by kernel_rfl))
  f304 := Ybad.func38.trans (congrArg some (by kernel_rfl))
  f305 := Ybad.func39.trans (congrArg some (by kernel_rfl))
  f306 := Ybad.func40.trans (congrArg some (by kernel_rfl))
  f307 := Ybad.func41.trans (congrArg some (by kernel_rfl))
  f308 := Ybad.func42.trans (congrArg some (by kernel_rfl))
  f309 := Ybad.func43.trans (congrArg some (by kernel_rfl))
  f310 := Ybad.func44.trans (congrArg some (by kernel_rfl))
  f329 := Ybad.func54.trans (congrArg some (by kernel_rfl))
  f330 := Ybad.func55.trans (congrArg some (by kernel_rfl))
  f333 := Ybad.func53.trans (congrArg some (by kernel_rfl))
  f334 := Ybad.func56.trans (congrArg some (by kernel_rfl))
  f335 := Ybad.func57.trans (congrArg some (by kernel_rfl))
  f336 := Ybad.func58.trans (congrArg some (by kernel_rfl))
  f344 := Ybad.func59.trans (congrArg some (by kernel_rfl))
  t0 := Ybad.underlying0
  a0 := Ybad.isAgg0
  z0 := Ybad.sizeOf0
  v0 := Ybad.zeroValue0
  t3 := Ybad.underlying3
  a3 := Ybad.isAgg3
  z3 := Ybad.sizeOf3
  v3 := Ybad.zeroValue3
  t4 := Ybad.underlying4
  a4 := Ybad.isAgg4
  z4 := Ybad.sizeOf4
  v4 := Ybad.zeroValue4
  t5 := Ybad.underlying5
  a5 := Ybad.isAgg5
  z5 := Ybad.sizeOf5
  v5 := Ybad.zeroValue5
  t9 := Ybad.underlying9
  a9 := Ybad.isAgg9
  z9 := Ybad.sizeOf9
  v9 := Ybad.zeroValue9
  t31 := Ybad.underlying22
  a31 := Ybad.isAgg22
  z31 := Ybad.sizeOf22
  v31 := Ybad.zeroValue22
  t46 := Ybad.underlying61
  a46 := Ybad.isAgg61
  z46 := Ybad.sizeOf61
  v46 := Ybad.zeroValue61
  t51 := Ybad.underlying79
  a51 := Ybad.isAgg79
  z51 := Ybad.sizeOf79
  v51 := Ybad.zeroValue79
  t53 := Ybad.underlying81
  a53 := Ybad.isAgg81
  z53 := Ybad.sizeOf81
  v53 := Ybad.zeroValue81
  t131 := Ybad.underlying76
  a131 := Ybad.isAgg76
  z131 := Ybad.sizeOf76
  v131 := Ybad.zeroValue76
  t182 := Ybad.underlying71
  a182 := Ybad.isAgg71
  z182 := Ybad.sizeOf71
  v182 := Ybad.zeroValue71
  t183 := Ybad.underlying72
  a183 := Ybad.isAgg72
  z183 := Ybad.sizeOf72
  v183 := Ybad.zeroValue72
  t218 := Ybad.underlying92
  a218 := Ybad.isAgg92
  z218 := Ybad.sizeOf92
  v218 := Ybad.zeroValue92
  t222 := Ybad.underlying96
  a222 := Ybad.isAgg96
  z222 := Ybad.sizeOf96
  v222 := Ybad.zeroValue96
  t228 := Ybad.underlying101
  a228 := Ybad.isAgg101
  z228 := Ybad.sizeOf101
  v228 := Ybad.zeroValue101
  t229 := Ybad.underlying102
  a229 := Ybad.isAgg102
  z229 := Ybad.sizeOf102
  v229 := Ybad.zeroValue102 }
open Go.Sort Go.RowKit in
theorem Ybad.slices_Sort_string (blk off cap : Nat) (ss : List (List UInt8)) (w : World) (hH : Holds encStr w blk off ss.toArray) (hblk : blk < w.heap.size) (hsz : ss.length < 4611686018427387904) :
    Calls Ybad.prog 19 #[.slice (some ⟨blk, off, none⟩) ss.length cap] w fun e w' =>
      e = .returned (.tuple #[]) ∧ ∃ n os, w' = grow (putRow encStr (Sort.ahead w n) blk off (ss.mergeSort fun x y => decide (x ≤ y)).toArray) os := Any.slices_Sort_string Ybad.lays190 blk off cap ss w hH hblk hsz
def Ybad.lays206_ren : Go.Shelf.Ren := ⟨fun | 206 => 16 | n => n, fun | 9 => 9 | 4 => 4 | 3 => 3 | n => n, fun | n => n⟩
theorem Ybad.lays206 : Go.Proofs.Lays.n206 Ybad.prog Ybad.lays206_ren := {
  mixed := by kernel_rfl
  f206 := Ybad.func16.trans (congrArg some (by kernel_rfl))
  t3 := Ybad.underlying3
  a3 := Ybad.isAgg3
  z3 := Ybad.sizeOf3
  v3 := Ybad.zeroValue3
  t4 := Ybad.underlying4
  a4 := Ybad.isAgg4
  z4 := Ybad.sizeOf4
  v4 := Ybad.zeroValue4
  t9 := Ybad.underlying9
  a9 := Ybad.isAgg9
  z9 := Ybad.sizeOf9
  v9 := Ybad.zeroValue9 }
open Go.RowKit Go.Lib in
/-- internal/stringslite.HasPrefix (what strings.HasPrefix calls). (LAID: no walk: one application.) -/
theorem Ybad.stringslite_HasPrefix (s p : ByteArray) (w : World) :
    Calls Ybad.prog 16 #[.string s, .string p] w fun e w' => e = .returned (.bool (Lib.hasPrefix s.data.toList p.data.toList)) ∧ w' = w := Any.stringslite_HasPrefix Ybad.lays206 s p w
def Ybad.lays99_ren : Go.Shelf.Ren := ⟨fun | 99 => 9 | 206 => 16 | n => n, fun | 9 => 9 | 4 => 4 | 3 => 3 | n => n, fun | n => n⟩
theorem Ybad.lays99 : Go.Proofs.Lays.n99 Ybad.prog Ybad.lays99_ren := {
  mixed := by kernel_rfl
  f99 := Ybad.func9.trans (congrArg some (by kernel_rfl))
  f206 := Ybad.func16.trans (congrArg some (by kernel_rfl))
  t3 := Ybad.underlying3
  a3 := Ybad.isAgg3
  z3 := Ybad.sizeOf3
  v3 := Ybad.zeroValue3
  t4 := Ybad.underlying4
  a4 := Ybad.isAgg4
  z4 := Ybad.sizeOf4
  v4 := Ybad.zeroValue4
  t9 := Ybad.underlying9
  a9 := Ybad.isAgg9
  z9 := Ybad.sizeOf9
  v9 := Ybad.zeroValue9 }
open Go.RowKit Go.Lib in
/-- strings.HasPrefix: "HasPrefix reports whether the string s begins with prefix.": IT RETURNS 'Lib.hasPrefix s prefix'; the world is as it was. (LAID: no walk: one application.) -/
theorem Ybad.strings_HasPrefix (s p : ByteArray) (w : World) :
    Calls Ybad.prog 9 #[.string s, .string p] w fun e w' => e = .returned (.bool (Lib.hasPrefix s.data.toList p.data.toList)) ∧ w' = w := Any.strings_HasPrefix Ybad.lays99 s p w
def Ybad.lays207_ren : Go.Shelf.Ren := ⟨fun | 207 => 17 | n => n, fun | 9 => 9 | 4 => 4 | 3 => 3 | n => n, fun | n => n⟩
theorem Ybad.lays207 : Go.Proofs.Lays.n207 Ybad.prog Ybad.lays207_ren := {
  mixed := by kernel_rfl
  f207 := Ybad.func17.trans (congrArg some (by kernel_rfl))
  t3 := Ybad.underlying3
  a3 := Ybad.isAgg3
  z3 := Ybad.sizeOf3
  v3 := Ybad.zeroValue3
  t4 := Ybad.underlying4
  a4 := Ybad.isAgg4
  z4 := Ybad.sizeOf4
  v4 := Ybad.zeroValue4
  t9 := Ybad.underlying9
  a9 := Ybad.isAgg9
  z9 := Ybad.sizeOf9
  v9 := Ybad.zeroValue9 }
open Go.RowKit Go.Lib in
/-- internal/stringslite.HasSuffix (what strings.HasSuffix calls). (LAID: no walk: one application.) -/
theorem Ybad.stringslite_HasSuffix (s p : ByteArray) (w : World) (hs : s.size ≤ 9223372036854775807) :
    Calls Ybad.prog 17 #[.string s, .string p] w fun e w' => e = .returned (.bool (Lib.hasSuffix s.data.toList p.data.toList)) ∧ w' = w := Any.stringslite_HasSuffix Ybad.lays207 s p w hs
def Ybad.lays100_ren : Go.Shelf.Ren := ⟨fun | 100 => 10 | 207 => 17 | n => n, fun | 9 => 9 | 4 => 4 | 3 => 3 | n => n, fun | n => n⟩
theorem Ybad.lays100 : Go.Proofs.Lays.n100 Ybad.prog Ybad.lays100_ren := {
  mixed := by kernel_rfl
  f100 := Ybad.func10.trans (congrArg some (by kernel_rfl))
  f207 := Ybad.func17.trans (congrArg some (by kernel_rfl))
  t3 := Ybad.underlying3
  a3 := Ybad.isAgg3
  z3 := Ybad.sizeOf3
  v3 := Ybad.zeroValue3
  t4 := Ybad.underlying4
  a4 := Ybad.isAgg4
  z4 := Ybad.sizeOf4
  v4 := Ybad.zeroValue4
  t9 := Ybad.underlying9
  a9 := Ybad.isAgg9
  z9 := Ybad.sizeOf9
  v9 := Ybad.zeroValue9 }
open Go.RowKit Go.Lib in
/-- strings.HasSuffix: "HasSuffix reports whether the string s ends with suffix.": IT RETURNS 'Lib.hasSuffix s suffix'; the world is as it was. ('hs': no Go string is longer: a caller has it of every string that it was handed.) (LAID: no walk: one application.) -/
theorem Ybad.strings_HasSuffix (s p : ByteArray) (w : World) (hs : s.size ≤ 9223372036854775807) :
    Calls Ybad.prog 10 #[.string s, .string p] w fun e w' => e = .returned (.bool (Lib.hasSuffix s.data.toList p.data.toList)) ∧ w' = w := Any.strings_HasSuffix Ybad.lays100 s p w hs
def Ybad.laysPa47_ren : Go.Shelf.Ren := ⟨fun | 47 => 51 | n => n, fun | 48 => 100 | 3 => 3 | 5 => 5 | 0 => 0 | 42 => 89 | 30 => 39 | 4 => 4 | 9 => 9 | n => n, fun | n => n⟩
theorem Ybad.laysPa47 : Go.Proofs.Lays.p47 Ybad.prog Ybad.laysPa47_ren := {
  mixed := by kernel_rfl
  f47 := Ybad.func51.trans (congrArg some (by kernel_rfl))
  t0 := Ybad.underlying0
  a0 := Ybad.isAgg0
  z0 := Ybad.sizeOf0
  v0 := Ybad.zeroValue0
  t3 := Ybad.underlying3
  a3 := Ybad.isAgg3
  z3 := Ybad.sizeOf3
  v3 := Ybad.zeroValue3
  t4 := Ybad.underlying4
  a4 := Ybad.isAgg4
  z4 := Ybad.sizeOf4
  v4 := Ybad.zeroValue4
  t5 := Ybad.underlying5
  a5 := Ybad.isAgg5
  z5 := Ybad.sizeOf5
  v5 := Ybad.zeroValue5
  t9 := Ybad.underlying9
  a9 := Ybad.isAgg9
  z9 := Ybad.sizeOf9
  v9 := Ybad.zeroValue9
  t30 := Ybad.underlying39
  a30 := Ybad.isAgg39
  z30 := Ybad.sizeOf39
  v30 := Ybad.zeroValue39
  t42 := Ybad.underlying89
  a42 := Ybad.isAgg89
  z42 := Ybad.sizeOf89
  v42 := Ybad.zeroValue89
  t48 := Ybad.underlying100
  a48 := Ybad.isAgg100
  z48 := Ybad.sizeOf100
  v48 := Ybad.zeroValue100 }
open Go.RowKit Go.Lib in
/-- (*path.lazybuf).index: the byte at place i of what the buffer reads ('c'); the world is as it was. (LAID: no walk: one application.) -/
theorem Ybad.lazybuf_index (B : Nat) (s : ByteArray) (c : List UInt8) (wv i : Nat) (w : World) (hz : Lz.Lazy 89 5 B s c wv w) (hi : i < s.size) :
    Calls Ybad.prog 51 #[.pointer (some ⟨B, 0, none⟩), .int .i64 i] w fun e w' => e = .returned (.int .u8 ((c[i]?.getD 0).toNat : Int)) ∧ w' = w := Any.lazybuf_index Ybad.laysPa47 B s c wv i w hz hi
def Ybad.laysPa48_ren : Go.Shelf.Ren := ⟨fun | 48 => 52 | n => n, fun | 48 => 100 | 9 => 9 | 0 => 0 | 42 => 89 | 30 => 39 | 4 => 4 | 3 => 3 | 5 => 5 | n => n, fun | n => n⟩
theorem Ybad.laysPa48 : Go.Proofs.Lays.p48 Ybad.prog Ybad.laysPa48_ren := {
  mixed := by kernel_rfl
  f48 := Ybad.func52.trans (congrArg some (by kernel_rfl))
  t0 := Ybad.underlying0
  a0 := Ybad.isAgg0
  z0 := Ybad.sizeOf0
  v0 := Ybad.zeroValue0
  t3 := Ybad.underlying3
  a3 := Ybad.isAgg3
  z3 := Ybad.sizeOf3
  v3 := Ybad.zeroValue3
  t4 := Ybad.underlying4
  a4 := Ybad.isAgg4
  z4 := Ybad.sizeOf4
  v4 := Ybad.zeroValue4
  t5 := Ybad.underlying5
  a5 := Ybad.isAgg5
  z5 := Ybad.sizeOf5
  v5 := Ybad.zeroValue5
  t9 := Ybad.underlying9
  a9 := Ybad.isAgg9
  z9 := Ybad.sizeOf9
  v9 := Ybad.zeroValue9
  t30 := Ybad.underlying39
  a30 := Ybad.isAgg39
  z30 := Ybad.sizeOf39
  v30 := Ybad.zeroValue39
  t42 := Ybad.underlying89
  a42 := Ybad.isAgg89
  z42 := Ybad.sizeOf89
  v42 := Ybad.zeroValue89
  t48 := Ybad.underlying100
  a48 := Ybad.isAgg100
  z48 := Ybad.sizeOf100
  v48 := Ybad.zeroValue100 }
open Go.RowKit Go.Lib in
/-- (*path.lazybuf).string: what has been appended, as a string; the world is as it was but for the count of draws. (LAID: no walk: one application.) -/
theorem Ybad.lazybuf_string (B : Nat) (s : ByteArray) (c : List UInt8) (wv : Nat) (w : World) (hz : Lz.Lazy 89 5 B s c wv w) (hw : wv ≤ s.size) :
    Calls Ybad.prog 52 #[.pointer (some ⟨B, 0, none⟩)] w fun e w' => e = .returned (.string ⟨(c.take wv).toArray⟩) ∧ ∃ n, w' = w.drewN n := Any.lazybuf_string Ybad.laysPa48 B s c wv w hz hw
def Ybad.laysPah46_ren : Go.Shelf.Ren := ⟨fun | 46 => 50 | n => n, fun | 48 => 100 | 5 => 5 | 0 => 0 | 42 => 89 | 30 => 39 | 4 => 4 | 3 => 3 | 9 => 9 | n => n, fun | n => n⟩
theorem Ybad.laysPah46 : Go.Proofs.Lays.ph46 Ybad.prog Ybad.laysPah46_ren := {
  mixed := by kernel_rfl
  f46 := Ybad.func50.trans (congrArg some (by kernel_rfl))
  t0 := Ybad.underlying0
  a0 := Ybad.isAgg0
  z0 := Ybad.sizeOf0
  v0 := Ybad.zeroValue0
  t3 := Ybad.underlying3
  a3 := Ybad.isAgg3
  z3 := Ybad.sizeOf3
  v3 := Ybad.zeroValue3
  t4 := Ybad.underlying4
  a4 := Ybad.isAgg4
  z4 := Ybad.sizeOf4
  v4 := Ybad.zeroValue4
  t5 := Ybad.underlying5
  a5 := Ybad.isAgg5
  z5 := Ybad.sizeOf5
  v5 := Ybad.zeroValue5
  t9 := Ybad.underlying9
  a9 := Ybad.isAgg9
  z9 := Ybad.sizeOf9
  v9 := Ybad.zeroValue9
  t30 := Ybad.underlying39
  a30 := Ybad.isAgg39
  z30 := Ybad.sizeOf39
  v30 := Ybad.zeroValue39
  t42 := Ybad.underlying89
  a42 := Ybad.isAgg89
  z42 := Ybad.sizeOf89
  v42 := Ybad.zeroValue89
  t48 := Ybad.underlying100
  a48 := Ybad.isAgg100
  z48 := Ybad.sizeOf100
  v48 := Ybad.zeroValue100
  info5 := by kernel_rfl }
open Go.RowKit Go.Lib in
/-- (*path.lazybuf).append, wherever there is room ('w < len(s)'): THE BUFFER THEN READS SOME c' WHOSE FIRST w + 1 BYTES ARE WHAT HAD BEEN APPENDED, AND x; below block B the world is as it was. (All three ways of the text: the byte is s's own next byte · the output parts from s here: 'make', 'copy' · the buffer is there already.) (LAID: no walk: one application.) -/
theorem Ybad.lazybuf_append (B : Nat) (s : ByteArray) (c : List UInt8) (wv : Nat) (x : UInt8) (w : World) (hz : Lz.Lazy 89 5 B s c wv w) (hw : wv < s.size) (hbig : s.size ≤ 281474976710656) :
    Calls Ybad.prog 50 #[.pointer (some ⟨B, 0, none⟩), .int .u8 (x.toNat : Int)] w fun e w' => e = .returned (.tuple #[]) ∧ ∃ c', Lz.Lazy 89 5 B s c' (wv + 1) w' ∧ c'.take (wv + 1) = c.take wv ++ [x] ∧ Below B w w' := Any.lazybuf_append Ybad.laysPah46 B s c wv x w hz hw hbig
open Go.RowKit Go.Lib in
/-- append at the slash and at the dot, as path.Clean calls it. (LAID: no walk: one application.) -/
theorem Ybad.lazybuf_append47 (B : Nat) (s : ByteArray) (c : List UInt8) (wv : Nat) (w : World) (hz : Lz.Lazy 89 5 B s c wv w) (hw : wv < s.size) (hbig : s.size ≤ 281474976710656) :
    Calls Ybad.prog 50 #[.pointer (some ⟨B, 0, none⟩), .int .u8 47] w fun e w' => e = .returned (.tuple #[]) ∧ ∃ c', Lz.Lazy 89 5 B s c' (wv + 1) w' ∧ c'.take (wv + 1) = c.take wv ++ [47] ∧ Below B w w' := Any.lazybuf_append47 Ybad.laysPah46 B s c wv w hz hw hbig
open Go.RowKit Go.Lib in
theorem Ybad.lazybuf_append46 (B : Nat) (s : ByteArray) (c : List UInt8) (wv : Nat) (w : World) (hz : Lz.Lazy 89 5 B s c wv w) (hw : wv < s.size) (hbig : s.size ≤ 281474976710656) :
    Calls Ybad.prog 50 #[.pointer (some ⟨B, 0, none⟩), .int .u8 46] w fun e w' => e = .returned (.tuple #[]) ∧ ∃ c', Lz.Lazy 89 5 B s c' (wv + 1) w' ∧ c'.take (wv + 1) = c.take wv ++ [46] ∧ Below B w w' := Any.lazybuf_append46 Ybad.laysPah46 B s c wv w hz hw hbig
def Ybad.laysPah30_ren : Go.Shelf.Ren := ⟨fun | 30 => 35 | 46 => 50 | 47 => 51 | 48 => 52 | n => n, fun | 9 => 9 | 4 => 4 | 5 => 5 | 3 => 3 | 42 => 89 | 0 => 0 | 48 => 100 | 30 => 39 | n => n, fun | n => n⟩
theorem Ybad.laysPah30 : Go.Proofs.Lays.ph30 Ybad.prog Ybad.laysPah30_ren := {
  mixed := by kernel_rfl
  f30 := Ybad.func35.trans (congrArg some (by kernel_rfl))
  f46 := Ybad.func50.trans (congrArg some (by kernel_rfl))
  f47 := Ybad.func51.trans (congrArg some (by kernel_rfl))
  f48 := Ybad.func52.trans (congrArg some (by kernel_rfl))
  t0 := Ybad.underlying0
  a0 := Ybad.isAgg0
  z0 := Ybad.sizeOf0
  v0 := Ybad.zeroValue0
  t3 := Ybad.underlying3
  a3 := Ybad.isAgg3
  z3 := Ybad.sizeOf3
  v3 := Ybad.zeroValue3
  t4 := Ybad.underlying4
  a4 := Ybad.isAgg4
  z4 := Ybad.sizeOf4
  v4 := Ybad.zeroValue4
  t5 := Ybad.underlying5
  a5 := Ybad.isAgg5
  z5 := Ybad.sizeOf5
  v5 := Ybad.zeroValue5
  t9 := Ybad.underlying9
  a9 := Ybad.isAgg9
  z9 := Ybad.sizeOf9
  v9 := Ybad.zeroValue9
  t30 := Ybad.underlying39
  a30 := Ybad.isAgg39
  z30 := Ybad.sizeOf39
  v30 := Ybad.zeroValue39
  t42 := Ybad.underlying89
  a42 := Ybad.isAgg89
  z42 := Ybad.sizeOf89
  v42 := Ybad.zeroValue89
  t48 := Ybad.underlying100
  a48 := Ybad.isAgg100
  z48 := Ybad.sizeOf100
  v48 := Ybad.zeroValue100
  info5 := by kernel_rfl }
open Go.RowKit Go.Lib in
theorem Ybad.path_Clean_rel (s : ByteArray) (w : World) (hbig : s.size ≤ 281474976710656) (h0 : 0 < s.size) (hro : (s[0]'h0) ≠ 47) (R RR : List UInt8) (hR : Pa.cleanLoop s.data.toList false s.data.toList.length [] 0 0 = R) (hRR : (if R = [] then [46] else R) = RR) :
    Calls Ybad.prog 35 #[.string s] w fun e w' => e = .returned (.string ⟨RR.toArray⟩) ∧ Below w.heap.size w w' := Any.path_Clean_rel Ybad.laysPah30 s w hbig h0 hro R RR hR hRR
open Go.RowKit Go.Lib in
theorem Ybad.path_Clean_abs (s : ByteArray) (w : World) (hbig : s.size ≤ 281474976710656) (h0 : 0 < s.size) (hro : (s[0]'h0) = 47) (R RR : List UInt8) (hR : Pa.cleanLoop s.data.toList true s.data.toList.length [47] 1 1 = R) (hRR : (if R = [] then [46] else R) = RR) :
    Calls Ybad.prog 35 #[.string s] w fun e w' => e = .returned (.string ⟨RR.toArray⟩) ∧ Below w.heap.size w w' := Any.path_Clean_abs Ybad.laysPah30 s w hbig h0 hro R RR hR hRR
open Go.RowKit Go.Lib in
/-- path.Clean: "Clean returns the shortest path name equivalent to path by purely lexical processing. It applies the following rules iteratively until no further processing can be done: 1. Replace multiple slashes with a single slash. 2. Eliminate each . path name element (the current directory). 3. Eliminate each inner .. path name element (the parent directory) along with the non-.. element that precedes it. 4. Eliminate .. elements that begin a rooted path: that is, replace "/.." by "/" at the beginning of a path. The returned path ends in a slash only if it is the root "/". If the result of this process is an empty string, Clean returns the string ".".": IT RETURNS 'Pa.clean path'. (LAID: no walk: one application.) -/
theorem Ybad.path_Clean (s : ByteArray) (w : World) (hbig : s.size ≤ 281474976710656) :
    Calls Ybad.prog 35 #[.string s] w fun e w' => e = .returned (.string ⟨(Pa.clean s.data.toList).toArray⟩) ∧ Below w.heap.size w w' := Any.path_Clean Ybad.laysPah30 s w hbig
def Ybad.laysPah31_ren : Go.Shelf.Ren := ⟨fun | 31 => 26 | 30 => 35 | 46 => 50 | 47 => 51 | 48 => 52 | n => n, fun | 26 => 22 | 9 => 9 | 3 => 3 | 0 => 0 | 4 => 4 | 30 => 39 | 5 => 5 | 42 => 89 | 48 => 100 | n => n, fun | n => n⟩
theorem Ybad.laysPah31 : Go.Proofs.Lays.ph31 Ybad.prog Ybad.laysPah31_ren := {
  mixed := by kernel_rfl
  f30 := Ybad.func35.trans (congrArg some (by kernel_rfl))
  f31 := Ybad.func26.trans (congrArg some (by kernel_rfl))
  f46 := Ybad.func50.trans (congrArg some (by kernel_rfl))
  f47 := Ybad.func51.trans (congrArg some (by kernel_rfl))
  f48 := Ybad.func52.trans (congrArg some (by kernel_rfl))
  t0 := Ybad.underlying0
  a0 := Ybad.isAgg0
  z0 := Ybad.sizeOf0
  v0 := Ybad.zeroValue0
  t3 := Ybad.underlying3
  a3 := Ybad.isAgg3
  z3 := Ybad.sizeOf3
  v3 := Ybad.zeroValue3
  t4 := Ybad.underlying4
  a4 := Ybad.isAgg4
  z4 := Ybad.sizeOf4
  v4 := Ybad.zeroValue4
  t5 := Ybad.underlying5
  a5 := Ybad.isAgg5
  z5 := Ybad.sizeOf5
  v5 := Ybad.zeroValue5
  t9 := Ybad.underlying9
  a9 := Ybad.isAgg9
  z9 := Ybad.sizeOf9
  v9 := Ybad.zeroValue9
  t26 := Ybad.underlying22
  a26 := Ybad.isAgg22
  z26 := Ybad.sizeOf22
  v26 := Ybad.zeroValue22
  t30 := Ybad.underlying39
  a30 := Ybad.isAgg39
  z30 := Ybad.sizeOf39
  v30 := Ybad.zeroValue39
  t42 := Ybad.underlying89
  a42 := Ybad.isAgg89
  z42 := Ybad.sizeOf89
  v42 := Ybad.zeroValue89
  t48 := Ybad.underlying100
  a48 := Ybad.isAgg100
  z48 := Ybad.sizeOf100
  v48 := Ybad.zeroValue100
  info5 := by kernel_rfl }
open Go.RowKit Go.Lib in
/-- path.Join: "Join joins any number of path elements into a single path, separating them with slashes. Empty elements are ignored. The result is Cleaned. However, if the argument list is empty or all its elements are empty, Join returns an empty string.": THE ARGUMENT AS strings.Join's CONTRACT HAS IT: a slice of xs.length strings at ⟨bk, o⟩ whose cells hold xs ('hcells'), in memory that was there ('hbk'). IT RETURNS 'Pa.joinL (the elements)' (Derived/Lib/JoinFns.lean); what was there before the call is as it was ('Below'). IT ASKS that the elements' lengths and their number together stay within 2^48 (makeslice's own limit). (LAID: no walk: one application.) -/
theorem Ybad.path_Join (bk o c : Nat) (xs : List ByteArray) (w : World) (hcells : ∀ (j : Nat) x, xs[j]? = some x → w.cell? ⟨bk, o + j, none⟩ = some (.string x)) (hbk : bk < w.heap.size) (hlen : Pa.lens (xs.map (·.data.toList)) + xs.length ≤ 281474976710656) :
    Calls Ybad.prog 26 #[.slice (some ⟨bk, o, none⟩) xs.length c] w fun e w' => e = .returned (.string ⟨(Pa.joinL (xs.map (·.data.toList))).toArray⟩) ∧ Below w.heap.size w w' := Any.path_Join Ybad.laysPah31 bk o c xs w hcells hbk hlen
open Go.RowKit Go.Lib in
/-- path.Join WITHOUT AN ELEMENT (the variadic argument nil): IT RETURNS ""; the world is as it was. (LAID: no walk: one application.) -/
theorem Ybad.path_Join_nil (w : World) :
    Calls Ybad.prog 26 #[.slice none 0 0] w fun e w' => e = .returned (.string ⟨#[]⟩) ∧ w' = w := Any.path_Join_nil Ybad.laysPah31 w
open Go.RowKit Go.Lib in
theorem Ybad.path_Join_rules (bk o c : Nat) (xs : List ByteArray) (w : World) (hcells : ∀ (j : Nat) x, xs[j]? = some x → w.cell? ⟨bk, o + j, none⟩ = some (.string x)) (hbk : bk < w.heap.size) (hlen : Pa.lens (xs.map (·.data.toList)) + xs.length ≤ 281474976710656) :
    Calls Ybad.prog 26 #[.slice (some ⟨bk, o, none⟩) xs.length c] w fun e w' => e = .returned (.string ⟨(Pa.join (xs.map (·.data.toList))).toArray⟩) ∧ Below w.heap.size w w' := Any.path_Join_rules Ybad.laysPah31 bk o c xs w hcells hbk hlen
end Go.Proofs
