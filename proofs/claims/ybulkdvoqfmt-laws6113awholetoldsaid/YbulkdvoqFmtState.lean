import Derived.Test.YbulkdvoqFmtProg
import Derived.WalkKit
import Derived.Deep.QuietTactic
import Derived.BigQuiet
import Derived.Deep.CutRange
import Derived.OrdersHeld
import Derived.Deep.Heap
import Derived.Laws.CopyOwn
namespace Go.Proofs.YbulkdvoqFmt
open Go Go.RowKit

def intOf : Value → Int | .int _ q => q | _ => 0
/-- the 23 bytes of the header's array when pos of them have come in -/
def bufOf (S : List Int) (pos : Nat) : List Value := (S.take pos ++ List.replicate (23 - pos) 0).map (Value.int .u8)

/-- nothing but the blocks br and bb has turned -/
structure Still (br bb : Nat) (w w' : World) : Prop where
  os : w'.os = w.os
  tape : w'.tape = w.tape
  output : w'.output = w.output
  size : w'.heap.size = w.heap.size
  block : ∀ k, k ≠ br → k ≠ bb → w'.heap[k]? = w.heap[k]?

theorem Still.refl (br bb : Nat) (w : World) : Still br bb w w := ⟨rfl, rfl, rfl, rfl, fun _ _ _ => rfl⟩
theorem Still.trans {br bb : Nat} {w w' w'' : World} (h : Still br bb w w') (k : Still br bb w' w'') : Still br bb w w'' :=
  ⟨k.os.trans h.os, k.tape.trans h.tape, k.output.trans h.output, k.size.trans h.size, fun i h1 h2 => (k.block i h1 h2).trans (h.block i h1 h2)⟩
theorem Still.drewN {br bb : Nat} {w w' : World} (h : Still br bb w w') (n : Nat) : Still br bb w (w'.drewN n) := h.trans ⟨rfl, rfl, rfl, rfl, fun _ _ _ => rfl⟩
theorem Still.drew {br bb : Nat} {w w' : World} (h : Still br bb w w') : Still br bb w w'.drew := h.trans ⟨rfl, rfl, rfl, rfl, fun _ _ _ => rfl⟩
theorem Still.setCell {br bb : Nat} {w w' : World} (h : Still br bb w w') (j : Nat) (v : Value) : Still br bb w (w'.setCell ⟨br, j, none⟩ v) := by
  have hb := (Below.refl br w').setCell (p := ⟨br, j, none⟩) (Nat.le_refl _) v
  exact h.trans ⟨hb.os, hb.tape, hb.output, Go.Deep.nblk_setCell _ _ _, fun k hk _ => heap_setCell_other w' ⟨br, j, none⟩ k v hk⟩
theorem Still.setRow {br bb : Nat} {w w' : World} (h : Still br bb w w') (cs : Array Value) : Still br bb w (w'.setRow bb cs) :=
  h.trans ⟨rfl, rfl, rfl, by simp [World.setRow], fun k _ hk => setRow_other w' bb k cs hk⟩

/-- the reader (block br), the array that is read into (block bb), the stream S (block bs), the chunks C: pos bytes have been read -/
structure Rd (w : World) (br bb bs cs : Nat) (S : List Int) (pc : Option Addr) (nc cc : Nat) (C : List Int) (m : Int) (ev eof : Value) (pos : Nat) : Prop where
  rd : ∃ k : Nat, k ≤ pos ∧ w.heap[br]? = some (.cells #[.slice (some ⟨bs, 0, none⟩) S.length cs, .int .i64 (pos : Int), .slice pc nc cc, .int .i64 (k : Int), .int .u8 m, ev] 31 (0, 0))
  bf : w.heap[bb]? = some (.cells (bufOf S pos).toArray 43 (0, 0))
  st : ∀ i, i < S.length → w.cell? ⟨bs, i, none⟩ = some (.int .u8 (S.getD i 0))
  ch : 0 < nc → ∃ b o, pc = some ⟨b, o, none⟩ ∧ b ≠ br ∧ b ≠ bb ∧ ∀ j, j < nc → w.cell? ⟨b, o + j, none⟩ = some (.int .u8 (C.getD j 0))
  gl : w.cell? ⟨0, 0, none⟩ = some eof
  ne : bs ≠ br ∧ bs ≠ bb ∧ br ≠ bb ∧ 0 ≠ br ∧ 0 ≠ bb
  rng : ∀ j, 0 ≤ C.getD j 0 ∧ C.getD j 0 < 256
  ms : 0 ≤ m ∧ m < 4
  lim : pos ≤ S.length ∧ S.length ≤ cs ∧ S.length ≤ 4000000 ∧ cs ≤ 9223372036854775807 ∧ nc ≤ 4000000

section
variable {w w' : World} {br bb bs cs : Nat} {S : List Int} {pc : Option Addr} {nc cc : Nat} {C : List Int} {m : Int} {ev eof : Value} {pos : Nat}

/-- the state in another world: given the two blocks -/
theorem Rd.next {pos' : Nat} (h : Rd w br bb bs cs S pc nc cc C m ev eof pos) (hs : Still br bb w w')
    (h1 : ∃ k : Nat, k ≤ pos' ∧ w'.heap[br]? = some (.cells #[.slice (some ⟨bs, 0, none⟩) S.length cs, .int .i64 (pos' : Int), .slice pc nc cc, .int .i64 (k : Int), .int .u8 m, ev] 31 (0, 0)))
    (h2 : w'.heap[bb]? = some (.cells (bufOf S pos').toArray 43 (0, 0))) (h3 : pos' ≤ S.length) : Rd w' br bb bs cs S pc nc cc C m ev eof pos' where
  rd := h1
  bf := h2
  st := fun i hi => (World.cell?_of_block (a := ⟨bs, i, none⟩) (hs.block bs h.ne.1 h.ne.2.1)).trans (h.st i hi)
  ch := fun hn => by
    obtain ⟨b, o, e, n1, n2, hc⟩ := h.ch hn
    exact ⟨b, o, e, n1, n2, fun j hj => (World.cell?_of_block (a := ⟨b, o + j, none⟩) (hs.block b n1 n2)).trans (hc j hj)⟩
  gl := (World.cell?_of_block (a := ⟨0, 0, none⟩) (hs.block 0 h.ne.2.2.2.1 h.ne.2.2.2.2)).trans h.gl
  ne := h.ne
  rng := h.rng
  ms := h.ms
  lim := ⟨h3, h.lim.2⟩
theorem Rd.heap (h : Rd w br bb bs cs S pc nc cc C m ev eof pos) (e : w'.heap = w.heap) (ht : w'.os = w.os ∧ w'.tape = w.tape ∧ w'.output = w.output) : Rd w' br bb bs cs S pc nc cc C m ev eof pos :=
  h.next ⟨ht.1, ht.2.1, ht.2.2, by rw [e], fun _ _ _ => by rw [e]⟩ (by obtain ⟨k, hk, hb⟩ := h.rd; exact ⟨k, hk, by rw [e]; exact hb⟩) (by rw [e]; exact h.bf) h.lim.1
theorem Rd.drewN (h : Rd w br bb bs cs S pc nc cc C m ev eof pos) (n : Nat) : Rd (w.drewN n) br bb bs cs S pc nc cc C m ev eof pos := h.heap rfl ⟨rfl, rfl, rfl⟩

theorem Rd.cells (h : Rd w br bb bs cs S pc nc cc C m ev eof pos) : ∃ k : Nat, k ≤ pos ∧ w.cell? ⟨br, 0, none⟩ = some (.slice (some ⟨bs, 0, none⟩) S.length cs) ∧ w.cell? ⟨br, 1, none⟩ = some (.int .i64 (pos : Int)) ∧
    w.cell? ⟨br, 2, none⟩ = some (.slice pc nc cc) ∧ w.cell? ⟨br, 3, none⟩ = some (.int .i64 (k : Int)) ∧ w.cell? ⟨br, 4, none⟩ = some (.int .u8 m) ∧ w.cell? ⟨br, 5, none⟩ = some ev ∧ ∀ j, w.frozen? ⟨br, j, none⟩ = false := by
  obtain ⟨k, hk, hb⟩ := h.rd
  refine ⟨k, hk, ?_, ?_, ?_, ?_, ?_, ?_, fun j => by simp [World.frozen?, hb]⟩
  all_goals (rw [cell_of_row w br _ _ 31 (0, 0) hb]; rfl)
end

/-- the error at the stream's end -/
def endv (m : Int) (ev eof : Value) : Value := if m % 2 = 1 then ev else eof

/-- what a call of Read leaves -/
def ReadPost (w : World) (br bb bs cs : Nat) (S : List Int) (pc : Option Addr) (nc cc : Nat) (C : List Int) (m : Int) (ev eof : Value) (pos : Nat) (e : Ending) (w' : World) : Prop :=
  ∃ (s : Nat) (er : Value), e = .returned (.tuple #[.int .i64 (s : Int), er]) ∧ pos + s ≤ 23 ∧ Rd w' br bb bs cs S pc nc cc C m ev eof (pos + s) ∧ Still br bb w w' ∧
    ((er = .nilIface ∧ 0 < s) ∨ (pos + s = S.length ∧ er = endv m ev eof))

theorem and1 (m : Int) (h : 0 ≤ m ∧ m < 4) : bits BinOp.and IntKind.u8 m 1 = m % 2 := by
  obtain ⟨h0, h1⟩ := h
  have : m = 0 ∨ m = 1 ∨ m = 2 ∨ m = 3 := by omega
  rcases this with rfl | rfl | rfl | rfl <;> decide
theorem and2 (m : Int) (h : 0 ≤ m ∧ m < 4) : bits BinOp.and IntKind.u8 m 2 = m / 2 * 2 := by
  obtain ⟨h0, h1⟩ := h
  have : m = 0 ∨ m = 1 ∨ m = 2 ∨ m = 3 := by omega
  rcases this with rfl | rfl | rfl | rfl <;> decide
end Go.Proofs.YbulkdvoqFmt
