import Derived.Test.YbulkdvkiLeaf
namespace Go.Proofs.Ybulkdvki
open Go Go.RowKit

/-- a row of strings, which may be written -/
def RowS (w : World) (b off : Nat) (l : List ByteArray) : Prop :=
  ∀ j, j < l.length → w.cell? ⟨b, off + j, none⟩ = some (.string (l.getD j ByteArray.empty)) ∧ w.frozen? ⟨b, off + j, none⟩ = false

/-- nothing has turned but block b -/
structure Turn (b : Nat) (w w' : World) : Prop where
  os : w'.os = w.os
  tape : w'.tape = w.tape
  output : w'.output = w.output
  size : w'.heap.size = w.heap.size
  block : ∀ k, k ≠ b → w'.heap[k]? = w.heap[k]?

theorem Turn.refl (b : Nat) (w : World) : Turn b w w := ⟨rfl, rfl, rfl, rfl, fun _ _ => rfl⟩
theorem Turn.drewN {b : Nat} {a w : World} (h : Turn b a w) (n : Nat) : Turn b a (w.drewN n) := ⟨h.os, h.tape, h.output, h.size, h.block⟩
theorem Turn.drew {b : Nat} {a w : World} (h : Turn b a w) : Turn b a w.drew := ⟨h.os, h.tape, h.output, h.size, h.block⟩
theorem Turn.setCell {b : Nat} {a w : World} (h : Turn b a w) (o : Nat) (v : Value) : Turn b a (w.setCell ⟨b, o, none⟩ v) :=
  ⟨h.os, h.tape, h.output, by simpa [World.setCell] using h.size, fun k hk => (Below.heap_setCell _ _ _ _ hk).trans (h.block k hk)⟩

theorem RowS.set {w : World} {b off : Nat} {l : List ByteArray} (h : RowS w b off l) {i : Nat} (hi : i < l.length) (s : ByteArray) :
    RowS (w.setCell ⟨b, off + i, none⟩ (.string s)) b off (l.set i s) := by
  intro j hj
  simp only [List.length_set] at hj
  refine ⟨?_, by rw [World.frozen?_setCell]; exact (h j hj).2⟩
  by_cases e : i = j
  · subst e
    rw [World.cell?_setCell_same _ _ _ (h i hi).1]
    simp [List.getD, hi]
  · rw [World.cell?_setCell_other _ _ _ _ (by intro x; injection x; omega), (h j hj).1]
    simp [List.getD, e]

theorem RowS.drewN {w : World} {b off : Nat} {l : List ByteArray} (h : RowS w b off l) (n : Nat) : RowS (w.drewN n) b off l := h

set_option maxHeartbeats 800000 in
theorem sort_some (b off c : Nat) (l : List ByteArray) (w : World) (hl : l.length ≤ maxLen) (h : RowS w b off l) :
    Calls Yba.prog 10 #[.slice (some ⟨b, off, none⟩) l.length c] w fun e w' => e = .returned (.tuple #[]) ∧ Turn b w w' ∧ ∃ m, m.Perm l ∧ SortedB m ∧ RowS w' b off m := by
  unfold maxLen at hl
  go_enter Yba.func10, Yba.ntmps10
  go_wp2
  go_loopw [2] (fun i wr => ∃ k : Nat, 1 ≤ k ∧ (k ≤ l.length ∨ k = 1) ∧ i = .int .i64 k ∧ ∃ m, Pre l m k ∧ RowS wr b off m ∧ Turn b w wr) (fun i _ => l.length - (intOf i).toNat)
  case atStart => exact ⟨1, Nat.le_refl _, Or.inr rfl, rfl, l, pre_one l, h, Turn.refl _ _⟩
  case round =>
    obtain ⟨k, hk1, hk, rfl, m, hpre, hrow, hturn⟩ := hrel
    have hml : m.length = l.length := hpre.1.length_eq
    by_cases hlt : k < l.length
    · have HPI : Hid (Ins l m k k) := pre_ins hpre
      have HR : Hid (RowS wr b off m) := hrow
      have HT : Hid (Turn b w wr) := hturn
      clear hpre hrow hturn hml
      go_wp2
      obtain ⟨wo, rfl⟩ : ∃ wo : World, wo = wr := ⟨_, rfl⟩
      go_loopw [3, 4] (fun j _ wr => ∃ q : Nat, q ≤ k ∧ j = .int .i64 q ∧ ∃ m, Ins l m k q ∧ RowS wr b off m ∧ Turn b w wr) (fun j _ _ => (intOf j).toNat)
      case atStart => exact ⟨k, Nat.le_refl _, rfl, m, HPI.out, HR.out, HT.out⟩
      case round =>
        clear HPI HR HT
        obtain ⟨q, hq, rfl, m', hins, hrow, hturn⟩ := hrel
        have hml : m'.length = l.length := hins.1.length_eq
        cases q with
        | zero =>
          have HPI : Hid (Ins l m' k 0) := hins
          have HR : Hid (RowS wr b off m') := hrow
          have HT : Hid (Turn b w wr) := hturn
          clear hins hrow hturn hml
          go_wp2
          go_quiet (fail)
          go_wp2
          exact ⟨⟨k + 1, by omega, Or.inl hlt, by go_num, m', ins_zero HPI.out, HR.out.drewN _, HT.out.drewN _⟩, by simp [intOf]; omega⟩
        | succ q =>
          have hq1 : q + 1 < m'.length := by omega
          have hq0 : q < m'.length := by omega
          have c0 := (hrow q hq0).1
          have c1 := (hrow (q + 1) hq1).1
          have f0 := (hrow q hq0).2
          have f1 := (hrow (q + 1) hq1).2
          have hi1 : (q : Int) + 1 < (l.length : Int) := by omega
          have HPI : Hid (Ins l m' k (q + 1)) := hins
          have HR : Hid (RowS wr b off m') := hrow
          have HT : Hid (Turn b w wr) := hturn
          have HL : Hid (m'.length = l.length) := hml
          clear hins hrow hturn hml
          go_wp2
          go_quiet (fail)
          go_wp2
          · refine ⟨⟨q, by omega, rfl, _, ins_swap HPI.out hq1 ‹_›, ?_, ?_⟩, by simp [intOf]⟩
            · exact ((HR.out.drewN nq).set hq1 m'[q]).set (by simpa using hq0) m'[q + 1]
            · exact ((HT.out.drewN nq).setCell _ _).setCell _ _
          · exact ⟨⟨k + 1, by omega, Or.inl hlt, by go_num, m', ins_stop HPI.out hq1 ‹_›, HR.out.drewN _, HT.out.drewN _⟩, by simp [intOf]; omega⟩
    · have hfin := pre_sorted hpre (by omega)
      have HF : Hid (m.Perm l ∧ SortedB m) := hfin
      have HR : Hid (RowS wr b off m) := hrow
      have HT : Hid (Turn b w wr) := hturn
      clear hpre hrow hturn hfin hml
      go_wp2
      go_end0
      exact ⟨rfl, HT.out, m, HF.out.1, HF.out.2, HR.out⟩
end Go.Proofs.Ybulkdvki
