import Derived.Test.YbulkdvkwDoorEsc
import Derived.Deep.AppendLies
import Derived.Deep.Upon
import Derived.Deep.OwnRows
import Derived.Laws.IdiomCopy
import Derived.Lib.LazyBuf
namespace Go.Proofs.YbulkdvkwDoor
open Go Go.RowKit

def vals (xs : List Int) : List Value := xs.map (Value.int .u8)
theorem vals_get (xs : List Int) (j : Nat) (h : j < xs.length) : (vals xs)[j]? = some (.int .u8 (xs.getD j 0)) := by
  unfold vals
  rw [List.getElem?_map, List.getD_eq_getElem?_getD, List.getElem?_eq_getElem h]
  rfl
theorem vals_len (xs : List Int) : (vals xs).length = xs.length := List.length_map ..
theorem vals_one (xs : List Int) : ∀ u ∈ vals xs, u.oneCell' = true := fun u hu => by
  obtain ⟨_, _, rfl⟩ := List.mem_map.1 hu
  rfl
theorem vals_app (xs ys : List Int) : vals (xs ++ ys) = vals xs ++ vals ys := List.map_append ..

theorem i5 : (Ybad.prog.info? 5).map (fun i => (i.zero, i.size, i.bytes)) = some (some (.int .u8 0), 1, 1) := by kernel_rfl
theorem i5' : ∃ i, Ybad.prog.info? 5 = some i ∧ i.zero = some (.int .u8 0) ∧ i.size = 1 ∧ i.bytes = 1 := by
  obtain ⟨i, hi, hh⟩ := Option.map_eq_some_iff.1 i5
  simp only [Prod.mk.injEq] at hh
  exact ⟨i, hi, hh⟩

/-- bytes that lie below are as they were -/
theorem bytes_below {w w' : World} {p : Option Addr} {n : Nat} {xs : List Int} (h : Lib.BytesIn w p n xs) (hb : Below w.heap.size w w') : Lib.BytesIn w' p n xs := fun hn => by
  obtain ⟨b, o, rfl, hc⟩ := h.at hn
  exact ⟨b, o, rfl, fun i hi => by rw [hb.cell (World.block_lt_of_cell? _ _ (hc i hi))]; exact hc i hi⟩
theorem own_bytes {W : World} {base g n cap : Nat} {ys : List Int} (h : W.ownsRow base 5 1 (.slice (some ⟨g, 0, none⟩) n cap) n (vals ys)) : Lib.BytesIn W (some ⟨g, 0, none⟩) n ys := fun _ => by
  have hl := h.1
  rw [vals_len, Nat.mul_one] at hl
  exact ⟨g, 0, rfl, fun i hi => by rw [Nat.zero_add, h.cellAt i (by omega)]; exact vals_get _ _ (by omega)⟩

/-- append of the bytes of a slice, wherever it lies, onto a row that the call owns -/
theorem app_any (W : World) (base g l cap : Nat) (pre : List Int) (hown : W.ownsRow base 5 1 (.slice (some ⟨g, 0, none⟩) l cap) l (vals pre)) (p : Option Addr) (n c : Nat) (xs : List Int) (hx : xs.length = n) (h : Lib.BytesIn W p n xs)
    (hb : base ≤ W.heap.size) (hl : l + n ≤ 140737488355328) :
    ∃ g' cap' W', (Builtin.append_ #[22, 22] 22 #[.slice (some ⟨g, 0, none⟩) l cap, .slice p n c]).run Ybad.prog W = .ok (.slice (some ⟨g', 0, none⟩) (l + n) cap') W' ∧
      W'.ownsRow base 5 1 (.slice (some ⟨g', 0, none⟩) (l + n) cap') (l + n) (vals (pre ++ xs)) ∧ Below base W W' ∧ base ≤ W'.heap.size := by
  obtain ⟨i, hi, hz, hs, hby⟩ := i5'
  rcases Nat.eq_zero_or_pos n with hn | hn
  · subst hn
    obtain rfl : xs = [] := List.eq_nil_of_length_eq_zero hx
    have hlc : l ≤ cap := by
      rcases hown.2 with ⟨h1, _⟩ | ⟨g', cap', cur, h1, _, _, h2, _⟩
      · cases h1
      · cases h1; exact h2
    refine ⟨g, cap, W, ?_, by rw [List.append_nil]; exact hown, Below.refl _ _, hb⟩
    have hsrc : Src Ybad.prog i.size 22 (.slice p 0 c) 0 [] W := by
      cases p with
      | none => exact Src.ofNil W Ybad.underlying22 c
      | some a => exact Src.ofSlice W Ybad.underlying22 a 0 c [] (by simp) (fun j u hj => by simp at hj) (fun u hu => by cases hu)
    exact run_append_nothing W 22 22 22 5 i Ybad.underlying22 hi (some ⟨g, 0, none⟩) l cap hlc (.slice p 0 c) hsrc
  · obtain ⟨b, o, rfl, hc⟩ := h.at hn
    have hnew : ∀ j u, (vals xs)[j]? = some u → W.cell? ((⟨b, o, none⟩ : Addr).add j) = some u := fun j u hj => by
      have hjl : j < xs.length := by
        have := (List.getElem?_eq_some_iff.1 hj).1
        rwa [vals_len] at this
      rw [vals_get _ _ hjl] at hj
      cases hj
      rw [Go.WideShapes.add_plain]
      exact hc j (by omega)
    obtain ⟨g', cap', W', hr, ho, hg, -, -⟩ := run_append_lies (P := Ybad.prog) W 22 22 base 5 i (.int .u8 0) 1 1 Ybad.underlying22 hi hz hs hby rfl (by decide) (.slice (some ⟨g, 0, none⟩) l cap) l (vals pre) hown ⟨b, o, none⟩ n c (vals xs) (by rw [vals_len, Nat.mul_one, hx]) hnew (vals_one xs) hn (by unfold maxLen; omega) (by omega) hb W.heap.size rfl
    have hB : Below base W W' := (Below.refl base W).grown hg hb (fun k hk => (hown.lt k hk).1)
    exact ⟨g', cap', W', hr, by rw [vals_app]; exact ho, hB, Nat.le_trans hb hB.size⟩

/-- make, copy: a second slice of the same bytes -/
theorem mk_any (W : World) (N : Nat) (h : N ≤ 281474976710656) : (Instr.makeSlice 22 (.int .i64 (N : Int)) (.int .i64 (N : Int))).run Ybad.prog W = .ok (.slice (some ⟨W.heap.size, 0, none⟩) N N) (W.alloc (.cells (madeCells #[.int .u8 0] N) 5)) :=
  run_make_row' 22 5 (.int .u8 0) 1 Ybad.underlying22 i5 rfl .i64 .i64 N (by omega) (by omega) W
theorem cp_any (W : World) (q : Option Addr) (N C : Nat) (ys : List Int) (hy : ys.length = N) (hN : N ≤ 281474976710656) (h : Lib.BytesIn W q N ys) :
    ∃ W2, (Builtin.copy_ #[22, 22] 3 #[.slice (some ⟨W.heap.size, 0, none⟩) N N, .slice q N C]).run Ybad.prog (W.alloc (.cells (madeCells #[.int .u8 0] N) 5)) = .ok (goInt N) W2 ∧
      Lib.BytesIn W2 (some ⟨W.heap.size, 0, none⟩) N ys ∧ Below W.heap.size W W2 ∧ W.heap.size < W2.heap.size := by
  have hi1 : (Ybad.prog.info? 5).map (·.size) = some 1 := by
    obtain ⟨i, hi, _, hs, _⟩ := i5'
    rw [hi]
    exact congrArg some hs
  have hb1 : Below W.heap.size W (W.alloc (.cells (madeCells #[.int .u8 0] N) 5)) := (Below.refl _ W).alloc (Nat.le_refl _) _
  rcases Nat.eq_zero_or_pos N with hn | hn
  · subst hn
    refine ⟨_, run_copy_none (P := Ybad.prog) _ 22 22 3 5 _ q 0 0 0 C Ybad.underlying22 hi1 rfl, Lib.BytesIn.nil _ _ _, hb1, ?_⟩
    simp
  · obtain ⟨b, o, rfl, hc⟩ := h.at hn
    have hrow := World.rowIs_made W (.int .u8 0) N 5
    obtain ⟨cs, hcs, hcn, hcz⟩ := hrow
    have hthere : ∀ j, j < (vals ys).length → ((W.alloc (.cells (madeCells #[.int .u8 0] N) 5)).cell? ⟨W.heap.size, 0 + j, none⟩).isSome = true := fun j hj => by
      rw [Nat.zero_add, cell_of_row _ _ _ _ _ (0, 0) hcs, hcz j (by rw [vals_len] at hj; omega)]
      rfl
    have hr := run_copy_cells (P := Ybad.prog) (W.alloc (.cells (madeCells #[.int .u8 0] N) 5)) 22 22 3 5 W.heap.size 0 N N ⟨b, o, none⟩ N C (vals ys) Ybad.underlying22 hi1 (by rw [vals_len, hy]; exact (Nat.min_self N).symm)
      (fun j v hj => by
        have hjl : j < ys.length := by
          have := (List.getElem?_eq_some_iff.1 hj).1
          rwa [vals_len] at this
        rw [vals_get _ _ hjl] at hj
        cases hj
        have := hc j (by omega)
        rw [← hb1.cell (World.block_lt_of_cell? _ _ this)] at this
        rw [Go.WideShapes.add_plain]
        exact this) hthere
      (fun j _ => by
        rw [Nat.zero_add]
        exact (World.ownsRow_lit (base := W.heap.size) (e := 5) (size := 1) W (madeCells #[.int .u8 0] N) N (Nat.le_refl _) (by unfold maxLen; omega) (by rw [size_madeCells, Nat.mul_one])).frozenAt j) (vals_one ys)
    rw [vals_len, hy] at hr
    refine ⟨_, hr, fun _ => ⟨W.heap.size, 0, rfl, fun i hi => ?_⟩, Go.below_setCells (Nat.le_refl _) _ _ _ hb1, ?_⟩
    · rw [World.cell?_setCells_in _ _ _ _ hthere i (by rw [vals_len]; omega)]
      exact (List.getElem?_eq_getElem (by rw [vals_len]; omega)).symm.trans (vals_get _ _ (by omega))
    · have := (Go.below_setCells (B := 0) (b := W.heap.size) (Nat.zero_le _) (vals ys) 0 _ (Below.refl 0 (W.alloc (.cells (madeCells #[.int .u8 0] N) 5)))).size
      have h2 : (W.alloc (.cells (madeCells #[.int .u8 0] N) 5)).heap.size = W.heap.size + 1 := by simp
      omega
end Go.Proofs.YbulkdvkwDoor
