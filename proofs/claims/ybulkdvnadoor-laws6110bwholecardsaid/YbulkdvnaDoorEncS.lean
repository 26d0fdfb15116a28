import Derived.Test.YbulkdvnaDoorQ
import Derived.Test.YbulkdvnaDoorEsc
import Derived.Test.YbulkdvnaDoorBldK
import Derived.Test.YbulkdvnaDoorJoin
import Derived.Maps.RangeWalk
import Derived.Sort.KeysCollected
import Derived.Sort.OwnSorted
namespace Go.Proofs.YbulkdvnaDoor
open Go Go.RowKit Go.Maps Go.Sort

/-- the keys' row: N cells, the first of them ss -/
def KRow (w : World) (g N : Nat) (ss : List (List UInt8)) : Prop := ∃ cs, w.heap[g]? = some (.cells cs 9 (0, 0)) ∧ cs.size = N ∧ cs.toList.take ss.length = ss.map encStr
theorem KRow.cell {w : World} {g N : Nat} {ss : List (List UInt8)} (h : KRow w g N ss) (j : Nat) (hj : j < N) : (∃ v, w.cell? ⟨g, j, none⟩ = some v) ∧ w.frozen? ⟨g, j, none⟩ = false := by
  obtain ⟨cs, hb, hn, _⟩ := h
  refine ⟨⟨cs[j]'(by omega), ?_⟩, by simp [World.frozen?, hb]⟩
  rw [cell_of_row w g j cs 9 (0, 0) hb, Array.getElem?_eq_getElem]
theorem KRow.set {w : World} {g N : Nat} {ss : List (List UInt8)} (h : KRow w g N ss) (x : List UInt8) (hk : ss.length < N) : KRow (w.setCell ⟨g, ss.length, none⟩ (encStr x)) g N (ss ++ [x]) := by
  obtain ⟨cs, hb, hn, hc⟩ := h
  refine ⟨cs.setIfInBounds ss.length (encStr x), heap_setCell_same w g _ _ 9 _ hb, by simp [hn], ?_⟩
  rw [List.length_append, List.length_singleton, Array.toList_setIfInBounds, List.map_append, List.take_set, List.take_succ_eq_append_getElem (by simpa using (by omega : ss.length < cs.size)), hc]
  rw [List.set_append_right _ _ (by simp)]
  simp
theorem KRow.kept {w w' : World} {g N : Nat} {ss : List (List UInt8)} (h : KRow w g N ss) (e : w'.heap[g]? = w.heap[g]?) : KRow w' g N ss := by
  obtain ⟨cs, hb, r⟩ := h
  exact ⟨cs, by rw [e]; exact hb, r⟩
theorem KRow.start (W : World) (N : Nat) : KRow (W.alloc (.cells (madeCells #[.string ⟨#[]⟩] N) 9)) W.heap.size N [] := ⟨_, heap_alloc_new W _, by rw [size_madeCells], rfl⟩

theorem grown_setCell (W : World) (b j : Nat) (v : Value) : W.grownBy (W.setCell ⟨b, j, none⟩ v) (some b) := by
  have hb := (Below.refl b W).setCell (p := ⟨b, j, none⟩) (Nat.le_refl _) v
  exact ⟨hb.os, hb.tape, hb.output, hb.size, fun k _ hk => heap_setCell_other W ⟨b, j, none⟩ k v (fun e => hk (by rw [e]))⟩
/-- one pair more -/
def stepE (acc : List UInt8) (p : Nat × List UInt8) : List UInt8 := acc ++ (if acc = [] then [] else [38]) ++ (keyB p.1).data.toList ++ [61] ++ p.2
def pairsOf (idx : List Nat) (Q : Nat → List (List UInt8)) : List (Nat × List UInt8) := idx.flatMap fun i => (Q i).map fun v => (i, v)
/-- url.Values.Encode -/
def encL (Q : Nat → List (List UInt8)) : List UInt8 := (pairsOf [0, 1, 2] Q).foldl stepE []

theorem size_of {w : World} {base mb n : Nat} {D : DataW Unit} {V : Nat → Value} {Q : Nat → List (List UInt8)} (h : QM w base mb n D V Q) (h0 : Maps.size D = 0) : ∀ i, i < 3 → Q i = [] := fun i hi => by
  obtain ⟨es, rfl⟩ := h.own.isMap
  have he : es = [] := List.eq_nil_of_length_eq_zero h0
  subst he
  have := h.has_ i hi
  rw [show Maps.has (.map [] : DataW Unit) (keyL i) = false from rfl] at this
  simpa using this.symm
theorem encL_nil {Q : Nat → List (List UInt8)} (h : ∀ i, i < 3 → Q i = []) : encL Q = [] := by
  unfold encL pairsOf
  simp [h 0 (by decide), h 1 (by decide), h 2 (by decide)]


/-- the keys that there are -/
def idxs (Q : Nat → List (List UInt8)) : List Nat := [0, 1, 2].filter fun i => decide (Q i ≠ [])
def keyU (i : Nat) : List UInt8 := (keyB i).data.toList
theorem idxs_mem {Q : Nat → List (List UInt8)} {i : Nat} : i ∈ idxs Q ↔ i < 3 ∧ Q i ≠ [] := by
  unfold idxs
  rw [List.mem_filter]
  simp only [List.mem_cons, List.not_mem_nil, or_false, decide_eq_true_eq]
  constructor
  · rintro ⟨h, k⟩; exact ⟨by omega, k⟩
  · rintro ⟨h, k⟩; exact ⟨by omega, k⟩
theorem keys_sub (Q : Nat → List (List UInt8)) : ((idxs Q).map keyU).Sublist ([0, 1, 2].map keyU) := List.Sublist.map _ List.filter_sublist
theorem keys_nodup (Q : Nat → List (List UInt8)) : ((idxs Q).map keyU).Nodup := (keys_sub Q).nodup (by decide)
theorem keys_sorted (Q : Nat → List (List UInt8)) : ((idxs Q).map keyU).Pairwise fun a b => leB a b = true := by
  refine List.Pairwise.sublist (keys_sub Q) ?_
  decide
theorem sorted_keys {w : World} {base mb n : Nat} {D : DataW Unit} {V : Nat → Value} {Q : Nat → List (List UInt8)} (hq : QM w base mb n D V Q) {left : Lit → Bool} {ss : List (List UInt8)} (hC : Collected D left ss) (hl : ∀ kl, left kl = false) :
    ss.mergeSort leB = (idxs Q).map keyU := by
  have hp : ss.Perm ((idxs Q).map keyU) := by
    refine (List.perm_ext_iff_of_nodup hC.1 (keys_nodup Q)).2 fun x => ?_
    rw [hC.2 x, List.mem_map]
    constructor
    · rintro ⟨h, _⟩
      obtain ⟨i, hi, e⟩ := hq.only (.string x) trivial h
      refine ⟨i, idxs_mem.2 ⟨hi, ?_⟩, ?_⟩
      · rw [e, hq.has_ i hi] at h
        simpa using h
      · unfold keyL at e
        injection e with e
        exact e.symm
    · rintro ⟨i, hi, rfl⟩
      have := idxs_mem.1 hi
      refine ⟨?_, hl _⟩
      have h1 := hq.has_ i this.1
      unfold keyL at h1
      unfold keyU
      rw [h1]
      simpa using this.2
  rw [mergeSort_of_perm hp]
  exact List.mergeSort_of_pairwise (keys_sorted Q)
theorem pairsOf_idxs (Q : Nat → List (List UInt8)) : pairsOf (idxs Q) Q = pairsOf [0, 1, 2] Q := by
  unfold pairsOf idxs
  have : ∀ l : List Nat, (l.filter fun i => decide (Q i ≠ [])).flatMap (fun i => (Q i).map fun v => (i, v)) = l.flatMap fun i => (Q i).map fun v => (i, v) := by
    intro l
    induction l with
    | nil => rfl
    | cons a l ih =>
      rw [List.filter_cons]
      split
      · rw [List.flatMap_cons, List.flatMap_cons, ih]
      · rename_i h
        have : Q a = [] := by simpa using h
        rw [List.flatMap_cons, ih, this]
        rfl
  exact this _

/-- what the builder holds behind j keys and k values of the next, i -/
def accAt (Q : Nat → List (List UInt8)) (j i k : Nat) : List UInt8 := (pairsOf ((idxs Q).take j) Q ++ ((Q i).take k).map fun v => (i, v)).foldl stepE []
theorem len_fold (ps : List (Nat × List UInt8)) : ∀ acc : List UInt8, acc.length ≤ (ps.foldl stepE acc).length := by
  induction ps with
  | nil => intro acc; exact Nat.le_refl _
  | cons p ps ih =>
    intro acc
    refine Nat.le_trans ?_ (ih _)
    unfold stepE
    simp only [List.length_append]
    omega
theorem accAt_zero (Q : Nat → List (List UInt8)) (i : Nat) : accAt Q 0 i 0 = [] := rfl
theorem accAt_step (Q : Nat → List (List UInt8)) (j i k : Nat) (hk : k < (Q i).length) : accAt Q j i (k + 1) = stepE (accAt Q j i k) (i, (Q i)[k]) := by
  unfold accAt
  rw [List.take_succ_eq_append_getElem hk, List.map_append, ← List.append_assoc, List.foldl_append]
  rfl
theorem accAt_next (Q : Nat → List (List UInt8)) (j i i' : Nat) (h : (idxs Q)[j]? = some i) : accAt Q (j + 1) i' 0 = accAt Q j i (Q i).length := by
  unfold accAt
  obtain ⟨hj, e⟩ := List.getElem?_eq_some_iff.1 h
  rw [List.take_succ_eq_append_getElem hj, e, List.take_of_length_le (Nat.le_refl _)]
  unfold pairsOf
  rw [List.flatMap_append]
  simp
theorem accAt_le (Q : Nat → List (List UInt8)) (j i k : Nat) (h : (idxs Q)[j]? = some i) : (accAt Q j i k).length ≤ (encL Q).length := by
  unfold encL
  rw [← pairsOf_idxs Q]
  obtain ⟨hj, e⟩ := List.getElem?_eq_some_iff.1 h
  have e1 : pairsOf (idxs Q) Q = (pairsOf ((idxs Q).take j) Q ++ ((Q i).take k).map fun v => (i, v)) ++ (((Q i).drop k).map (fun v => (i, v)) ++ pairsOf ((idxs Q).drop (j + 1)) Q) := by
    conv => lhs; rw [← List.take_append_drop j (idxs Q), List.drop_eq_getElem_cons hj, e]
    unfold pairsOf
    rw [List.flatMap_append, List.flatMap_cons, List.append_assoc]
    congr 1
    rw [← List.append_assoc, ← List.map_append, List.take_append_drop]
  rw [e1, List.foldl_append]
  exact len_fold _ _
theorem accAt_end (Q : Nat → List (List UInt8)) (i : Nat) : accAt Q (idxs Q).length i 0 = encL Q := by
  unfold accAt encL
  rw [List.take_of_length_le (Nat.le_refl _), pairsOf_idxs]
  simp

/-- Encode's second half: the keys' row, the builder -/
structure ESt (w wr : World) (ks : List (List UInt8)) (acc : List UInt8) : Prop where
  bel : Below w.heap.size w wr
  keys : KRow wr (w.heap.size + 1) ks.length ks
  bld : Lib.IsBuilderF 45 5 w.heap.size w.heap.size (Lib.byteCells acc) wr

theorem isB_below {B b : Nat} {bs : List Value} {W W' : World} (h : Lib.IsBuilderF 45 5 B b bs W) (hb : Below W.heap.size W W') : Lib.IsBuilderF 45 5 B b bs W' := by
  have key : ∀ p, Lib.BuilderAtF 45 5 B b p bs W → Lib.BuilderAtF 45 5 B b p bs W' := fun p hp => by
    obtain ⟨h1, v, h2, h3, h4⟩ := hp
    refine ⟨h1, v, (hb.block b (Array.getElem?_eq_some_iff.1 h2).1).trans h2, ⟨h3.1, ?_⟩, h4⟩
    rcases h3.2 with r | ⟨g, cap, cur, fz, e, hg, hc, r⟩
    · exact .inl r
    · exact .inr ⟨g, cap, cur, fz, e, hg, (hb.block g (Array.getElem?_eq_some_iff.1 hc).1).trans hc, r⟩
  exact h.elim (fun x => .inl (key _ x)) (fun x => .inr (key _ x))
theorem ESt.below {w wr w' : World} {ks : List (List UInt8)} {acc : List UInt8} (h : ESt w wr ks acc) (hb : Below wr.heap.size wr w') : ESt w w' ks acc where
  bel := h.bel.trans (hb.mono h.bel.size)
  keys := h.keys.kept (by obtain ⟨cs, e, _⟩ := h.keys; exact hb.block _ (Array.getElem?_eq_some_iff.1 e).1)
  bld := isB_below h.bld hb
theorem ESt.wrote {w wr w' : World} {ks : List (List UInt8)} {acc acc' : List UInt8} (h : ESt w wr ks acc) (h1 : Lib.IsBuilderF 45 5 w.heap.size w.heap.size (Lib.byteCells acc') w') (hb : Below w.heap.size wr w') (ho : Lib.OthersKept 5 (some w.heap.size) wr w') : ESt w w' ks acc' where
  bel := h.bel.trans hb
  keys := by
    obtain ⟨cs, e, r⟩ := h.keys
    refine ⟨cs, ho _ _ e (by simp) ?_, r⟩
    intro c fz e'
    cases e'
  bld := h1
theorem ESt.cell {w wr : World} {ks : List (List UInt8)} {acc : List UInt8} (h : ESt w wr ks acc) (j : Nat) (x : List UInt8) (hx : ks[j]? = some x) : wr.cell? ⟨w.heap.size + 1, j, none⟩ = some (.string ⟨x.toArray⟩) := by
  obtain ⟨cs, hb, hn, hc⟩ := h.keys
  obtain ⟨hj, e⟩ := List.getElem?_eq_some_iff.1 hx
  rw [cell_of_row wr _ j cs 9 (0, 0) hb, ← Array.getElem?_toList]
  have : (cs.toList.take ks.length)[j]? = cs.toList[j]? := by rw [List.getElem?_take, if_pos hj]
  rw [← this, hc, List.getElem?_map, hx]
  rfl
theorem ESt.byte {w wr : World} {ks : List (List UInt8)} {acc : List UInt8} (h : ESt w wr ks acc) (c : UInt8) (hl : acc.length ≤ 100000000000) :
    Calls Ybad.prog 22 #[.pointer (some ⟨w.heap.size, 0, none⟩), .int .u8 (c.toNat : Int)] wr fun e w' => e = .returned .nilIface ∧ ESt w w' ks (acc ++ [c]) := by
  refine (Ybad.bWriteByteK w.heap.size w.heap.size _ _ wr h.bld (by rw [Lib.byteCells_length]; omega) h.bel.size).mono ?_
  rintro e w' ⟨rfl, h1, h2, h3⟩
  refine ⟨rfl, h.wrote (.inr ?_) h2 h3⟩
  have e1 : Lib.byteCells (acc ++ [c]) = Lib.byteCells acc ++ [.int .u8 (c.toNat : Int)] := by simp [Lib.byteCells]
  rw [e1]
  exact h1
theorem ESt.amp {w wr : World} {ks : List (List UInt8)} {acc : List UInt8} (h : ESt w wr ks acc) (hl : acc.length ≤ 100000000000) :
    Calls Ybad.prog 22 #[.pointer (some ⟨w.heap.size, 0, none⟩), .int .u8 38] wr fun e w' => e = .returned .nilIface ∧ ESt w w' ks (acc ++ [38]) := by
  have := h.byte 38 hl
  rw [show (((38 : UInt8).toNat : Nat) : Int) = 38 from rfl] at this
  exact this
theorem ESt.eqs {w wr : World} {ks : List (List UInt8)} {acc : List UInt8} (h : ESt w wr ks acc) (hl : acc.length ≤ 100000000000) :
    Calls Ybad.prog 22 #[.pointer (some ⟨w.heap.size, 0, none⟩), .int .u8 61] wr fun e w' => e = .returned .nilIface ∧ ESt w w' ks (acc ++ [61]) := by
  have := h.byte 61 hl
  rw [show (((61 : UInt8).toNat : Nat) : Int) = 61 from rfl] at this
  exact this
theorem ESt.str {w wr : World} {ks : List (List UInt8)} {acc : List UInt8} (h : ESt w wr ks acc) (s : List UInt8) (hl : acc.length + s.length ≤ 100000000000) :
    Calls Ybad.prog 14 #[.pointer (some ⟨w.heap.size, 0, none⟩), .string ⟨s.toArray⟩] wr fun e w' => e = .returned (.tuple #[.int .i64 (s.length : Int), .nilIface]) ∧ ESt w w' ks (acc ++ s) := by
  refine (Ybad.bWriteStringK w.heap.size w.heap.size _ ⟨s.toArray⟩ wr h.bld (by rw [Lib.byteCells_length]; show acc.length + s.toArray.size ≤ _; simp; omega) h.bel.size).mono ?_
  rintro e w' ⟨rfl, h1, h2, h3⟩
  refine ⟨rfl, h.wrote (.inr ?_) h2 h3⟩
  have e1 : Lib.byteCells (acc ++ s) = Lib.byteCells acc ++ Lib.strCells ⟨s.toArray⟩ := by simp [Lib.byteCells, Lib.strCells]
  rw [e1]
  exact h1
theorem ESt.len {w wr : World} {ks : List (List UInt8)} {acc : List UInt8} (h : ESt w wr ks acc) :
    Calls Ybad.prog 21 #[.pointer (some ⟨w.heap.size, 0, none⟩)] wr fun e w' => e = .returned (.int .i64 (acc.length : Int)) ∧ w' = wr := by
  have := Ybad.bLenF w.heap.size w.heap.size _ wr h.bld
  rw [Lib.byteCells_length] at this
  exact this
theorem ESt.fin {w wr : World} {ks : List (List UInt8)} {acc : List UInt8} (h : ESt w wr ks acc) :
    Calls Ybad.prog 15 #[.pointer (some ⟨w.heap.size, 0, none⟩)] wr fun e w' => e = .returned (.string ⟨acc.toArray⟩) ∧ Below w.heap.size w w' := by
  refine (Ybad.bStringK w.heap.size w.heap.size acc wr h.bld h.bel.size).mono ?_
  rintro e w' ⟨rfl, _, h2, _⟩
  exact ⟨rfl, h.bel.trans h2⟩
theorem ESt.query {w wr : World} {ks : List (List UInt8)} {acc : List UInt8} (h : ESt w wr ks acc) (hT : TabIn w) (s : List UInt8) (hs : Safe 32 s) (hl : s.length ≤ 100000000) :
    Calls Ybad.prog 20 #[.string ⟨s.toArray⟩] wr fun e w' => e = .returned (.string ⟨s.toArray⟩) ∧ ESt w w' ks acc := by
  refine (query_safe ⟨s.toArray⟩ wr (hT.below h.bel) (by simpa using hs) (by show s.toArray.size ≤ _; simpa using hl)).mono ?_
  rintro e w' ⟨rfl, h2⟩
  exact ⟨rfl, h.below h2⟩
theorem key_safe (i : Nat) : Safe 32 (keyU i) := by
  unfold Safe keyU keyB
  split <;> decide
end Go.Proofs.YbulkdvnaDoor
