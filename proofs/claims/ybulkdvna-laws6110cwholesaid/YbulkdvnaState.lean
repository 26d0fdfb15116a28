import Derived.Test.YbulkdvnaLeaf
import Derived.Maps.OwnSet
import Derived.Deep.Heap
import Derived.Shelf.Bytes.SlEqualAll
namespace Go.Proofs.Ybulkdvna
open Go Go.RowKit
open Go.Maps (setOf)

theorem keyed9 : Maps.Keyed Yba.prog 9 := Maps.string_keyed Yba.underlying9

/-- the bytes of a string, as numbers -/
def nums (s : ByteArray) : List Int := s.data.toList.map fun b => (b.toNat : Int)
theorem nums_len (s : ByteArray) : (nums s).length = s.size := by unfold nums; rw [List.length_map, Array.length_toList]; rfl
theorem str_nums (s : ByteArray) : strOfNums (nums s) = s := by
  unfold strOfNums nums
  rw [List.map_map]
  have : ((fun n : Int => UInt8.ofNat n.toNat) ∘ fun b : UInt8 => (b.toNat : Int)) = id := by
    funext b
    simp
  rw [this, List.map_id]

/-- a slice whose bytes are those of s, in no cell of block b -/
def RowOf (w : World) (b : Nat) (v : Value) (s : ByteArray) : Prop :=
  ∃ p c, v = .slice p s.size c ∧ (0 < s.size → ∃ g o, p = some ⟨g, o, none⟩ ∧ g ≠ b ∧ ∀ i, i < s.size → w.cell? ⟨g, o + i, none⟩ = some (.int .u8 ((nums s).getD i 0)))

theorem RowOf.bytes {w : World} {b : Nat} {p : Option Addr} {n c : Nat} {s : ByteArray} (h : RowOf w b (.slice p n c) s) : n = s.size ∧ Lib.BytesIn w p n (nums s) := by
  obtain ⟨p', c', hv, h⟩ := h
  cases hv
  exact ⟨rfl, fun hn => by
    obtain ⟨g, o, rfl, _, hc⟩ := h hn
    exact ⟨g, o, rfl, hc⟩⟩
theorem RowOf.conv {w : World} {b : Nat} {p : Option Addr} {n c : Nat} {s : ByteArray} (h : RowOf w b (.slice p n c) s) : (convert 23 9 (.slice p n c)).run Yba.prog w = .ok (.string s) w := by
  obtain ⟨rfl, hb⟩ := h.bytes
  have := hb.convert (P := Yba.prog) (nums_len s) c 23 5 9 Yba.underlying23 Yba.underlying5 Yba.underlying9
  rwa [str_nums] at this
/-- nothing but block b, map blocks and new ones has turned -/
theorem RowOf.keep {w w' : World} {b : Nat} {v : Value} {s : ByteArray} (h : RowOf w b v s) (hk : ∀ g o, g ≠ b → (w.cell? ⟨g, o, none⟩).isSome → w'.cell? ⟨g, o, none⟩ = w.cell? ⟨g, o, none⟩) : RowOf w' b v s := by
  obtain ⟨p, c, hv, h⟩ := h
  refine ⟨p, c, hv, fun hn => ?_⟩
  obtain ⟨g, o, rfl, hg, hc⟩ := h hn
  exact ⟨g, o, rfl, hg, fun i hi => by rw [hk g (o + i) hg (by rw [hc i hi]; rfl)]; exact hc i hi⟩

/-- the datum of the set of names -/
def setD (D : List ByteArray) : DataW Unit := setOf (.agg []) (D.map fun s => Lit.string s.data.toList)

theorem setD_nil : setD [] = .map [] := rfl
theorem setD_snoc (D : List ByteArray) (s : ByteArray) : setD (D ++ [s]) = (setD D).put (.string s.data.toList) (.agg []) := by
  unfold setD
  rw [List.map_append, List.map_singleton, Maps.setOf_snoc]
theorem has_setD (D : List ByteArray) (s : ByteArray) : Maps.has (setD D) (.string s.data.toList) = hasB D s := by
  unfold setD hasB
  rw [Maps.has_setOf _ _ _ (fun y hy => by obtain ⟨_, _, rfl⟩ := List.mem_map.1 hy; trivial), List.any_map]
  congr 1
  funext x
  show (x.data.toList == s.data.toList) = (x.toList == s.toList)
  rw [Lib.toList_data, Lib.toList_data]

/-- the state of a memberNames in block b -/
structure MN (w : World) (base b : Nat) (D : List ByteArray) (few : List Value) (mv : Value) : Prop where
  blk : ∃ t, w.heap[b]? = some (.cells (few ++ [.int .i64 ((min D.length 16 : Nat) : Int), mv]).toArray t (0, 0))
  len : few.length = 16
  rows : ∀ j (h : j < D.length), j < 16 → ∃ v, few[j]? = some v ∧ RowOf w b v D[j]
  nils : ∀ j, D.length ≤ j → j < 16 → few[j]? = some (.slice none 0 0)
  small : D.length ≤ 16 → mv = .map none
  big : 16 < D.length → ∃ mb, mv = .map (some mb) ∧ mb ≠ b ∧ base ≤ mb ∧ w.ownsMap Yba.prog 9 (unitElem (H := Unit)) mb D.length (setD D)

theorem ownsMap_heap {w w' : World} {k : TypeId} {R : Value → Option (DataW Unit × List MemPlace)} {mb n : Nat} {D : DataW Unit} (h : w.ownsMap Yba.prog k R mb n D) (e : w'.heap[mb]? = w.heap[mb]?) : w'.ownsMap Yba.prog k R mb n D := by
  obtain ⟨es, clock, hb, r⟩ := h
  exact ⟨es, clock, by rw [e]; exact hb, r⟩
/-- a state that is seen in another world: its block, the rows, the map are as they were -/
theorem MN.seen {w w' : World} {base b : Nat} {D : List ByteArray} {few : List Value} {mv : Value} (h : MN w base b D few mv) (hb : w'.heap[b]? = w.heap[b]?)
    (hk : ∀ g o, g ≠ b → (w.cell? ⟨g, o, none⟩).isSome → w'.cell? ⟨g, o, none⟩ = w.cell? ⟨g, o, none⟩) (hm : ∀ (mb : Nat) es clk, w.heap[mb]? = some (Obj.map es clk) → w'.heap[mb]? = w.heap[mb]?) : MN w' base b D few mv where
  blk := by obtain ⟨t, e⟩ := h.blk; exact ⟨t, by rw [hb]; exact e⟩
  len := h.len
  rows := fun j hj h16 => by obtain ⟨v, e, r⟩ := h.rows j hj h16; exact ⟨v, e, r.keep hk⟩
  nils := h.nils
  small := h.small
  big := fun h16 => by
    obtain ⟨mb, e, h1, h2, h3⟩ := h.big h16
    refine ⟨mb, e, h1, h2, ownsMap_heap h3 ?_⟩
    obtain ⟨es, clk, hb, _⟩ := h3
    exact hm mb es clk hb
theorem MN.heap {w w' : World} {base b : Nat} {D : List ByteArray} {few : List Value} {mv : Value} (h : MN w base b D few mv) (e : w'.heap = w.heap) : MN w' base b D few mv :=
  h.seen (by rw [e]) (fun g o _ _ => World.cell?_of_block (a := ⟨g, o, none⟩) (by rw [e])) (fun _ _ _ _ => by rw [e])
theorem RowOf.heap {w w' : World} {b : Nat} {v : Value} {s : ByteArray} (h : RowOf w b v s) (e : w'.heap = w.heap) : RowOf w' b v s :=
  h.keep (fun g o _ _ => World.cell?_of_block (a := ⟨g, o, none⟩) (by rw [e]))
theorem MN.cellF {w : World} {base b : Nat} {D : List ByteArray} {few : List Value} {mv : Value} (h : MN w base b D few mv) (j : Nat) (hj : j < 16) : w.cell? ⟨b, j, none⟩ = few[j]? := by
  obtain ⟨t, hb⟩ := h.blk
  rw [cell_of_row w b j _ t (0, 0) hb, List.getElem?_toArray, List.getElem?_append_left (by rw [h.len]; exact hj)]
theorem MN.cellN {w : World} {base b : Nat} {D : List ByteArray} {few : List Value} {mv : Value} (h : MN w base b D few mv) : w.cell? ⟨b, 16, none⟩ = some (.int .i64 ((min D.length 16 : Nat) : Int)) := by
  obtain ⟨t, hb⟩ := h.blk
  rw [cell_of_row w b 16 _ t (0, 0) hb, List.getElem?_toArray, List.getElem?_append_right (by rw [h.len]; exact Nat.le_refl _), h.len]
  rfl
theorem MN.cellM {w : World} {base b : Nat} {D : List ByteArray} {few : List Value} {mv : Value} (h : MN w base b D few mv) : w.cell? ⟨b, 17, none⟩ = some mv := by
  obtain ⟨t, hb⟩ := h.blk
  rw [cell_of_row w b 17 _ t (0, 0) hb, List.getElem?_toArray, List.getElem?_append_right (by rw [h.len]; decide), h.len]
  rfl
theorem MN.thaw {w : World} {base b : Nat} {D : List ByteArray} {few : List Value} {mv : Value} (h : MN w base b D few mv) (j : Nat) : w.frozen? ⟨b, j, none⟩ = false := by
  obtain ⟨t, hb⟩ := h.blk
  simp [World.frozen?, hb]

/-- the list with s, if it was not on it -/
def addD (D : List ByteArray) (s : ByteArray) : List ByteArray := if hasB D s then D else D ++ [s]
theorem addD_old {D : List ByteArray} {s : ByteArray} (h : hasB D s = true) : addD D s = D := if_pos h
theorem addD_new {D : List ByteArray} {s : ByteArray} (h : hasB D s = false) : addD D s = D ++ [s] := if_neg (by rw [h]; exact Bool.false_ne_true)

/-- every block of cells but b is as it was -/
def Still (b : Nat) (w w' : World) : Prop := ∀ g cs t fr, g ≠ b → w.heap[g]? = some (Obj.cells cs t fr) → w'.heap[g]? = w.heap[g]?
theorem Still.cell {b : Nat} {w w' : World} (h : Still b w w') : ∀ g o, g ≠ b → (w.cell? ⟨g, o, none⟩).isSome → w'.cell? ⟨g, o, none⟩ = w.cell? ⟨g, o, none⟩ := fun g o hg hi => by
  cases hb : w.heap[g]? with
  | none => simp [World.cell?, hb] at hi
  | some ob =>
    cases ob with
    | cells cs t fr => exact World.cell?_of_block (a := ⟨g, o, none⟩) (h g cs t fr hg hb)
    | _ => simp [World.cell?, hb] at hi
theorem Still.heap {b : Nat} {w w' : World} (e : w'.heap = w.heap) : Still b w w' := fun g _ _ _ _ _ => by rw [e]
theorem Still.trans {b : Nat} {w w' w'' : World} (h : Still b w w') (k : Still b w' w'') : Still b w w'' := fun g cs t fr hg hb => by
  have h1 := h g cs t fr hg hb
  rw [k g cs t fr hg (by rw [h1]; exact hb), h1]
theorem Still.setCell {b : Nat} {w w' : World} (h : Still b w w') (j : Nat) (v : Value) : Still b w (w'.setCell ⟨b, j, none⟩ v) :=
  h.trans fun g _ _ _ hg _ => heap_setCell_other w' ⟨b, j, none⟩ g v hg
theorem Still.alloc {b : Nat} {w w' : World} (h : Still b w w') (o : Obj) : Still b w (w'.alloc o) :=
  h.trans fun g _ _ _ _ hb => Below.heap_alloc w' o g (by
    rcases Nat.lt_or_ge g w'.heap.size with h' | h'
    · exact h'
    · rw [Array.getElem?_eq_none h'] at hb; cases hb)
theorem Still.turned {b mb : Nat} {w w' w'' : World} (h : Still b w w') (k : w'.mapTurned w'' mb) : Still b w w'' :=
  h.trans fun g cs t fr _ hg => by
    obtain ⟨es, clk, es', clk', hb, rfl⟩ := k
    have hne : g ≠ mb := by
      rintro rfl
      rw [hb] at hg
      cases hg
    exact Go.ChangeMaps.heap_setBlock_other hb _ hne
theorem Still.below {b : Nat} {w w' : World} (h : Below w.heap.size w w') : Still b w w' := fun g _ _ _ _ hb => h.block g (by
  rcases Nat.lt_or_ge g w.heap.size with h' | h'
  · exact h'
  · rw [Array.getElem?_eq_none h'] at hb; cases hb)

/-- the state once the names are in a map -/
structure MB (w : World) (base b : Nat) (D : List ByteArray) (few : List Value) (mb : Nat) (M : List ByteArray) : Prop where
  blk : ∃ t, w.heap[b]? = some (.cells (few ++ [Value.int .i64 16, Value.map (some mb)]).toArray t (0, 0))
  len : few.length = 16
  rows : ∀ j (h : j < D.length), j < 16 → ∃ v, few[j]? = some v ∧ RowOf w b v D[j]
  ne : mb ≠ b
  at_base : base ≤ mb
  map : w.ownsMap Yba.prog 9 (unitElem (H := Unit)) mb M.length (setD M)

theorem MB.of_MN {w : World} {base b : Nat} {D : List ByteArray} {few : List Value} {mb : Nat} (h : MN w base b D few (.map (some mb))) : MB w base b D few mb D := by
  have hd : 16 < D.length := by
    rcases Nat.lt_or_ge 16 D.length with hh | hh
    · exact hh
    · have := h.small hh
      cases this
  obtain ⟨mb', e, h1, h2, h3⟩ := h.big hd
  cases e
  refine ⟨?_, h.len, h.rows, h1, h2, h3⟩
  obtain ⟨t, e⟩ := h.blk
  rw [Nat.min_eq_right (by omega)] at e
  exact ⟨t, e⟩
theorem MB.to_MN {w : World} {base b : Nat} {D : List ByteArray} {few : List Value} {mb : Nat} (h : MB w base b D few mb D) (hd : 16 < D.length) : MN w base b D few (.map (some mb)) where
  blk := by obtain ⟨t, e⟩ := h.blk; exact ⟨t, by rw [Nat.min_eq_right (by omega)]; exact e⟩
  len := h.len
  rows := h.rows
  nils := fun j h1 h2 => by omega
  small := fun hh => by omega
  big := fun _ => ⟨mb, rfl, h.ne, h.at_base, h.map⟩
theorem MB.cellM {w : World} {base b : Nat} {D : List ByteArray} {few : List Value} {mb : Nat} {M : List ByteArray} (h : MB w base b D few mb M) : w.cell? ⟨b, 17, none⟩ = some (.map (some mb)) := by
  obtain ⟨t, hb⟩ := h.blk
  rw [cell_of_row w b 17 _ t (0, 0) hb, List.getElem?_toArray, List.getElem?_append_right (by rw [h.len]; decide), h.len]
  rfl
theorem MB.cellF {w : World} {base b : Nat} {D : List ByteArray} {few : List Value} {mb : Nat} {M : List ByteArray} (h : MB w base b D few mb M) (j : Nat) (hj : j < 16) : w.cell? ⟨b, j, none⟩ = few[j]? := by
  obtain ⟨t, hb⟩ := h.blk
  rw [cell_of_row w b j _ t (0, 0) hb, List.getElem?_toArray, List.getElem?_append_left (by rw [h.len]; exact hj)]
/-- few is full: a new map, empty, in its field -/
theorem MN.toMB {w : World} {base b : Nat} {D : List ByteArray} {few : List Value} (h : MN w base b D few (.map none)) (h16 : D.length = 16) (hb : base ≤ w.heap.size) (hbl : b < w.heap.size) :
    MB ((w.setCell ⟨b, 17, none⟩ (.map (some w.heap.size))).alloc (.map #[] 0)) base b D few w.heap.size [] := by
  have hsz : (w.setCell ⟨b, 17, none⟩ (.map (some w.heap.size))).heap.size = w.heap.size := Go.Deep.nblk_setCell _ _ _
  obtain ⟨t, e⟩ := h.blk
  have e1 := heap_setCell_same w b 17 _ t (.map (some w.heap.size)) e
  have hS : Still b w ((w.setCell ⟨b, 17, none⟩ (.map (some w.heap.size))).alloc (.map #[] 0)) := ((Still.heap rfl).setCell _ _).alloc _
  refine ⟨⟨t, ?_⟩, h.len, fun j hj hj16 => ?_, by omega, hb, ?_⟩
  · rw [Below.heap_alloc _ _ b (by rw [hsz]; exact hbl), e1, List.setIfInBounds_toArray, List.set_append_right 17 _ (by rw [h.len]; decide), h.len, h16]
    rfl
  · obtain ⟨v, ev, r⟩ := h.rows j hj hj16
    exact ⟨v, ev, r.keep hS.cell⟩
  · have := World.ownsMap_made (w.setCell ⟨b, 17, none⟩ (.map (some w.heap.size))) Yba.prog 9 (unitElem (H := Unit))
    rw [hsz] at this
    exact this
/-- seen in another world in which only the map has turned -/
theorem MB.next {w w' : World} {base b : Nat} {D : List ByteArray} {few : List Value} {mb : Nat} {M M' : List ByteArray} (h : MB w base b D few mb M) (hb : w'.heap[b]? = w.heap[b]?) (hs : Still b w w')
    (hm : w'.ownsMap Yba.prog 9 (unitElem (H := Unit)) mb M'.length (setD M')) : MB w' base b D few mb M' where
  blk := by obtain ⟨t, e⟩ := h.blk; exact ⟨t, by rw [hb]; exact e⟩
  len := h.len
  rows := fun j hj h16 => by obtain ⟨v, e, r⟩ := h.rows j hj h16; exact ⟨v, e, r.keep hs.cell⟩
  ne := h.ne
  at_base := h.at_base
  map := hm

theorem zero32 (w : World) : (zeroValue 32).run Yba.prog w = .ok (.agg #[]) w := by kernel_rfl
/-- m.many[s] = struct{}{} -/
theorem MB.put {w : World} {base b : Nat} {D : List ByteArray} {few : List Value} {mb : Nat} {M : List ByteArray} (h : MB w base b D few mb M) (hn : M.length < 100000) (s : ByteArray) (hs : s.size ≤ 140737488355328) :
    ∃ w1, (Instr.mapUpdate 25 (.map (some mb)) (.string s) (.agg #[])).run Yba.prog w = .ok () w1 ∧ MB w1 base b D few mb (M ++ [s]) ∧ Below base w w1 ∧ Still b w w1 := by
  obtain ⟨w1, hr, ho, ht⟩ := h.map.store keyed9 Yba.underlying25 (by unfold maxLen; omega) (Go.WideMaps.keyOf_string_mk (s := s) Yba.underlying9 (by unfold maxLen; omega)) (unitElem_mk (H := Unit))
  have hS : Still b w w1 := (Still.heap rfl).turned ht
  have hB : Below base w w1 := (Below.refl base w).grown ht.grown (Nat.le_trans h.at_base (Nat.le_of_lt h.map.lt)) (fun k hk => by cases hk; exact h.at_base)
  have hb : w1.heap[b]? = w.heap[b]? := by
    obtain ⟨es, clk, es', clk', hb, rfl⟩ := ht
    exact Go.ChangeMaps.heap_setBlock_other hb _ (Ne.symm h.ne)
  refine ⟨w1, hr, h.next hb hS ?_, hB, hS⟩
  rw [setD_snoc, List.length_append, List.length_singleton]
  exact ho
/-- _, ok := m.many[s] -/
theorem MB.look {w : World} {base b : Nat} {D : List ByteArray} {few : List Value} {mb : Nat} {M : List ByteArray} (h : MB w base b D few mb M) (s : ByteArray) (hs : s.size ≤ 140737488355328) :
    (Instr.lookup 25 (.map (some mb)) (.string s) true).run Yba.prog w = .ok (.tuple #[.agg #[], .bool (hasB M s)]) w := by
  obtain ⟨v, ps, hr, hv⟩ := h.map.look_ok keyed9 Yba.underlying25 (zero32 w) (unitElem_mk (H := Unit)) (Go.WideMaps.keyOf_string_mk (s := s) Yba.underlying9 (by unfold maxLen; omega))
  obtain ⟨rfl, _⟩ := unitElem_inv hv
  rw [has_setD] at hr
  exact hr
theorem MB.heap {w w' : World} {base b : Nat} {D : List ByteArray} {few : List Value} {mb : Nat} {M : List ByteArray} (h : MB w base b D few mb M) (e : w'.heap = w.heap) : MB w' base b D few mb M :=
  h.next (by rw [e]) (Still.heap e) (ownsMap_heap h.map (by rw [e]))

theorem MB.grow {w : World} {base b : Nat} {D : List ByteArray} {few : List Value} {mb : Nat} {M : List ByteArray} (h : MB w base b D few mb M) (h16 : 16 ≤ D.length) (s : ByteArray) : MB w base b (D ++ [s]) few mb M where
  blk := h.blk
  len := h.len
  rows := fun j _ hj16 => by
    obtain ⟨v, e, r⟩ := h.rows j (by omega) hj16
    exact ⟨v, e, by rw [List.getElem_append_left (by omega)]; exact r⟩
  ne := h.ne
  at_base := h.at_base
  map := h.map
theorem MB.alloc {w : World} {base b : Nat} {D : List ByteArray} {few : List Value} {mb : Nat} {M : List ByteArray} (h : MB w base b D few mb M) (o : Obj) : MB (w.alloc o) base b D few mb M :=
  h.next (Below.heap_alloc w o b (World.block_lt_of_cell? _ _ h.cellM)) ((Still.heap rfl).alloc o) (h.map.alloc o)

/-- what a call of add leaves -/
def AddPost (w : World) (base b : Nat) (D : List ByteArray) (few : List Value) (v : Value) (s : ByteArray) (w' : World) : Prop :=
  ∃ few' mv', MN w' base b (addD D s) few' mv' ∧ Below base w w' ∧ Still b w w' ∧ (hasB D s = false → D.length < 16 → few'[D.length]? = some v) ∧ ∀ (j : Nat) u, few'[j]? = some u → few[j]? = some u ∨ u = v

/-- a new name, while there is room -/
theorem MN.push {w w' : World} {base b : Nat} {D : List ByteArray} {few : List Value} {v : Value} {s : ByteArray} (h : MN w base b D few (.map none)) (hr : RowOf w b v s) (h16 : D.length < 16)
    (hw : w'.heap = ((w.setCell ⟨b, D.length, none⟩ v).setCell ⟨b, 16, none⟩ (.int .i64 ((D.length : Int) + 1))).heap) : MN w' base b (D ++ [s]) (few.set D.length v) (.map none) := by
  obtain ⟨t, hb⟩ := h.blk
  have hb1 := heap_setCell_same w b D.length _ t v hb
  have hb2 := heap_setCell_same _ b 16 _ t (.int .i64 ((D.length : Int) + 1)) hb1
  have hS : Still b w w' := (((Still.heap rfl).setCell _ _).setCell _ _).trans (Still.heap hw)
  refine ⟨⟨t, ?_⟩, by rw [List.length_set]; exact h.len, fun j hj hj16 => ?_, fun j hj hj16 => ?_, fun _ => rfl, fun hh => ?_⟩
  · rw [hw, hb2]
    have hl := h.len
    rw [List.setIfInBounds_toArray, List.setIfInBounds_toArray, List.set_append_left D.length v (by rw [hl]; exact h16), List.set_append_right 16 _ (by rw [List.length_set, hl]; exact Nat.le_refl _), List.length_set, hl, List.length_append, List.length_singleton, Nat.min_eq_left (by omega : D.length + 1 ≤ 16)]
    rfl
  · rcases Nat.lt_or_ge j D.length with hlt | hge
    · obtain ⟨u, e, r⟩ := h.rows j hlt hj16
      exact ⟨u, by rw [List.getElem?_set_ne (by omega)]; exact e, by rw [List.getElem_append_left hlt]; exact r.keep hS.cell⟩
    · obtain rfl : j = D.length := by simp at hj; omega
      exact ⟨v, by rw [List.getElem?_set_self (by rw [h.len]; exact h16)], by rw [List.getElem_append_right (Nat.le_refl _)]; simpa using hr.keep hS.cell⟩
  · simp at hj
    rw [List.getElem?_set_ne (by omega)]
    exact h.nils j (by omega) hj16
  · simp at hh
    omega
end Go.Proofs.Ybulkdvna
