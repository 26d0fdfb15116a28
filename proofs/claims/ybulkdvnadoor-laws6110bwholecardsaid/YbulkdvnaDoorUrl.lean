import Derived.Test.YbulkdvnaDoorEsc
namespace Go.Proofs.YbulkdvnaDoor
open Go Go.RowKit

/-- the cells of a url.URL -/
abbrev urlC (sc ho pa fr rq : ByteArray) : Array Value := #[.string sc, .string ⟨#[]⟩, .pointer none, .string ho, .string pa, .string fr, .string rq, .string ⟨#[]⟩, .string ⟨#[]⟩, .bool false, .bool false]
def UrlAt (w : World) (b : Nat) (sc ho pa fr rq : ByteArray) : Prop := w.heap[b]? = some (.cells (urlC sc ho pa fr rq) 32 (0, 0))
theorem lt_of_block {w : World} {k : Nat} {o : Obj} (h : w.heap[k]? = some o) : k < w.heap.size := by
  rcases Nat.lt_or_ge k w.heap.size with h' | h'
  · exact h'
  · rw [Array.getElem?_eq_none h'] at h; cases h
theorem UrlAt.below {w w' : World} {b : Nat} {sc ho pa fr rq : ByteArray} (h : UrlAt w b sc ho pa fr rq) (hb : Below w.heap.size w w') : UrlAt w' b sc ho pa fr rq := (hb.block b (lt_of_block h)).trans h
theorem ok_star (pa : ByteArray) (h : Ok pa.data.toList) : (pa.toList == [42]) = false := by
  rw [beq_eq_false_iff_ne]
  intro e
  rw [ByteArray.toList_eq] at e
  have := h 42 (by rw [e]; simp)
  revert this
  decide

set_option maxHeartbeats 1000000 in
set_option maxRecDepth 100000 in
theorem escPath_any (b : Nat) (sc ho pa fr rq : ByteArray) (w : World) (hu : UrlAt w b sc ho pa fr rq) (hT : TabIn w) (hk : Ok pa.data.toList) (hl : pa.size ≤ 100000000) :
    Calls Ybad.prog 25 #[.pointer (some ⟨b, 0, none⟩)] w fun e w' => e = .returned (.string pa) ∧ Below w.heap.size w w' := by
  have HE : Hid _ := escape_safe pa 1 w hT (ok_safe1 _ hk) hl
  have c4 : w.cell? ⟨b, 4, none⟩ = some (.string pa) := (cell_of_row w b 4 _ 32 (0, 0) hu).trans rfl
  have c7 : w.cell? ⟨b, 7, none⟩ = some (.string ⟨#[]⟩) := (cell_of_row w b 7 _ 32 (0, 0) hu).trans rfl
  have hst := ok_star pa hk
  clear hu hT hk
  go_enter Ybad.func25, Ybad.ntmps25
  go_wp2_with fail
  go_at_call 30
  refine Calls.mono HE.out ?_
  rintro e w2 ⟨rfl, hb⟩
  go_wp2_with fail
  go_ret
  exact ⟨rfl, hb⟩

theorem UrlAt.path {w : World} {b : Nat} {sc ho pa fr rq : ByteArray} (h : UrlAt w b sc ho pa fr rq) (p : ByteArray) : UrlAt (w.setCell ⟨b, 4, none⟩ (.string p)) b sc ho p fr rq := (heap_setCell_same w b 4 _ 32 (.string p) h).trans rfl
theorem UrlAt.raw {w : World} {b : Nat} {sc ho pa fr rq : ByteArray} (h : UrlAt w b sc ho pa fr rq) : UrlAt (w.setCell ⟨b, 7, none⟩ (.string ⟨#[]⟩)) b sc ho pa fr rq := (heap_setCell_same w b 7 _ 32 (.string ⟨#[]⟩) h).trans rfl
theorem UrlAt.query {w : World} {b : Nat} {sc ho pa fr rq : ByteArray} (h : UrlAt w b sc ho pa fr rq) (q : ByteArray) : UrlAt (w.setCell ⟨b, 6, none⟩ (.string q)) b sc ho pa fr q := (heap_setCell_same w b 6 _ 32 (.string q) h).trans rfl
theorem UrlAt.cells {w : World} {b : Nat} {sc ho pa fr rq : ByteArray} (h : UrlAt w b sc ho pa fr rq) : w.cell? ⟨b, 4, none⟩ = some (.string pa) ∧ w.cell? ⟨b, 6, none⟩ = some (.string rq) ∧ w.cell? ⟨b, 7, none⟩ = some (.string ⟨#[]⟩) ∧ ∀ j, w.frozen? ⟨b, j, none⟩ = false :=
  ⟨(cell_of_row w b 4 _ 32 (0, 0) h).trans rfl, (cell_of_row w b 6 _ 32 (0, 0) h).trans rfl, (cell_of_row w b 7 _ 32 (0, 0) h).trans rfl, fun j => by unfold UrlAt at h; simp [World.frozen?, h]⟩

set_option maxHeartbeats 1000000 in
set_option maxRecDepth 100000 in
theorem setPath_any (B b : Nat) (sc ho pa fr rq p : ByteArray) (w : World) (hu : UrlAt w b sc ho pa fr rq) (hT : TabIn w) (hk : Ok p.data.toList) (hl : p.size ≤ 100000000) (hB : B ≤ b) (h1 : 1 ≠ b) :
    Calls Ybad.prog 27 #[.pointer (some ⟨b, 0, none⟩), .string p] w fun e w' => e = .returned .nilIface ∧ UrlAt w' b sc ho p fr rq ∧ Below B w w' := by
  have HUn : Hid _ := unescape_ok p w hk hl
  obtain ⟨c4, _, _, fz⟩ := hu.cells
  have f4 := fz 4
  have hbl := lt_of_block hu
  have hB4 : Below b w (w.setCell ⟨b, 4, none⟩ (.string p)) := (Below.refl b w).setCell (p := ⟨b, 4, none⟩) (Nat.le_refl _) _
  have hT4 : TabIn (w.setCell ⟨b, 4, none⟩ (.string p)) := fun c hc => by
    have e := heap_setCell_other w ⟨b, 4, none⟩ 1 (.string p) h1
    exact (World.cell?_of_block (a := ⟨1, c, none⟩) e).trans (hT c hc)
  have HE : Hid _ := escape_safe p 1 _ hT4 (ok_safe1 _ hk) hl
  have HU4 : Hid (UrlAt (w.setCell ⟨b, 4, none⟩ (.string p)) b sc ho p fr rq) := hu.path p
  have HB4 : Hid (Below B w (w.setCell ⟨b, 4, none⟩ (.string p))) := hB4.mono hB
  have hss : (p.toList == p.toList) = true := by simp
  clear hu hT hk hT4 hB4 fz
  go_enter Ybad.func27, Ybad.ntmps27
  go_wp2_with fail
  go_at_call 34
  refine Calls.mono HUn.out ?_
  rintro e w2 ⟨rfl, hw2⟩
  replace hw2 := hw2.symm
  subst hw2
  go_wp2_with fail
  go_at_call 30
  refine Calls.mono HE.out ?_
  rintro e w3 ⟨rfl, hb3⟩
  have hu3 := HU4.out.below hb3
  obtain ⟨_, _, d7, fz3⟩ := hu3.cells
  have f7 := fz3 7
  have HU5 : Hid (UrlAt (w3.setCell ⟨b, 7, none⟩ (.string ⟨#[]⟩)) b sc ho p fr rq) := hu3.raw
  have HB5 : Hid (Below B w (w3.setCell ⟨b, 7, none⟩ (.string ⟨#[]⟩))) := (HB4.out.trans (hb3.mono (by have := HB4.out.size; omega))).setCell hB _
  clear hu3 hb3 fz3
  go_wp2_with fail
  go_ret
  exact ⟨rfl, HU5.out, HB5.out⟩
end Go.Proofs.YbulkdvnaDoor
