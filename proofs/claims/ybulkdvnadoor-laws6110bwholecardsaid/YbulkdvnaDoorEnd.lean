import Derived.Test.YbulkdvnaDoorEnc
namespace Go.Proofs.YbulkdvnaDoor
open Go Go.RowKit

/-- Encode at the query q, wherever it is called behind w -/
def EncC (w : World) (q : Value) (rq : ByteArray) : Prop := ∀ w2, Below w.heap.size w w2 → Calls Ybad.prog 12 #[q] w2 fun e w' => e = .returned (.string rq) ∧ Below w2.heap.size w2 w'
theorem enc_nil (w : World) : EncC w (.map none) ⟨#[]⟩ := fun w2 _ => by
  have hmlen : ∀ w : World, (Builtin.len_ #[34] 3 #[.map none]).run Ybad.prog w = .ok (.int .i64 0) w := fun w => Maps.len_nil Ybad.underlying34 3
  go_enter Ybad.func12, Ybad.ntmps12
  go_wp2_with fail
  go_ret
  exact ⟨rfl, Below.refl _ _⟩
theorem enc_some (w : World) (base mb n : Nat) (D : DataW Unit) (V : Nat → Value) (Q : Nat → List (List UInt8)) (hq : QM w base mb n D V Q) (hT : TabIn w) (hn : Maps.size D ≤ 1000000) (hv : ∀ i, i < 3 → ∀ x ∈ Q i, Ok0 x ∧ x.length ≤ 100000000) (hlen : (encL Q).length ≤ 50000000000) (hcnt : ∀ i, i < 3 → (Q i).length ≤ 1000000) :
    EncC w (.map (some mb)) ⟨(encL Q).toArray⟩ := fun w2 h2 => enc_any w2 base mb n D V Q (hq.below h2) (hT.below h2) hn hv hlen hcnt

set_option maxHeartbeats 2000000 in
set_option maxRecDepth 100000 in
theorem end_any (b : Nat) (sc ho pa fr rq p rq' : ByteArray) (q : Value) (w : World) (hu : UrlAt w b sc ho pa fr rq) (hT : TabIn w) (hk : Ok pa.data.toList) (hk2 : Ok p.data.toList) (hl : pa.size ≤ 1000000) (hl2 : p.size ≤ 1000000) (hE : EncC w q rq') :
    Calls Ybad.prog 6 #[.pointer (some ⟨b, 0, none⟩), .string p, q] w (JoinPost w sc ho fr rq' (mpath pa.data.toList p.data.toList) fun v => v) := by
  have hba : Below w.heap.size w (w.alloc (.cells #[.string p] 9)) := (Below.refl _ w).alloc (Nat.le_refl _) _
  have HJ := joinPathTop_any b w.heap.size sc ho pa fr rq p (w.alloc (.cells #[.string p] 9)) (hu.below hba) ((cell_of_row _ _ _ _ 9 (0, 0) (heap_alloc_new w _)).trans rfl) (hT.below hba) hk hk2 hl hl2
  have HE : Hid (EncC w q rq') := hE
  clear hu hT hk hk2 hE
  go_enter Ybad.func6, Ybad.ntmps6
  go_wp2_with fail
  go_at_call 11
  refine Calls.mono HJ ?_
  rintro e w2 ⟨b2, rfl, hb2, hu2, hB2⟩
  have hB : Below w.heap.size w w2 := hba.trans (hB2.mono hba.size)
  have HC := HE.out w2 hB
  clear HJ
  go_wp2_with fail
  go_at_call 12
  refine Calls.mono HC ?_
  rintro e w3 ⟨rfl, hB3⟩
  have hu3 := hu2.below hB3
  obtain ⟨h4, h6, h7, hf⟩ := hu3.cells
  have hf6 := hf 6
  have HU : Hid (UrlAt (w3.setCell ⟨b2, 6, none⟩ (.string rq')) b2 sc ho ⟨(mpath pa.data.toList p.data.toList).toArray⟩ fr rq') := hu3.query rq'
  have hb2' : w.heap.size ≤ b2 := Nat.le_trans hba.size hb2
  have HB : Hid (Below w.heap.size w (w3.setCell ⟨b2, 6, none⟩ (.string rq'))) := (hB.trans (hB3.mono hB.size)).setCell (p := ⟨b2, 6, none⟩) hb2' _
  clear HC hu2 hu3 hB2 hB3 hB hf h4 h7
  go_wp2_with fail
  go_ret
  exact ⟨b2, rfl, hb2', HU.out, HB.out⟩
end Go.Proofs.YbulkdvnaDoor
