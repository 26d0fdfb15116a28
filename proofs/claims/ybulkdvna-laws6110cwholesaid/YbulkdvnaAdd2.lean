import Derived.Test.YbulkdvnaAdd
namespace Go.Proofs.Ybulkdvna
open Go Go.RowKit

set_option maxHeartbeats 8000000 in
set_option maxRecDepth 100000 in
theorem add_big (base b : Nat) (D : List ByteArray) (few : List Value) (mb : Nat) (p : Option Addr) (n c : Nat) (s : ByteArray) (w : World) (hM : MB w base b D few mb D) (hr : RowOf w b (.slice p n c) s) (hD : 16 < D.length) (hD2 : D.length ≤ 5000) (hss : s.size ≤ 140737488355328) :
    Calls Yba.prog 5 #[.pointer (some ⟨b, 0, none⟩), .slice p n c] w fun e w' => e = .returned (.bool (!hasB D s)) ∧ AddPost w base b D few (.slice p n c) s w' := by
  have c17 := hM.cellM
  have c17a : (w.alloc (.cells #[] 32)).cell? ⟨b, 17, none⟩ = some (.map (some mb)) := (hM.alloc _).cellM
  have hlk := (hM.heap (w' := w.drew) rfl).look s hss
  have hlk2 := ((hM.alloc (.cells #[] 32)).heap (w' := (w.alloc (.cells #[] 32)).drew) rfl).look s hss
  have hcv5 := (hr.heap (w' := w.drew) rfl).conv
  have hS0 : Still b w (w.alloc (.cells #[] 32)) := (Still.heap rfl).alloc _
  have hcv7 := ((hr.keep hS0.cell).heap (w' := (w.alloc (.cells #[] 32)).drew) rfl).conv
  have hcv8 := ((hr.keep hS0.cell).heap (w' := (w.alloc (.cells #[] 32)).drew.drew) rfl).conv
  have hb0 : base ≤ w.heap.size := Nat.le_trans hM.at_base (Nat.le_of_lt hM.map.lt)
  have hB0 : Below base w (w.alloc (.cells #[] 32)) := (Below.refl base w).alloc hb0 _
  have q25 := eqm_some
  cases hb : hasB D s with
  | true =>
    rw [hb] at hlk hlk2
    have HP : Hid (AddPost w base b D few (.slice p n c) s (w.alloc (.cells #[] 32)).drew) :=
      ⟨few, .map (some mb), by rw [addD_old hb]; exact ((hM.alloc (.cells #[] 32)).heap (w' := (w.alloc (.cells #[] 32)).drew) rfl).to_MN hD, hB0.drew, hS0.trans (Still.heap rfl), (fun hf => by rw [hb] at hf; cases hf), fun _ _ h => .inl h⟩
    clear hM hr hS0 hB0 hb
    go_enter Yba.func5, Yba.ntmps5
    go_wp2_with fail
    go_region
    go_wp2_with fail
    all_goals
      go_ret
      exact ⟨rfl, HP.out⟩
  | false =>
    rw [hb] at hlk hlk2
    obtain ⟨w3, hup, hM3, hB3, hS3⟩ := ((hM.alloc (.cells #[] 32)).heap (w' := (w.alloc (.cells #[] 32)).drew.drew) rfl).put (by omega) s hss
    have HP : Hid (AddPost w base b D few (.slice p n c) s w3) := by
      refine ⟨few, .map (some mb), ?_, ?_, ?_, (fun _ hh => by omega), fun _ _ h => .inl h⟩
      · rw [addD_new hb]
        exact (hM3.grow (by omega) s).to_MN (by rw [List.length_append, List.length_singleton]; omega)
      · exact hB0.drew.drew.trans hB3
      · exact (hS0.trans (Still.heap rfl)).trans hS3
    clear hM hr hS0 hB0 hb hM3 hB3 hS3
    go_enter Yba.func5, Yba.ntmps5
    go_wp2_with fail
    go_region
    go_wp2_with fail
    all_goals
      go_region
      go_wp2_with fail
      go_ret
      exact ⟨rfl, HP.out⟩

theorem add_any (base b : Nat) (D : List ByteArray) (few : List Value) (mv : Value) (p : Option Addr) (n c : Nat) (s : ByteArray) (w : World) (hM : MN w base b D few mv) (hr : RowOf w b (.slice p n c) s) (hbb : base ≤ b) (hD : D.length ≤ 5000) (hDs : ∀ x ∈ D, x.size ≤ 140737488355328) (hss : s.size ≤ 140737488355328) :
    Calls Yba.prog 5 #[.pointer (some ⟨b, 0, none⟩), .slice p n c] w fun e w' => e = .returned (.bool (!hasB D s)) ∧ AddPost w base b D few (.slice p n c) s w' := by
  rcases Nat.lt_or_ge 16 D.length with h | h
  · obtain ⟨mb, rfl, _⟩ := hM.big h
    exact add_big base b D few mb p n c s w (MB.of_MN hM) hr h hD hss
  · exact add_small base b D few mv p n c s w hM hr h hbb hDs hss
end Go.Proofs.Ybulkdvna
