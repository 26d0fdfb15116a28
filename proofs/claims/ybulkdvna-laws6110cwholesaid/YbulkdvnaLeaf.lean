import Derived.Test.YbulkdvnaProg
import Derived.WalkKit
import Derived.Deep.QuietTactic
import Derived.BigQuiet
namespace Go.Proofs.Ybulkdvna
open Go Go.RowKit

/-- x is among l -/
def hasB (l : List ByteArray) (x : ByteArray) : Bool := l.any fun s => s.toList == x.toList

theorem hasB_take (l : List ByteArray) (k : Nat) (h : k < l.length) (x : ByteArray) : hasB (l.take (k + 1)) x = (hasB (l.take k) x || (l[k].toList == x.toList)) := by
  unfold hasB
  rw [List.take_succ_eq_append_getElem h, List.any_append]
  simp
theorem hasB_at (l : List ByteArray) (k : Nat) (h : k < l.length) (x : ByteArray) (e : (l[k].toList == x.toList) = true) : hasB l x = true := by
  unfold hasB
  rw [List.any_eq_true]
  exact ⟨l[k], List.getElem_mem h, e⟩
theorem ret_bool {a b : Bool} (h : a = b) : Ending.returned (.bool a) = .returned (.bool b) := by rw [h]

/-- a slice of strings, wherever it lies -/
def StrsIn (w : World) (p : Option Addr) (l : List ByteArray) : Prop :=
  0 < l.length → ∃ b o, p = some ⟨b, o, none⟩ ∧ ∀ j (h : j < l.length), w.cell? ⟨b, o + j, none⟩ = some (.string l[j])

/-! ### zzs6110cindex -/
set_option maxHeartbeats 400000 in
theorem index_empty (p : Option Addr) (c : Nat) (x : ByteArray) (w : World) :
    Calls Yba.prog 4 #[.slice p 0 c, .string x] w fun e w' => e = .returned (.int .i64 (-1)) ∧ w' = w := by
  go_enter Yba.func4, Yba.ntmps4
  go_wp2
  go_loop [5] (fun i => i = .int .i64 0) (fun _ => 0)
  case atStart => rfl
  case round =>
    subst hrel
    go_wp2
    go_ret
    exact ⟨rfl, rfl⟩

set_option maxHeartbeats 400000 in
theorem index_some (b off c : Nat) (l : List ByteArray) (x : ByteArray) (w : World) (hl : l.length ≤ 100000)
    (hc : ∀ j (h : j < l.length), w.cell? ⟨b, off + j, none⟩ = some (.string l[j])) :
    Calls Yba.prog 4 #[.slice (some ⟨b, off, none⟩) l.length c, .string x] w fun e w' => (∃ i : Int, e = .returned (.int .i64 i) ∧ decide (0 ≤ i) = hasB l x) ∧ w' = w := by
  go_enter Yba.func4, Yba.ntmps4
  go_wp2
  go_loop [5] (fun i => ∃ k : Nat, k ≤ l.length ∧ i = .int .i64 k ∧ hasB (l.take k) x = false) (fun i => l.length - (intOf i).toNat)
  case atStart => exact ⟨0, Nat.zero_le _, rfl, rfl⟩
  case round =>
    obtain ⟨k, hk, rfl, hne⟩ := hrel
    by_cases hlt : k < l.length
    · have hcell := hc k hlt
      have HS : Hid (hasB (l.take (k + 1)) x = (hasB (l.take k) x || (l[k].toList == x.toList))) := hasB_take l k hlt x
      have HN : Hid (hasB (l.take k) x = false) := hne
      have HT : Hid ((l[k].toList == x.toList) = true → hasB l x = true) := hasB_at l k hlt x
      clear hne hc
      go_wp2
      · go_ret
        exact ⟨⟨k, rfl, by rw [HT.out ‹_›]; exact decide_eq_true (by omega)⟩, rfl⟩
      · go_round
        case rel => exact ⟨k + 1, by omega, by go_num, by rw [HS.out, HN.out]; assumption⟩
        case measure => simp [intOf]; omega
    · have HN : Hid (hasB l x = false) := by rw [List.take_of_length_le (by omega)] at hne; exact hne
      clear hne hc
      go_wp2
      go_ret
      exact ⟨⟨-1, rfl, by rw [HN.out]; rfl⟩, rfl⟩

theorem index_any (p : Option Addr) (c : Nat) (l : List ByteArray) (x : ByteArray) (w : World) (hl : l.length ≤ 100000) (h : StrsIn w p l) :
    Calls Yba.prog 4 #[.slice p l.length c, .string x] w fun e w' => (∃ i : Int, e = .returned (.int .i64 i) ∧ decide (0 ≤ i) = hasB l x) ∧ w' = w := by
  rcases Nat.eq_zero_or_pos l.length with h0 | h0
  · obtain rfl := List.eq_nil_of_length_eq_zero h0
    exact (index_empty p c x w).mono fun e w' ⟨he, hw⟩ => ⟨⟨-1, he, rfl⟩, hw⟩
  · obtain ⟨b, o, rfl, hc⟩ := h h0
    exact index_some b o c l x w hl hc
end Go.Proofs.Ybulkdvna
