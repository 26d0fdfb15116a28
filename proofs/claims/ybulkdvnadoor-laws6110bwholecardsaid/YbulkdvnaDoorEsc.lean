import Derived.Test.YbulkdvnaDoorPcs
import Derived.Handy
import Derived.Lib.ConvBytes
namespace Go.Proofs.YbulkdvnaDoor
open Go Go.RowKit

/-- net/url.table as the row lists it -/
def tab : List Int := [0, 0, 0, 0, 0, 0, 0, 0, 0, 0, 0, 0, 0, 0, 0, 0, 0, 0, 0, 0, 0, 0, 0, 0, 0, 0, 0, 0, 0, 0, 0, 0, 0, 76, 12, 0, 95, 0, 95, 12, 76, 76, 76, 95, 93, 127, 127, 65, 255, 255, 255, 255, 255, 255, 255, 255, 255, 255, 79, 93, 12, 95, 12, 64, 67, 255, 255, 255, 255, 255, 255, 127, 127, 127, 127, 127, 127, 127, 127, 127, 127, 127, 127, 127, 127, 127, 127, 127, 127, 127, 127, 12, 0, 12, 0, 127, 0, 255, 255, 255, 255, 255, 255, 127, 127, 127, 127, 127, 127, 127, 127, 127, 127, 127, 127, 127, 127, 127, 127, 127, 127, 127, 127, 0, 0, 0, 127, 0, 0, 0, 0, 0, 0, 0, 0, 0, 0, 0, 0, 0, 0, 0, 0, 0, 0, 0, 0, 0, 0, 0, 0, 0, 0, 0, 0, 0, 0, 0, 0, 0, 0, 0, 0, 0, 0, 0, 0, 0, 0, 0, 0, 0, 0, 0, 0, 0, 0, 0, 0, 0, 0, 0, 0, 0, 0, 0, 0, 0, 0, 0, 0, 0, 0, 0, 0, 0, 0, 0, 0, 0, 0, 0, 0, 0, 0, 0, 0, 0, 0, 0, 0, 0, 0, 0, 0, 0, 0, 0, 0, 0, 0, 0, 0, 0, 0, 0, 0, 0, 0, 0, 0, 0, 0, 0, 0, 0, 0, 0, 0, 0, 0, 0, 0, 0, 0, 0, 0, 0, 0, 0, 0, 0, 0, 0, 0, 0]
def TabIn (w : World) : Prop := ∀ c, c < 256 → w.cell? ⟨1, c, none⟩ = some (.int .u8 (tab.getD c 0))
theorem TabIn.below {w w' : World} (h : TabIn w) (hb : Below w.heap.size w w') : TabIn w' := fun c hc => (hb.cell (World.block_lt_of_cell? _ _ (h c hc))).trans (h c hc)
theorem TabIn.heap {w w' : World} (h : TabIn w) (e : w'.heap = w.heap) : TabIn w' := fun c hc => (World.cell?_of_block (a := ⟨1, c, none⟩) (by rw [e])).trans (h c hc)
/-- no byte of l is escaped in this mode -/
def Safe (mode : Int) (l : List UInt8) : Prop := ∀ c ∈ l, (bits BinOp.and IntKind.u8 (tab.getD c.toNat 0) mode == 0) = false

set_option maxHeartbeats 400000 in
theorem se_any (c : UInt8) (mode : Int) (w : World) (hT : TabIn w) : Calls Ybad.prog 47 #[.int .u8 (c.toNat : Int), .int .u8 mode] w fun e w' => e = .returned (.bool (bits BinOp.and IntKind.u8 (tab.getD c.toNat 0) mode == 0)) ∧ w' = w := by
  have hc := c.toNat_lt
  have h1 := hT c.toNat hc
  generalize tab.getD c.toNat 0 = x at *
  generalize c.toNat = n at *
  have hn : (n : Int) < 256 := by omega
  go_enter Ybad.func47, Ybad.ntmps47
  go_wp2
  go_ret
  exact ⟨rfl, rfl⟩
/-- []byte(s) -/
theorem conv_bytes (w : World) (s : ByteArray) : ∃ cap W1, (convert 9 39 (.string s)).run Ybad.prog w = .ok (.slice (some ⟨w.heap.size, 0, none⟩) s.size cap) W1 ∧ Below w.heap.size w W1 ∧ ∀ j (h : j < s.size), W1.cell? ⟨w.heap.size, j, none⟩ = some (.int .u8 (s[j].toNat : Int)) :=
  ⟨_, _, Lib.run_convert_string_bytes w 9 39 5 s Ybad.underlying9 Ybad.underlying39 Ybad.underlying5, ⟨rfl, rfl, rfl, by rw [Lib.bytesWorld_size]; omega, fun k hk => Lib.bytesWorld_at_old w 5 s k hk⟩, fun j hj => by
    rw [Lib.bytesWorld_cell w 5 s j hj]
    have : s.data.toList.getD j 0 = s[j] := by
      rw [List.getD_eq_getElem?_getD, List.getElem?_eq_getElem (by simpa using hj)]
      rfl
    rw [this]⟩
theorem mem_at (s : ByteArray) (k : Nat) (h : k < s.size) : s[k] ∈ s.data.toList := by
  have : s.data.toList[k]'(by simpa using h) = s[k] := rfl
  rw [← this]
  exact List.getElem_mem _

set_option maxHeartbeats 1000000 in
set_option maxRecDepth 100000 in
theorem escape_safe (s : ByteArray) (mode : Int) (w : World) (hT : TabIn w) (hs : Safe mode s.data.toList) (hl : s.size ≤ 100000000) : Calls Ybad.prog 30 #[.string s, .int .u8 mode] w fun e w' => e = .returned (.string s) ∧ Below w.heap.size w w' := by
  obtain ⟨cap, W1, hcv, hb, hc⟩ := conv_bytes w s
  have HT : Hid (TabIn W1) := hT.below hb
  have HS : Hid (Safe mode s.data.toList) := hs
  have HB : Hid (Below w.heap.size w W1) := hb
  have HC : Hid (∀ j (h : j < s.size), W1.cell? ⟨w.heap.size, j, none⟩ = some (.int .u8 (s[j].toNat : Int))) := hc
  clear hT hs hb hc
  go_enter Ybad.func30, Ybad.ntmps30
  go_wp2_with fail
  go_loop [5, 6, 8, 19] (fun a b _ iv => a = .int .i64 0 ∧ b = .int .i64 0 ∧ ∃ k : Nat, k ≤ s.size ∧ iv = .int .i64 (k : Int)) (fun _ _ _ iv => s.size - (intOf iv).toNat)
  case atStart => exact ⟨rfl, rfl, 0, Nat.zero_le _, rfl⟩
  case round =>
    obtain ⟨rfl, rfl, k, hk, rfl⟩ := hrel
    by_cases hlt : k < s.size
    · have hck := HC.out k hlt
      have hsf := HS.out s[k] (mem_at s k hlt)
      have HSe : Hid (Calls Ybad.prog 47 #[.int .u8 (s[k].toNat : Int), .int .u8 mode] W1 fun e w' => e = .returned (.bool false) ∧ w' = W1) := by
        have := se_any s[k] mode W1 HT.out
        rwa [hsf] at this
      clear hsf
      go_wp2_with fail
      go_at_call 47
      refine Calls.mono HSe.out ?_
      rintro e w2 ⟨rfl, hw2⟩
      replace hw2 := hw2.symm
      subst hw2
      go_wp2_with fail
      exact ⟨⟨rfl, rfl, k + 1, by omega, by go_num⟩, by simp [intOf]; omega⟩
    · obtain rfl : k = s.size := by omega
      go_wp2_with fail
      go_ret
      exact ⟨rfl, HB.out⟩

theorem ok_not (l : List UInt8) (h : Ok l) : ∀ c ∈ l, ((c.toNat : Int) == 37) = false ∧ ((c.toNat : Int) == 43) = false := fun c hc => by
  rcases h c hc with rfl | rfl | rfl | rfl | rfl <;> exact ⟨rfl, rfl⟩
theorem ok_safe1 (l : List UInt8) (h : Ok l) : Safe 1 l := fun c hc => by
  rcases h c hc with rfl | rfl | rfl | rfl | rfl <;> decide
theorem ok_safe32 (l : List UInt8) (h : Ok0 l) : Safe 32 l := fun c hc => by
  rcases h c hc with rfl | rfl | rfl | rfl <;> decide

set_option maxHeartbeats 2000000 in
set_option maxRecDepth 100000 in
theorem unescape_ok (s : ByteArray) (w : World) (h : Ok s.data.toList) (hl : s.size ≤ 100000000) : Calls Ybad.prog 34 #[.string s, .int .u8 1] w fun e w' => e = .returned (.tuple #[.string s, .nilIface]) ∧ w' = w := by
  have HK : Hid (∀ c ∈ s.data.toList, ((c.toNat : Int) == 37) = false ∧ ((c.toNat : Int) == 43) = false) := ok_not _ h
  clear h
  go_enter Ybad.func34, Ybad.ntmps34
  go_wp2_with fail
  go_loop [0, 6, 7, 8] (fun sv a b iv => sv = .string s ∧ a = .int .i64 0 ∧ b = .bool false ∧ ∃ k : Nat, k ≤ s.size ∧ iv = .int .i64 (k : Int)) (fun _ _ _ iv => s.size - (intOf iv).toNat)
  case atStart => exact ⟨rfl, rfl, rfl, 0, Nat.zero_le _, rfl⟩
  case round =>
    obtain ⟨rfl, rfl, rfl, k, hk, rfl⟩ := hrel
    by_cases hlt : k < s.size
    · obtain ⟨h37, h43⟩ := HK.out s[k] (mem_at s k hlt)
      go_wp2_with fail
      exact ⟨⟨rfl, rfl, rfl, k + 1, by omega, by go_num⟩, by simp [intOf]; omega⟩
    · obtain rfl : k = s.size := by omega
      go_wp2_with fail
      go_ret2
      exact ⟨rfl, rfl⟩

theorem query_safe (s : ByteArray) (w : World) (hT : TabIn w) (hs : Safe 32 s.data.toList) (hl : s.size ≤ 100000000) : Calls Ybad.prog 20 #[.string s] w fun e w' => e = .returned (.string s) ∧ Below w.heap.size w w' := by
  have HE := escape_safe s 32 w hT hs hl
  go_enter Ybad.func20, Ybad.ntmps20
  go_wp2_with fail
  go_at_call 30
  refine Calls.mono HE ?_
  rintro e w2 ⟨rfl, hb⟩
  go_wp2_with fail
  go_ret
  exact ⟨rfl, hb⟩
end Go.Proofs.YbulkdvnaDoor
