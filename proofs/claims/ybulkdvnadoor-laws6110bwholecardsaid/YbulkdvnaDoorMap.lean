import Derived.Test.YbulkdvnaDoorProg
import Derived.WalkKit
import Derived.Deep.QuietTactic
import Derived.BigQuiet
import Derived.Deep.CutRange
import Derived.OrdersHeld
import Derived.Deep.Heap
import Derived.Deep.OwnRows
import Derived.Laws.CopyOwn
import Derived.Shelf.Bytes.SlEqualAll
namespace Go.Proofs.YbulkdvnaDoor
open Go Go.RowKit

def intOf : Value → Int | .int _ q => q | _ => 0
/-- the sign of a byte: one of "ab0-" -/
def sign (b : UInt8) : UInt8 := [97, 98, 48, 45].getD (b.toNat % 4) 0
/-- zzs6110bmap -/
def mapB (s : ByteArray) : ByteArray := ⟨(s.data.toList.map sign).toArray⟩
theorem mapB_size (s : ByteArray) : (mapB s).size = s.size := by
  unfold mapB ByteArray.size
  simp

def nums (s : ByteArray) : List Int := s.data.toList.map fun b => (b.toNat : Int)
theorem nums_len (s : ByteArray) : (nums s).length = s.size := by unfold nums; rw [List.length_map, Array.length_toList]; rfl
theorem str_nums (s : ByteArray) : strOfNums (nums s) = s := by
  unfold strOfNums nums
  rw [List.map_map]
  have : ((fun n : Int => UInt8.ofNat n.toNat) ∘ fun b : UInt8 => (b.toNat : Int)) = id := by
    funext b
    simp
  rw [this, List.map_id]
def vals (xs : List Int) : List Value := xs.map (Value.int .u8)
theorem vals_get (xs : List Int) (j : Nat) (h : j < xs.length) : (vals xs)[j]? = some (.int .u8 (xs.getD j 0)) := by
  unfold vals
  rw [List.getElem?_map, List.getD_eq_getElem?_getD, List.getElem?_eq_getElem h]
  rfl
theorem vals_len (xs : List Int) : (vals xs).length = xs.length := List.length_map ..
theorem i5 : (Ybad.prog.info? 5).map (fun i => (i.zero, i.size, i.bytes)) = some (some (.int .u8 0), 1, 1) := by kernel_rfl
theorem i5' : ∃ i, Ybad.prog.info? 5 = some i ∧ i.zero = some (.int .u8 0) ∧ i.size = 1 ∧ i.bytes = 1 := by
  obtain ⟨i, hi, hh⟩ := Option.map_eq_some_iff.1 i5
  simp only [Prod.mk.injEq] at hh
  exact ⟨i, hi, hh⟩

/-- a row of n bytes of the call's own; the first k are those of f -/
def Filled (w : World) (g n k : Nat) (f : List Int) : Prop := ∃ cs, w.heap[g]? = some (.cells cs 5 (0, 0)) ∧ cs.size = n ∧ ∀ j, j < k → cs[j]? = some (.int .u8 (f.getD j 0))
theorem Filled.cell {w : World} {g n k : Nat} {f : List Int} (h : Filled w g n k f) (j : Nat) (hj : j < n) : (∃ v, w.cell? ⟨g, j, none⟩ = some v) ∧ w.frozen? ⟨g, j, none⟩ = false := by
  obtain ⟨cs, hb, hn, _⟩ := h
  refine ⟨⟨cs[j]'(by omega), ?_⟩, by simp [World.frozen?, hb]⟩
  rw [cell_of_row w g j cs 5 (0, 0) hb, Array.getElem?_eq_getElem]
theorem Filled.set {w : World} {g n k : Nat} {f : List Int} (h : Filled w g n k f) (hk : k < n) : Filled (w.setCell ⟨g, k, none⟩ (.int .u8 (f.getD k 0))) g n (k + 1) f := by
  obtain ⟨cs, hb, hn, hc⟩ := h
  refine ⟨cs.setIfInBounds k (.int .u8 (f.getD k 0)), heap_setCell_same w g k _ 5 _ hb, by simp [hn], fun j hj => ?_⟩
  by_cases hjk : j = k
  · subst hjk
    rw [Array.getElem?_setIfInBounds_self_of_lt (by omega)]
  · rw [Array.getElem?_setIfInBounds_ne (by omega)]
    exact hc j (by omega)
theorem Filled.conv {w : World} {g n : Nat} {s : ByteArray} (h : Filled w g n n (nums s)) (hs : s.size = n) : (convert 39 9 (.slice (some ⟨g, 0, none⟩) n n)).run Ybad.prog w = .ok (.string s) w := by
  obtain ⟨cs, hb, hn, hc⟩ := h
  have hB : Lib.BytesIn w (some ⟨g, 0, none⟩) n (nums s) := fun _ => ⟨g, 0, rfl, fun i hi => by rw [Nat.zero_add, cell_of_row w g i cs 5 (0, 0) hb]; exact hc i hi⟩
  have := hB.convert (P := Ybad.prog) (by rw [nums_len, hs]) n 39 5 9 Ybad.underlying39 Ybad.underlying5 Ybad.underlying9
  rwa [str_nums] at this

theorem sign_at (b : UInt8) (h : b.toNat % 4 < ({ data := #[97, 98, 48, 45] } : ByteArray).size) : ({ data := #[97, 98, 48, 45] } : ByteArray)[b.toNat % 4] = sign b := by
  unfold sign
  have h4 : b.toNat % 4 < 4 := Nat.mod_lt _ (by decide)
  generalize b.toNat % 4 = m at *
  have : m = 0 ∨ m = 1 ∨ m = 2 ∨ m = 3 := by omega
  rcases this with rfl | rfl | rfl | rfl <;> rfl
theorem mapB_at (s : ByteArray) (k : Nat) (h : k < s.size) : (nums (mapB s)).getD k 0 = ((sign s[k]).toNat : Int) := by
  unfold nums mapB
  rw [List.map_map, List.getD_eq_getElem?_getD, List.getElem?_map, List.getElem?_eq_getElem (by simpa using h)]
  rfl

set_option maxHeartbeats 1000000 in
set_option maxRecDepth 10000 in
theorem map_any (s : ByteArray) (w : World) (hs : s.size ≤ 140737488355328) : Calls Ybad.prog 5 #[.string s] w fun e w' => e = .returned (.string (mapB s)) ∧ Below w.heap.size w w' := by
  obtain ⟨i, hi, hz, hsz, hby⟩ := i5'
  have Hby : Hid (i.bytes = 1) := hby
  clear hby
  have HF0 : Hid (Filled (w.alloc (.cells (madeCells #[.int .u8 0] s.size) 5)) w.heap.size s.size 0 (nums (mapB s))) := ⟨_, heap_alloc_new w _, by rw [size_madeCells], fun j hj => by omega⟩
  have HB0 : Hid (Below w.heap.size w (w.alloc (.cells (madeCells #[.int .u8 0] s.size) 5))) := (Below.refl _ w).alloc (Nat.le_refl _) _
  go_enter Ybad.func5, Ybad.ntmps5
  go_wp2_with (refine wpList_make_row w rfl (.tmp 6) (.tmp 6) 39 rfl 5 i (.int .u8 0) Ybad.underlying39 hi hz hsz rfl .i64 .i64 s.size rfl rfl (by rw [Hby.out]; omega) (by omega) ?_)
  clear hi hz hsz
  go_loopw [4] (fun iv wr => ∃ k : Nat, k ≤ s.size ∧ iv = .int .i64 (k : Int) ∧ Hid (Filled wr w.heap.size s.size k (nums (mapB s))) ∧ Hid (Below w.heap.size w wr)) (fun iv _ => s.size - (intOf iv).toNat)
  case atStart => exact ⟨0, Nat.zero_le _, rfl, HF0, HB0⟩
  case round =>
    obtain ⟨k, hk, rfl, HF, HB⟩ := hrel
    by_cases hlt : k < s.size
    · obtain ⟨⟨v, hv⟩, hfz⟩ := HF.out.cell k hlt
      have HF2 := HF.out.set hlt
      rw [mapB_at s k hlt] at HF2
      have HS2 : Hid (Filled (wr.setCell ⟨w.heap.size, k, none⟩ (.int .u8 ((sign s[k]).toNat : Int))) w.heap.size s.size (k + 1) (nums (mapB s))) := HF2
      have HB2 : Hid (Below w.heap.size w (wr.setCell ⟨w.heap.size, k, none⟩ (.int .u8 ((sign s[k]).toNat : Int)))) := HB.out.setCell (Nat.le_refl _) _
      clear HF2
      go_wp2_with fail
      refine ⟨⟨k + 1, by omega, by go_num, ?_, ?_⟩, by simp [intOf]; omega⟩
      · rw [sign_at]
        exact HS2
      · rw [sign_at]
        exact HB2
    · obtain rfl : k = s.size := by omega
      have hcv := HF.out.conv (mapB_size s)
      go_wp2_with fail
      go_ret
      exact ⟨rfl, HB.out⟩
end Go.Proofs.YbulkdvnaDoor
