import Derived.Test.YbulkdvkwDoorPu
import Derived.Test.YbulkdvkwDoorShelf
import Derived.Shelf.Bytes.SlEqualAll
namespace Go.Proofs.YbulkdvkwDoor
open Go Go.RowKit

theorem nums_str (ys : List Int) (hr : ∀ y ∈ ys, 0 ≤ y ∧ y < 256) : nums (strOfNums ys) = ys := by
  unfold nums
  rw [strOfNums_data, List.map_map]
  conv => rhs; rw [← List.map_id ys]
  apply List.map_congr_left
  intro y hy
  obtain ⟨h0, h1⟩ := hr y hy
  simp only [Function.comp, id, UInt8.toNat_ofNat']
  omega

set_option maxHeartbeats 4000000 in
theorem pu7_any (s : ByteArray) (hs : s.size = 4) (w : World) (ev : Value) (hv : w.cell? ⟨0, 0, none⟩ = some ev) (hev : ev = .nilIface ∨ ∃ te pe, ev = .iface te pe) :
    Calls Ybad.prog 7 #[.string s, .int .i64 16, .int .i64 16] w fun e w' => ∃ er, e = .returned (.tuple #[.int .u64 ((puGo (nums s) 0).getD 0), er]) ∧ Below w.heap.size w w' := by
  have hsz : 0 < w.heap.size := World.block_lt_of_cell? _ _ hv
  have HV : Hid (w.cell? ⟨0, 0, none⟩ = some ev) := hv
  have HE : Hid (ev = .nilIface ∨ ∃ te pe, ev = .iface te pe) := hev
  have HS : Hid (s.size = 4) := hs
  clear hv hev hs
  go_enter Ybad.func7, Ybad.ntmps7
  go_wp2_with fail
  go_at_call 8
  refine (pu_any s HS.out w).mono ?_
  rintro e w1 ⟨rfl, hb⟩
  have HB : Hid (Below w.heap.size w w1) := hb
  clear hb
  cases ho : puGo (nums s) 0 with
  | some v =>
    have e1 : puOut (some v) = .tuple #[.int .u64 v, .nilIface] := rfl
    rw [e1]
    have HO : Hid ((puGo (nums s) 0).getD 0 = v) := by show _ = v; rw [ho]; rfl
    clear ho e1
    go_wp2_with fail
    go_ret2
    refine ⟨.nilIface, ?_, HB.out⟩
    rw [HO.out]
    rfl
  | none =>
    have e1 : puOut none = .tuple #[.int .u64 0, .iface 36 (.int .i64 2)] := rfl
    rw [e1]
    have HO : Hid ((puGo (nums s) 0).getD 0 = 0) := by show _ = _; rw [ho]; rfl
    clear ho e1
    go_wp2_with fail
    go_at_call 9
    refine (Any.strconv_toError_syntax Ybad.laysC245 _ s 16 16 ev w1 (by have := HS.out; omega) (by rw [HB.out.cell hsz]; exact HV.out) HE.out).mono ?_
    rintro e w2 ⟨N, rfl, -, -, hb2⟩
    have HB2 : Hid (Below w.heap.size w w2) := HB.out.trans (hb2.mono HB.out.size)
    clear hb2
    go_wp2_with fail
    go_ret2
    refine ⟨.iface (Ybad.laysC245_ren.t 168) (.pointer (some ⟨N, 0, .none⟩)), ?_, HB2.out⟩
    rw [HO.out]
    rfl

/-- yaml.escaped: the code and the length -/
def escU (xs : List Int) : Bool := decide (6 ≤ xs.length) && decide (xs.getD 0 0 = 92) && decide (xs.getD 1 0 = 117)
def escR (xs : List Int) : Int := if escU xs then (puGo ((xs.drop 2).take 4) 0).getD 0 else -1
def escN (xs : List Int) : Int := if escU xs then 6 else if 2 ≤ xs.length ∧ xs.getD 0 0 = 92 then 2 else 0

theorem puGo_top (xs : List Int) (h : xs.length = 4) : 0 ≤ (puGo xs 0).getD 0 ∧ (puGo xs 0).getD 0 < 65536 := by
  cases ho : puGo xs 0 with
  | none => exact ⟨by decide, by decide⟩
  | some v =>
    have := puGo_bd xs 0 v 1 (by omega) (by omega) ho
    rw [h] at this
    simpa using this

set_option maxHeartbeats 8000000 in
theorem esc_any (p : Option Addr) (n c : Nat) (xs : List Int) (w : World) (hx : xs.length = n) (hr : ∀ x ∈ xs, 0 ≤ x ∧ x < 256) (hnc : n ≤ c) (hbig : c ≤ 9223372036854775807) (h : Lib.BytesIn w p n xs)
    (ev : Value) (hv : w.cell? ⟨0, 0, none⟩ = some ev) (hev : ev = .nilIface ∨ ∃ te pe, ev = .iface te pe) :
    Calls Ybad.prog 4 #[.slice p n c] w fun e w' => e = .returned (.tuple #[.int .i32 (escR xs), .int .i64 (escN xs)]) ∧ Below w.heap.size w w' := by
  rcases Nat.lt_or_ge n 2 with hn2 | hn2
  · have hU : escU xs = false := by unfold escU; rw [decide_eq_false (by omega)]; rfl
    have e1 : escR xs = -1 := by unfold escR; rw [hU]; rfl
    have e2 : escN xs = 0 := by unfold escN; rw [hU, if_neg (by decide), if_neg (by omega)]
    rw [e1, e2]
    clear hU e1 e2 h hr hev hv hx
    go_enter Ybad.func4, Ybad.ntmps4
    go_wp2_with fail
    go_ret2
    exact ⟨rfl, Below.refl _ _⟩
  · obtain ⟨b, o, rfl, hc⟩ := h.at (by omega)
    obtain ⟨c0, hc0⟩ : ∃ c0, c0 = xs.getD 0 0 := ⟨_, rfl⟩
    obtain ⟨c1, hc1⟩ : ∃ c1, c1 = xs.getD 1 0 := ⟨_, rfl⟩
    have k0 := hc 0 (by omega)
    have k1 := hc 1 (by omega)
    rw [← hc0] at k0
    rw [← hc1] at k1
    rw [Nat.add_zero] at k0
    by_cases h0 : c0 = 92
    · subst h0
      by_cases h6 : 6 ≤ n
      · by_cases h1 : c1 = 117
        · subst h1
          have hU : escU xs = true := by unfold escU; rw [← hc0, ← hc1, decide_eq_true (by omega)]; rfl
          have e1 : escR xs = (puGo ((xs.drop 2).take 4) 0).getD 0 := by unfold escR; rw [hU]; rfl
          have e2 : escN xs = 6 := by unfold escN; rw [hU]; rfl
          rw [e1, e2]
          have hl4 : ((xs.drop 2).take 4).length = 4 := by rw [List.length_take, List.length_drop]; omega
          have hbd := puGo_top _ hl4
          have hcv := run_convert_bytes_arg (P := Ybad.prog) w 22 5 Ybad.underlying22 Ybad.underlying5 b (o + 2) 4 (c - 2) ((xs.drop 2).take 4) hl4 (fun i hi => by
            have := hc (2 + i) (by omega)
            rw [← Nat.add_assoc] at this
            rw [this]
            congr 2
            simp only [List.getD_eq_getElem?_getD, List.getElem?_take, List.getElem?_drop, if_pos hi]) 9 Ybad.underlying9
          have hp := pu7_any (strOfNums ((xs.drop 2).take 4)) (by rw [strOfNums_size]; exact hl4) w ev hv hev
          rw [nums_str _ (fun y hy => hr y (List.mem_of_mem_drop (List.mem_of_mem_take hy)))] at hp
          generalize (puGo ((xs.drop 2).take 4) 0).getD 0 = V at hp hbd
          generalize strOfNums ((xs.drop 2).take 4) = S at hp hcv
          obtain ⟨hb0, hb1⟩ := hbd
          have HP : Hid (Calls Ybad.prog 7 #[.string S, .int .i64 16, .int .i64 16] w fun e w' => ∃ er, e = .returned (.tuple #[.int .u64 V, er]) ∧ Below w.heap.size w w') := hp
          clear hp hU e1 e2 hl4 hc hr hv hev h hx hc0 hc1
          go_enter Ybad.func4, Ybad.ntmps4
          go_wp2_with fail
          go_at_call 7
          refine Calls.mono HP.out ?_
          rintro e w1 ⟨er, rfl, hb⟩
          have HB : Hid (Below w.heap.size w w1) := hb
          clear hb HP
          go_wp2_with fail
          go_ret2
          exact ⟨rfl, HB.out⟩
        · have hU : escU xs = false := by unfold escU; rw [← hc0, ← hc1, decide_eq_false h1, Bool.and_false]
          have e1 : escR xs = -1 := by unfold escR; rw [hU]; rfl
          have e2 : escN xs = 2 := by unfold escN; rw [hU, if_neg (by decide), if_pos ⟨by omega, hc0.symm⟩]
          rw [e1, e2]
          clear hU e1 e2 h hr hev hv hx hc hc0 hc1
          go_enter Ybad.func4, Ybad.ntmps4
          go_wp2_with fail
          go_ret2
          exact ⟨rfl, Below.refl _ _⟩
      · have hU : escU xs = false := by unfold escU; rw [decide_eq_false (by omega)]; rfl
        have e1 : escR xs = -1 := by unfold escR; rw [hU]; rfl
        have e2 : escN xs = 2 := by unfold escN; rw [hU, if_neg (by decide), if_pos ⟨by omega, hc0.symm⟩]
        rw [e1, e2]
        clear hU e1 e2 h hr hev hv hx hc hc0 hc1
        go_enter Ybad.func4, Ybad.ntmps4
        go_wp2_with fail
        go_ret2
        exact ⟨rfl, Below.refl _ _⟩
    · have hU : escU xs = false := by unfold escU; rw [← hc0, decide_eq_false h0, Bool.and_false]; rfl
      have e1 : escR xs = -1 := by unfold escR; rw [hU]; rfl
      have e2 : escN xs = 0 := by unfold escN; rw [hU, if_neg (by decide), if_neg (fun hh => h0 (hc0.trans hh.2))]
      rw [e1, e2]
      clear hU e1 e2 h hr hev hv hx hc hc0 hc1
      by_cases h6 : 6 ≤ n
      · go_enter Ybad.func4, Ybad.ntmps4
        go_wp2_with fail
        go_ret2
        exact ⟨rfl, Below.refl _ _⟩
      · go_enter Ybad.func4, Ybad.ntmps4
        go_wp2_with fail
        go_ret2
        exact ⟨rfl, Below.refl _ _⟩

/-- bytes.Equal at two slices of bytes -/
theorem equal_any (p1 p2 : Option Addr) (n c m d : Nat) (xs : List Int) (w : World) (hx : xs.length = n) (hm : xs.length = m) (h1 : Lib.BytesIn w p1 n xs) (h2 : Lib.BytesIn w p2 m xs) :
    Calls Ybad.prog 6 #[.slice p1 n c, .slice p2 m d] w fun e w' => e = .returned (.bool true) ∧ w' = w := by
  have g1 := h1.convert (P := Ybad.prog) hx c 22 5 9 Ybad.underlying22 Ybad.underlying5 Ybad.underlying9
  have g2 := h2.convert (P := Ybad.prog) hm d 22 5 9 Ybad.underlying22 Ybad.underlying5 Ybad.underlying9
  clear hx hm h1 h2
  go_enter Ybad.func6, Ybad.ntmps6
  go_wp2_with fail
  go_ret
  exact ⟨rfl, rfl⟩
end Go.Proofs.YbulkdvkwDoor
