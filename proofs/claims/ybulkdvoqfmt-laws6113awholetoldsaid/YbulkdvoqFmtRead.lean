import Derived.Test.YbulkdvoqFmtState
namespace Go.Proofs.YbulkdvoqFmt
open Go Go.RowKit

set_option maxHeartbeats 4000000 in
set_option maxRecDepth 100000 in
/-- nothing is left -/
theorem read_end (w : World) (br bb bs cs : Nat) (S : List Int) (pc : Option Addr) (nc cc : Nat) (C : List Int) (m : Int) (ev eof : Value) (pos L : Nat) (h : Rd w br bb bs cs S pc nc cc C m ev eof pos) (hp : pos + L = 23) (hge : S.length ≤ pos) :
    Calls Ybaf.prog 26 #[.pointer (some ⟨br, 0, none⟩), .slice (some ⟨bb, pos, none⟩) L L] w (ReadPost w br bb bs cs S pc nc cc C m ev eof pos) := by
  obtain ⟨k, hk, c0, c1, c2, c3, c4, c5, fz⟩ := h.cells
  have gl := h.gl
  have b1 := and1 m h.ms
  have hgi : (S.length : Int) ≤ (pos : Int) := by omega
  have hl := h.lim
  have HR : Hid (∀ q, ReadPost w br bb bs cs S pc nc cc C m ev eof pos (.returned (.tuple #[.int .i64 0, endv m ev eof])) (w.drewN q)) := fun q => ⟨0, _, rfl, by omega, h.drewN q, (Still.refl _ _ _).drewN q, .inr ⟨by omega, rfl⟩⟩
  clear h fz hl
  go_enter Ybaf.func26, Ybaf.ntmps26
  go_wp2_with fail
  go_quiet (fail)
  by_cases hm : m % 2 = 1
  · have he : endv m ev eof = ev := if_pos hm
    rw [he] at HR
    rw [hm] at b1
    go_wp2_with fail
    go_quiet (fail)
    go_wp2_with fail
    go_ret2
    rw [World.drewN_drewN]
    exact HR.out _
  · have he : endv m ev eof = eof := if_neg hm
    rw [he] at HR
    rw [show m % 2 = 0 by omega] at b1
    go_wp2_with fail
    go_quiet (fail)
    go_wp2_with fail
    go_ret2
    rw [World.drewN_drewN]
    exact HR.out _

/-- inside Read: what of the reader and the array is known -/
def Mid (w : World) (br bb bs cs : Nat) (S : List Int) (pc : Option Addr) (nc cc : Nat) (m : Int) (ev : Value) (pos : Nat) (wx : World) : Prop :=
  (∃ k : Nat, k ≤ pos + 1 ∧ wx.heap[br]? = some (.cells #[.slice (some ⟨bs, 0, none⟩) S.length cs, .int .i64 (pos : Int), .slice pc nc cc, .int .i64 (k : Int), .int .u8 m, ev] 31 (0, 0))) ∧
  wx.heap[bb]? = some (.cells (bufOf S pos).toArray 43 (0, 0)) ∧ Still br bb w wx

theorem size5 : (Ybaf.prog.info? 5).map (·.size) = some 1 := by kernel_rfl
theorem bufOf_splice (S : List Int) (pos s : Nat) (h1 : pos + s ≤ S.length) (h2 : pos + s ≤ 23) :
    (bufOf S pos).take pos ++ ((S.drop pos).take s).map (Value.int .u8) ++ (bufOf S pos).drop (pos + s) = bufOf S (pos + s) := by
  unfold bufOf
  rw [← List.map_take, ← List.map_drop, ← List.map_append, ← List.map_append]
  congr 1
  rw [List.take_append, List.drop_append, List.take_take, List.drop_take, List.length_take, List.drop_replicate, List.take_replicate, List.take_add]
  have e1 : pos - min pos S.length = 0 := by omega
  have e2 : pos - (pos + s) = 0 := by omega
  have e3 : 23 - pos - (pos + s - min pos S.length) = 23 - (pos + s) := by omega
  rw [e1, e2, e3]
  simp
/-- the copy -/
theorem cp_eq (w wx : World) (br bb bs cs : Nat) (S : List Int) (pc : Option Addr) (nc cc : Nat) (C : List Int) (m : Int) (ev eof : Value) (pos L s : Nat) (h : Rd w br bb bs cs S pc nc cc C m ev eof pos) (hp : pos + L = 23)
    (hs1 : pos + s ≤ S.length) (hs2 : pos + s ≤ 23) (hm : Mid w br bb bs cs S pc nc cc m ev pos wx) :
    ∃ W2, (∀ ty, (Builtin.copy_ #[22, 22] ty #[.slice (some ⟨bb, pos, none⟩) L L, .slice (some ⟨bs, pos, none⟩) s (cs - pos)]).run Ybaf.prog wx.drew = .ok (.int .i64 (s : Int)) W2.drew) ∧
      (∃ k : Nat, k ≤ pos + 1 ∧ W2.heap[br]? = some (.cells #[.slice (some ⟨bs, 0, none⟩) S.length cs, .int .i64 (pos : Int), .slice pc nc cc, .int .i64 (k : Int), .int .u8 m, ev] 31 (0, 0))) ∧
      W2.heap[bb]? = some (.cells (bufOf S (pos + s)).toArray 43 (0, 0)) ∧ Still br bb w W2 := by
  obtain ⟨⟨k, hk, hb⟩, hbf, hst⟩ := hm
  have hlen : (((S.drop pos).take s).map (Value.int .u8)).length = s := by simp; omega
  have hbl : (bufOf S pos).length = 23 := by unfold bufOf; simp; have := h.lim.1; omega
  refine ⟨wx.setRow bb (bufOf S (pos + s)).toArray, fun ty => ?_, ⟨k, hk, ?_⟩, ?_, hst.setRow _⟩
  · have := run_copy_row (P := Ybaf.prog) wx.drew 22 22 ty 5 bb pos L L ⟨bs, pos, none⟩ s (cs - pos) (bufOf S pos).toArray 43 (((S.drop pos).take s).map (Value.int .u8)) Ybaf.underlying22 size5 hbf
      (by rw [hlen]; exact (Nat.min_eq_left (by omega)).symm)
      (fun j v hv => by
        have hj : j < s := by
          rcases Nat.lt_or_ge j s with h' | h'
          · exact h'
          · rw [List.getElem?_eq_none (by rw [hlen]; exact h')] at hv; cases hv
        have hc := h.st (pos + j) (by omega)
        have hc2 : wx.drew.cell? ⟨bs, pos + j, none⟩ = some (.int .u8 (S.getD (pos + j) 0)) := (World.cell?_of_block (a := ⟨bs, pos + j, none⟩) (hst.block bs h.ne.1 h.ne.2.1)).trans hc
        rw [show (Addr.add ⟨bs, pos, none⟩ j) = ⟨bs, pos + j, none⟩ by simp [Addr.add], hc2, ← hv, List.getElem?_map, List.getElem?_take, if_pos hj, List.getElem?_drop, List.getD_eq_getElem?_getD, List.getElem?_eq_getElem (by omega : pos + j < S.length)]
        rfl)
      (by rw [hlen]; simp [hbl]; exact hs2) (fun v hv => by obtain ⟨_, _, rfl⟩ := List.mem_map.1 hv; rfl)
    rw [hlen] at this
    rw [this]
    have e := bufOf_splice S pos s hs1 hs2
    rw [e]
    rfl
  · rw [setRow_other wx bb br _ h.ne.2.2.1]
    exact hb
  · exact setRow_heap wx bb _ _ 43 (0, 0) hbf

set_option maxHeartbeats 4000000 in
set_option maxRecDepth 100000 in
theorem read_some (w : World) (br bb bs cs : Nat) (S : List Int) (pc : Option Addr) (nc cc : Nat) (C : List Int) (m : Int) (ev eof : Value) (pos L : Nat) (h : Rd w br bb bs cs S pc nc cc C m ev eof pos) (hp : pos + L = 23) (hL : 0 < L) (hlt : pos < S.length) :
    Calls Ybaf.prog 26 #[.pointer (some ⟨br, 0, none⟩), .slice (some ⟨bb, pos, none⟩) L L] w (ReadPost w br bb bs cs S pc nc cc C m ev eof pos) := by
  obtain ⟨k, hk, c0, c1, c2, c3, c4, c5, fz⟩ := h.cells
  have hgi : (pos : Int) < (S.length : Int) := by omega
  have hl := h.lim
  have HR : Hid (Rd w br bb bs cs S pc nc cc C m ev eof pos) := h
  have HM : Hid (∀ q, Mid w br bb bs cs S pc nc cc m ev pos (w.drewN q)) := fun q => by
    obtain ⟨k, hk, hb⟩ := h.rd
    exact ⟨⟨k, by omega, hb⟩, h.bf, (Still.refl _ _ _).drewN q⟩
  go_enter Ybaf.func26, Ybaf.ntmps26
  go_wp2_with fail
  go_quiet (fail)
  go_wp2_with fail
  go_quiet (fail)
  go_upto_if 44 with (fail)
  go_cut [6, 7] from 8 to 74 (fun sz _ wx => ∃ s : Nat, sz = .int .i64 (s : Int) ∧ 0 < s ∧ pos + s ≤ S.length ∧ Hid (Mid w br bb bs cs S pc nc cc m ev pos wx))
  case first =>
    rcases Nat.eq_zero_or_pos nc with hn | hn
    · subst hn
      go_wp2_with fail
      go_meet
      case rel => exact ⟨S.length - pos, by go_num, by omega, by omega, HM.out _⟩
    · obtain ⟨b, o, rfl, n1, n2, hc⟩ := h.ch hn
      have hj : k % nc < nc := Nat.mod_lt _ hn
      have hcj := hc (k % nc) hj
      have hrg := h.rng (k % nc)
      have hjm : ((k : Int) % (nc : Int)) = ((k % nc : Nat) : Int) := by simp
      have hjt : Int.tmod (k : Int) (nc : Int) = ((k % nc : Nat) : Int) := by rw [Int.tmod_eq_emod_of_nonneg (by omega)]; exact hjm
      have hjl : ((k % nc : Nat) : Int) < (nc : Int) := by omega
      have hn0 : (0 : Int) < (nc : Int) := by omega
      generalize k % nc = j at *
      generalize C.getD j 0 = x at *
      clear hc
      go_wp2_with fail
      go_quiet (fail)
      have HM2 : Hid (∀ q, Mid w br bb bs cs S (some ⟨b, o, none⟩) nc cc m ev pos ((w.drewN q).setCell ⟨br, 3, none⟩ (.int .i64 ((k : Int) + 1)))) := fun q => by
        obtain ⟨k', hk', hb⟩ := h.rd
        have e3 := c3
        rw [cell_of_row w br _ _ 31 (0, 0) hb] at e3
        obtain rfl : k' = k := by
          have : (Value.int .i64 (k' : Int)) = .int .i64 (k : Int) := Option.some.inj e3
          injection this with _ h2
          omega
        refine ⟨⟨k' + 1, by omega, ?_⟩, ?_, ((Still.refl _ _ _).drewN q).setCell 3 _⟩
        · rw [heap_setCell_same (w.drewN q) br 3 _ 31 (.int .i64 ((k' : Int) + 1)) hb]
          rfl
        · rw [heap_setCell_other (w.drewN q) ⟨br, 3, none⟩ bb _ (Ne.symm h.ne.2.2.1)]
          exact h.bf
      have hx8 : 0 ≤ x % 8 := by omega
      by_cases hsm : x % 8 + 1 < (S.length : Int) - (pos : Int)
      · go_wp2_with fail
        go_meet
        case rel => exact ⟨(x % 8 + 1).toNat, by go_num, by omega, by omega, HM2.out _⟩
      · go_wp2_with fail
        go_meet
        case rel => exact ⟨S.length - pos, by go_num, by omega, by omega, HM2.out _⟩
  case rest =>
    clear c0 c1 c2 c3 c4 c5 fz HM hk
    obtain ⟨s0, rfl, hs0, hs1, HMd⟩ := hcut
    go_upto_if 78 with (fail)
    go_cut [6] from 79 to 80 (fun sz wx => ∃ s : Nat, sz = .int .i64 (s : Int) ∧ 0 < s ∧ pos + s ≤ S.length ∧ pos + s ≤ 23 ∧ Hid (Mid w br bb bs cs S pc nc cc m ev pos wx))
    case first =>
      by_cases hsm : L < s0
      · go_wp2_with fail
        go_meet
        case rel => exact ⟨L, by go_num, by omega, by omega, by omega, HMd⟩
      · go_wp2_with fail
        go_meet
        case rel => exact ⟨s0, by go_num, by omega, by omega, by omega, HMd⟩
    case rest =>
      clear HMd hs0 hs1
      obtain ⟨s, rfl, hs0, hs1, hs2, HMd⟩ := hcut
      obtain ⟨W2, hcp, ⟨k2, hk2, hb2⟩, hbf2, hst2⟩ := cp_eq w wc br bb bs cs S pc nc cc C m ev eof pos L s h hp hs1 hs2 HMd.out
      obtain ⟨⟨k1, hk1, hb1⟩, hbf1, hst1⟩ := HMd.out
      have c0 : wc.cell? ⟨br, 0, none⟩ = some (.slice (some ⟨bs, 0, none⟩) S.length cs) := by rw [cell_of_row wc br _ _ 31 (0, 0) hb1]; rfl
      have c1 : wc.cell? ⟨br, 1, none⟩ = some (.int .i64 (pos : Int)) := by rw [cell_of_row wc br _ _ 31 (0, 0) hb1]; rfl
      have d1 : W2.cell? ⟨br, 1, none⟩ = some (.int .i64 (pos : Int)) := by rw [cell_of_row W2 br _ _ 31 (0, 0) hb2]; rfl
      have fz1 : W2.frozen? ⟨br, 1, none⟩ = false := by simp [World.frozen?, hb2]
      have hne : ¬ cs = pos := by omega
      clear hb1 hbf1 hst1 hk1 HMd
      go_upto_region 13 with (fail)
      have hR3 : Rd (W2.setCell ⟨br, 1, none⟩ (.int .i64 ((pos : Int) + (s : Int)))).drew br bb bs cs S pc nc cc C m ev eof (pos + s) := by
        refine HR.out.next ((hst2.setCell 1 _).drew) ⟨k2, by omega, ?_⟩ ?_ hs1
        · exact (heap_setCell_same W2 br 1 _ 31 (.int .i64 ((pos : Int) + (s : Int))) hb2).trans (by simp)
        · exact (heap_setCell_other W2 ⟨br, 1, none⟩ bb _ (Ne.symm h.ne.2.2.1)).trans hbf2
      have hS3 : Still br bb w (W2.setCell ⟨br, 1, none⟩ (.int .i64 ((pos : Int) + (s : Int)))).drew := (hst2.setCell 1 _).drew
      go_region
      go_upto_region 15 with (fail)
      clear d1 fz1 hcp hb2 hbf2 hst2 c0 c1
      generalize (W2.setCell ⟨br, 1, none⟩ (.int .i64 ((pos : Int) + (s : Int)))).drew = W3 at *
      obtain ⟨k3, _, c0, c1, _, _, c4, c5, _⟩ := hR3.cells
      have gl := hR3.gl
      have b1 := and1 m h.ms
      have b2 := and2 m h.ms
      have hm4 := h.ms
      have HP : Hid (∀ q er, ((er = .nilIface ∧ 0 < s) ∨ (pos + s = S.length ∧ er = endv m ev eof)) → ReadPost w br bb bs cs S pc nc cc C m ev eof pos (.returned (.tuple #[.int .i64 (s : Int), er])) (W3.drewN q)) := fun q er he => ⟨s, er, rfl, hs2, hR3.drewN q, hS3.drewN q, he⟩
      clear hR3 hS3 HR h
      by_cases hm2 : 2 ≤ m
      · rw [show m / 2 * 2 = 2 by omega] at b2
        by_cases heq : pos + s = S.length
        · rw [heq] at c1
          go_quiet (fail)
          by_cases hm : m % 2 = 1
          · have he : endv m ev eof = ev := if_pos hm
            rw [he] at HP
            rw [hm] at b1
            go_wp2_with fail
            go_quiet (fail)
            go_wp2_with fail
            go_ret2
            rw [World.drewN_drewN]
            exact HP.out _ _ (.inr ⟨heq, rfl⟩)
          · have he : endv m ev eof = eof := if_neg hm
            rw [he] at HP
            rw [show m % 2 = 0 by omega] at b1
            go_wp2_with fail
            go_quiet (fail)
            go_wp2_with fail
            go_ret2
            rw [World.drewN_drewN]
            exact HP.out _ _ (.inr ⟨heq, rfl⟩)
        · have hne2 : ¬ ((pos : Int) + (s : Int) = (S.length : Int)) := by omega
          go_quiet (fail)
          go_wp2_with fail
          go_ret2
          exact HP.out _ _ (.inl ⟨rfl, hs0⟩)
      · rw [show m / 2 * 2 = 0 by omega] at b2
        go_quiet (fail)
        go_wp2_with fail
        go_ret2
        exact HP.out _ _ (.inl ⟨rfl, hs0⟩)

/-- Read, while there is room in the array -/
theorem read_any (w : World) (br bb bs cs : Nat) (S : List Int) (pc : Option Addr) (nc cc : Nat) (C : List Int) (m : Int) (ev eof : Value) (pos L : Nat) (h : Rd w br bb bs cs S pc nc cc C m ev eof pos) (hp : pos + L = 23) (hL : 0 < L) :
    Calls Ybaf.prog 26 #[.pointer (some ⟨br, 0, none⟩), .slice (some ⟨bb, pos, none⟩) L L] w (ReadPost w br bb bs cs S pc nc cc C m ev eof pos) := by
  rcases Nat.lt_or_ge pos S.length with hlt | hge
  · exact read_some w br bb bs cs S pc nc cc C m ev eof pos L h hp hL hlt
  · exact read_end w br bb bs cs S pc nc cc C m ev eof pos L h hp hge
end Go.Proofs.YbulkdvoqFmt
