import Derived.Test.YbulkdvnaState
import Derived.WalkSmall
import Derived.Deep.CutRange
import Derived.OrdersHeld
namespace Go.Proofs.Ybulkdvna
open Go Go.RowKit

theorem set_get (l : List Value) (i : Nat) (v : Value) : ∀ (j : Nat) u, (l.set i v)[j]? = some u → l[j]? = some u ∨ u = v := fun j u h => by
  rw [List.getElem?_set] at h
  split at h
  · split at h
    · right; cases h; rfl
    · cases h
  · exact .inl h
theorem eqm_nil (w : World) : (binOp .eql 25 (.map none) (.map none)).run Yba.prog w = .ok (.bool true) w := by kernel_rfl
theorem eqm_some (w : World) (mb : Nat) : (binOp .eql 25 (.map (some mb)) (.map none)).run Yba.prog w = .ok (.bool false) w := by kernel_rfl
theorem nem_nil (w : World) : (binOp .neq 25 (.map none) (.map none)).run Yba.prog w = .ok (.bool false) w := by kernel_rfl
theorem nem_some (w : World) (mb : Nat) : (binOp .neq 25 (.map (some mb)) (.map none)).run Yba.prog w = .ok (.bool true) w := by kernel_rfl

theorem make_names (w : World) : (Instr.makeMap 25 (some (.int .i64 32))).run Yba.prog w = .ok (.map (some w.heap.size)) (w.alloc (.map #[] 0)) := by kernel_rfl
theorem load_few (w : World) (b : Nat) (few : List Value) (hl : few.length = 16) (hc : ∀ j, j < 16 → w.cell? ⟨b, j, none⟩ = few[j]?) : (loadVar 24 ⟨b, 0, none⟩).run Yba.prog w = .ok (.agg few.toArray) w := by
  have h1 : (loadCells ⟨b, 0, none⟩ few.length).run Yba.prog w = .ok few.toArray w :=
    run_loadCells_list (P := Yba.prog) w ⟨b, 0, none⟩ few (fun j v hv => by
      have hj : j < few.length := (List.getElem?_eq_some_iff.1 hv).1
      rw [Addr.add_lit, Nat.zero_add, hc j (by omega)]
      exact hv)
  have ha : (isAgg 24).run Yba.prog w = .ok true w := Yba.isAgg24 w
  have hs : (Go.sizeOf 24).run Yba.prog w = .ok 16 w := Yba.sizeOf24 w
  rw [hl] at h1
  simp [loadVar, Sem.run_bind, ha, hs, h1, Result.andThen]
theorem wpList_ld {P : Program} {ops : Array Oper} {rest : List Oper} {o : Oper} {a : Act} {w : World} {Q : Exit → Act → World → Prop} (hgd : o.guard = none) (ty : TypeId) (x : Operand) (ho : o.op = .load ty x)
    (ad : Addr) (hx : a.eval x = .pointer (some ad)) {v : Value} (hr : (loadVar ty ad).run P w = .ok v w) (h : wpList P ops Q rest (a.put o.dst v) w) : wpList P ops Q (o :: rest) a w :=
  wpList_plain hgd fun _ hK => by
    unfold Oper.wp execOp
    simp only [ho, hx, Instr.loadAt, Instr.sureAddr, Sem.run_bind, Sem.run_pure, Result.andThen_ok, hr]
    exact hK _ _ h
theorem index_few (w : World) (few : List Value) (j : Nat) (hj : j < 16) (p : Option Addr) (n c : Nat) (hv : few[j]? = some (.slice p n c)) : (Instr.index 24 (.agg few.toArray) (.int .i64 (j : Int))).run Yba.prog w = .ok (.slice p n c) w := by
  have u24 := Yba.underlying24
  have ha : (isAgg 23).run Yba.prog w = .ok false w := Yba.isAgg23 w
  have hs : (Go.sizeOf 23).run Yba.prog w = .ok 1 w := Yba.sizeOf23 w
  simp [Instr.index, asIntOf, run_underlying u24, part, ha, hs, hv, Result.andThen]
  omega
theorem slice_few (b m : Nat) (h : m ≤ 16) (w : World) : (Instr.sliceAt 24 (.pointer (some ⟨b, 0, none⟩)) none (some (.int .i64 (m : Int))) none).run Yba.prog w = .ok (.slice (some ⟨b, 0, none⟩) m 16) w := by
  have u24 := Yba.underlying24
  have h2 : (m : Int) ≤ 16 := by omega
  simp [Instr.sliceAt, run_underlying u24, Instr.slice, Instr.sliceBounds, run_sliceBound, h2, Result.andThen, Instr.sureAddr, Addr.add_lit]

set_option maxHeartbeats 8000000 in
set_option maxRecDepth 100000 in
theorem add_small (base b : Nat) (D : List ByteArray) (few : List Value) (mv : Value) (p : Option Addr) (n c : Nat) (s : ByteArray) (w : World) (hM : MN w base b D few mv) (hr : RowOf w b (.slice p n c) s) (hD : D.length ≤ 16) (hbb : base ≤ b) (hDs : ∀ x ∈ D, x.size ≤ 140737488355328) (hss : s.size ≤ 140737488355328) :
    Calls Yba.prog 5 #[.pointer (some ⟨b, 0, none⟩), .slice p n c] w fun e w' => e = .returned (.bool (!hasB D s)) ∧ AddPost w base b D few (.slice p n c) s w' := by
  have hm := hM.small hD
  subst hm
  have c16 : w.cell? ⟨b, 16, none⟩ = some (.int .i64 (D.length : Int)) := by rw [hM.cellN, Nat.min_eq_left hD]
  have c17 := hM.cellM
  have HM : Hid (MN w base b D few (.map none)) := hM
  have hcv := hr.conv
  have HR : Hid (RowOf w b (.slice p n c) s) := hr
  have q25 := eqm_nil
  have hsl := slice_few b D.length hD
  clear hM hr
  go_enter Yba.func5, Yba.ntmps5
  go_wp2_with fail
  go_quiet (fail)
  go_wp2_with fail
  obtain ⟨W1, hW1⟩ : ∃ W1, W1 = w.drewN nq := ⟨_, rfl⟩
  have hh : W1.heap = w.heap := by rw [hW1]; rfl
  have HB1 : Hid (Below base w W1) := by rw [hW1]; exact below_drewN (Below.refl _ _) _
  have HS1 : Hid (Still b w W1) := Still.heap hh
  have HM1 : Hid (MN W1 base b D few (.map none)) := HM.out.heap hh
  have HR1 : Hid (RowOf W1 b (.slice p n c) s) := HR.out.heap hh
  have hcv1 := HR1.out.conv
  rw [← hW1]
  have hb0 : base ≤ w.heap.size := Nat.le_trans hbb (Nat.le_of_lt (World.block_lt_of_cell? _ _ c17))
  clear hW1 hcv c16 c17 hh hsl HM
  go_loop [6, 25] (fun _ i => ∃ k : Nat, k ≤ D.length ∧ i = .int .i64 k ∧ Hid (hasB (D.take k) s = false)) (fun _ i => D.length - (intOf i).toNat)
  case atStart => exact ⟨0, Nat.zero_le _, rfl, rfl⟩
  case round =>
    obtain ⟨k, hk, rfl, HK⟩ := hrel
    by_cases hlt : k < D.length
    · obtain ⟨v, hv, hrv⟩ := HM1.out.rows k hlt (by omega)
      have hcell := HM1.out.cellF k (by omega)
      rw [hv] at hcell
      obtain ⟨p', c', rfl, hrr⟩ := hrv
      have hcv2 := RowOf.conv ⟨p', c', rfl, hrr⟩
      have HS : Hid (hasB (D.take (k + 1)) s = (hasB (D.take k) s || (D[k].toList == s.toList))) := hasB_take D k hlt s
      have HT : Hid ((D[k].toList == s.toList) = true → hasB D s = true) := hasB_at D k hlt s
      clear hrr hv
      go_wp2_with fail
      · go_ret
        have ht := HT.out ‹_›
        exact ⟨ret_bool (by rw [ht]; rfl), few, .map .none, by rw [addD_old ht]; exact HM1.out, HB1.out, HS1.out, (fun hf => by rw [ht] at hf; cases hf), fun _ _ h => .inl h⟩
      · go_round
        case rel => exact ⟨k + 1, by omega, by go_num, by show _ = _; rw [HS.out, HK.out]; assumption⟩
        case measure => simp [intOf]; omega
    · obtain rfl : k = D.length := by omega
      have HN : Hid (hasB D s = false) := by have := HK.out; rwa [List.take_length] at this
      clear HK
      by_cases h16 : D.length < 16
      · have c16 := HM1.out.cellN
        rw [Nat.min_eq_left hD] at c16
        have hth : W1.frozen? ⟨b, D.length, .none⟩ = false := HM1.out.thaw _
        have hth2 : W1.frozen? ⟨b, 16, .none⟩ = false := HM1.out.thaw _
        have hcn := HM1.out.cellF D.length (by omega)
        rw [HM1.out.nils D.length (Nat.le_refl _) (by omega)] at hcn
        go_upto_region 9 with (fail)
        go_region
        go_wp2_with fail
        go_ret
        refine ⟨ret_bool (by rw [HN.out]; rfl), ?_⟩
        refine ⟨few.set D.length (.slice p n c), .map .none, ?_, ?_, ?_, fun _ _ => ?_, set_get _ _ _⟩
        · rw [addD_new HN.out]
          exact HM1.out.push HR1.out h16 rfl
        · exact ((HB1.out.setCell (by exact hbb) _).setCell (by exact hbb) _).drew
        · exact ((HS1.out.setCell _ _).setCell _ _).trans (Still.heap rfl)
        · rw [List.getElem?_set_self (by rw [HM1.out.len]; exact h16)]
      · obtain h16 : D.length = 16 := by omega
        have c16 := HM1.out.cellN
        rw [h16] at c16
        have hmm := make_names
        have hth := HM1.out.thaw 17
        have c17 := HM1.out.cellM
        have hbl : b < W1.heap.size := World.block_lt_of_cell? _ _ c17
        have hha := Below.heap_alloc W1 (.map #[] 0) b hbl
        have c17' : (W1.alloc (.map #[] 0)).cell? ⟨b, 17, .none⟩ = some (.map .none) := (World.cell?_of_block (a := ⟨b, 17, .none⟩) hha).trans c17
        have hth' : (W1.alloc (.map #[] 0)).frozen? ⟨b, 17, .none⟩ = false := (World.frozen?_of_block (a := ⟨b, 17, .none⟩) hha).trans hth
        have HB2 : Hid (MB ((W1.setCell ⟨b, 17, .none⟩ (.map (some W1.heap.size))).alloc (.map #[] 0)) base b D few W1.heap.size []) := HM1.out.toMB h16 (Nat.le_trans hbb (Nat.le_of_lt hbl)) hbl
        have HB3 : Hid (Below base w ((W1.setCell ⟨b, 17, .none⟩ (.map (some W1.heap.size))).alloc (.map #[] 0))) := (HB1.out.setCell (by exact hbb) _).alloc (by rw [Go.Deep.nblk_setCell]; omega) _
        have HS3 : Hid (Still b w ((W1.setCell ⟨b, 17, .none⟩ (.map (some W1.heap.size))).alloc (.map #[] 0))) := (HS1.out.setCell _ _).alloc _
        rw [h16, show ((16 : Nat) : Int) = 16 from rfl]
        go_upto_region 13 with (fail)
        generalize hW2 : (W1.setCell ⟨b, 17, .none⟩ (.map (some W1.heap.size))).alloc (.map #[] 0) = W2 at HB2 HB3 HS3
        generalize W1.heap.size = mb at HB2
        have HLF : Hid ((loadVar 24 ⟨b, 0, .none⟩).run Yba.prog W2 = .ok (.agg few.toArray) W2) := load_few W2 b few HB2.out.len HB2.out.cellF
        clear hW2 hmm hth c17 hbl hha c17' hth' hcv1 c16
        go_wp2_with (refine wpList_ld rfl 24 (.tmp 62) rfl ⟨b, 0, .none⟩ rfl HLF.out ?_)
        go_loopw [8, 64] (fun _ i wr => ∃ k : Nat, k ≤ 16 ∧ i = .int .i64 k ∧ Hid (MB wr base b D few mb (D.take k)) ∧ Hid (Below base w wr) ∧ Hid (Still b w wr)) (fun _ i _ => 16 - (intOf i).toNat)
        case atStart => exact ⟨0, by omega, rfl, HB2, HB3, HS3⟩
        case round =>
          obtain ⟨k, hk, rfl, HMr, HBr, HSr⟩ := hrel
          by_cases hlt : k < 16
          · obtain ⟨v, hv, hrv⟩ := HMr.out.rows k (by omega) hlt
            obtain ⟨p', c', rfl, hrr⟩ := hrv
            have hix := fun w => index_few w few k hlt p' _ c' hv
            have hcv2 := RowOf.conv ⟨p', c', rfl, hrr⟩
            have c17 := HMr.out.cellM
            have hMd : MB wr.drew base b D few mb (D.take k) := HMr.out.heap rfl
            obtain ⟨w3, hup, hM3, hB3, hS3⟩ := hMd.put (by rw [List.length_take]; omega) D[k] (hDs _ (List.getElem_mem _))
            rw [← List.take_succ_eq_append_getElem (by omega)] at hM3
            have HM3 : Hid (MB w3 base b D few mb (D.take (k + 1))) := hM3
            have HB4 : Hid (Below base w w3) := (HBr.out.drew).trans hB3
            have HS4 : Hid (Still b w w3) := (HSr.out.trans (Still.heap rfl)).trans hS3
            have hcv3 := RowOf.conv (RowOf.heap (w' := wr.drew) ⟨p', c', rfl, hrr⟩ rfl)
            clear hMd hM3 hB3 hS3
            go_upto_region 16 with (fail)
            go_region
            go_wp2_with fail
            exact ⟨⟨k + 1, by omega, by go_num, HM3, HB4, HS4⟩, by simp [intOf]; omega⟩
          · obtain rfl : k = 16 := by omega
            have hM5 := HMr.out
            rw [List.take_of_length_le (by omega)] at hM5
            have hMd : MB wr.drew base b D few mb D := hM5.heap rfl
            have c17 := hM5.cellM
            have c17a : (wr.alloc (.cells #[] 32)).cell? ⟨b, 17, .none⟩ = some (.map (some mb)) := (hM5.alloc _).cellM
            have hlk := hMd.look s hss
            rw [HN.out] at hlk
            have hcv5 := ((HR.out.keep HSr.out.cell).heap (w' := wr.drew) rfl).conv
            have hcv7 := ((HR.out.keep (HSr.out.alloc (.cells #[] 32)).cell).heap (w' := (wr.alloc (.cells #[] 32)).drew) rfl).conv
            have hMa : MB (wr.alloc (.cells #[] 32)).drew base b D few mb D := (hM5.alloc _).heap rfl
            have hlk2 := hMa.look s hss
            rw [HN.out] at hlk2
            have hMb : MB (wr.alloc (.cells #[] 32)).drew.drew base b D few mb D := (hM5.alloc _).heap rfl
            obtain ⟨w3, hup, hM3, hB3, hS3⟩ := hMb.put (by omega) s hss
            have hcv8 := ((HR.out.keep (HSr.out.alloc (.cells #[] 32)).cell).heap (w' := (wr.alloc (.cells #[] 32)).drew.drew) rfl).conv
            have HP : Hid (AddPost w base b D few (.slice p n c) s w3) := by
              refine ⟨few, .map (some mb), ?_, ?_, ?_, (fun _ hh => by omega), fun _ _ h => .inl h⟩
              · rw [addD_new HN.out]
                exact (hM3.grow (by omega) s).to_MN (by rw [List.length_append, List.length_singleton]; omega)
              · exact ((((HBr.out.alloc (HBr.out.mono (Nat.le_refl _) |>.size |> fun h => Nat.le_trans hb0 h) _).drew).drew).trans hB3)
              · exact ((HSr.out.alloc _).trans (Still.heap rfl)).trans hS3
            clear hM3 hB3 hS3 hMa hMb hMd hM5
            go_upto_region 18 with (fail)
            go_region
            go_wp2_with fail
            all_goals
              go_region
              go_wp2_with fail
              go_ret
              exact ⟨ret_bool (by rw [HN.out]; rfl), HP.out⟩
end Go.Proofs.Ybulkdvna
