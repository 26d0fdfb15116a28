import Derived.Test.YbulkdvoqFmtHdr0
namespace Go.Proofs.YbulkdvoqFmt
open Go Go.RowKit Go.Extern.Stop Go.Stop Go.Extern

set_option maxHeartbeats 4000000 in
set_option maxRecDepth 100000 in
set_option linter.unusedSimpArgs false in
theorem hdr_any (F : Interp) (w : World) (br bs cs : Nat) (S : List Int) (pc : Option Addr) (nc cc : Nat) (C : List Int) (m : Int) (bo : Nat) (ae au : Addr) (h : Src w br bs cs S pc nc cc C m (.iface 38 (.pointer (some ⟨bo, 0, none⟩))))
    (hE : Errs w bo ae au) (h1 : Off br bo ae au) (hF : F.answers w.tape) (hS8 : ∀ i, 0 ≤ S.getD i 0 ∧ S.getD i 0 < 256) :
    Calls Ybaf.prog 5 #[.iface 29 (.pointer (some ⟨br, 0, none⟩))] w (HdrPost w br S m bo ae au) := by
  have hlt := h.lt
  have hB0 : Below w.heap.size w ((w.alloc (.cells Z19 34)).alloc (.cells Z23 43)) := ((Below.refl _ w).alloc (Nat.le_refl _) _).alloc (by simp) _
  have hbo : bo < w.heap.size := by
    obtain ⟨co, hc⟩ := hE.own
    rcases Nat.lt_or_ge bo w.heap.size with h' | h'
    · exact h'
    · rw [Array.getElem?_eq_none h'] at hc; cases hc
  obtain ⟨ve, hve⟩ := hE.e0
  obtain ⟨vu, hvu⟩ := hE.e1
  have hae := World.block_lt_of_cell? _ _ hve
  have hau := World.block_lt_of_cell? _ _ hvu
  have hg1 := World.block_lt_of_cell? _ _ hE.g1
  simp only at hg1
  have HFull := full_any ((w.alloc (.cells Z19 34)).alloc (.cells Z23 43)) br (w.heap.size + 1) bs cs S pc nc cc C m bo ae au (h.rd0 (.cells Z19 34) Z23 (bufOf0 S) hE.g0)
    (hE.block (hB0.block _ hbo) (hB0.block _ (by omega)) (hB0.block _ hg1) (hB0.block _ hae) (hB0.block _ hau)) h1 ⟨by omega, by omega, by omega, by omega, by omega⟩
  have hr0 : ((w.alloc (.cells Z19 34)).alloc (.cells Z23 43)).heap[w.heap.size]? = some (.cells Z19 34 (0, 0)) := heap_alloc2_old w _ _
  go_enter Ybaf.func5, Ybaf.ntmps5
  go_wp2_with fail
  go_at_call 6
  refine Calls.mono HFull ?_
  clear HFull
  rintro e w2 ⟨n, er, rfl, hR, hSt, hcase⟩
  have HK : Hid (Keep br w w2) := (Keep.of_below hB0).still hSt (by omega)
  have HRes : Hid (w2.heap[w.heap.size]? = some (.cells Z19 34 (0, 0))) := (hSt.block w.heap.size (by omega) (by omega)).trans hr0
  obtain ⟨k, hk, c0, c1, c2, c3, c4, c5, fz⟩ := hR.cells
  have HC1 : Hid (w2.cell? ⟨br, 1, none⟩ = some (.int .i64 (n : Int))) := c1
  have HC4 : Hid (w2.cell? ⟨br, 4, none⟩ = some (.int .u8 m)) := c4
  have hbf := hR.bf
  have hlim := hR.lim
  clear c0 c1 c2 c3 c4 c5 fz hr0 hB0 hve hvu hSt
  rcases hcase with ⟨rfl, rfl⟩ | ⟨hn, hnS, rfl⟩
  · have HBf : Hid (w2.heap[w.heap.size + 1]? = some (.cells (bufOf S 23).toArray 43 (0, 0))) := hbf
    have c16 : w2.cell? ⟨w.heap.size + 1, 16, none⟩ = some (.int .u8 (S.getD 16 0)) := by rw [cell_of_row w2 _ _ _ 43 (0, 0) hbf, List.getElem?_toArray, buf_at S 16 (by omega) hlim.1]
    have c17 : w2.cell? ⟨w.heap.size + 1, 17, none⟩ = some (.int .u8 (S.getD 17 0)) := by rw [cell_of_row w2 _ _ _ 43 (0, 0) hbf, List.getElem?_toArray, buf_at S 17 (by omega) hlim.1]
    have c18 : w2.cell? ⟨w.heap.size + 1, 18, none⟩ = some (.int .u8 (S.getD 18 0)) := by rw [cell_of_row w2 _ _ _ 43 (0, 0) hbf, List.getElem?_toArray, buf_at S 18 (by omega) hlim.1]
    have hl1 : w.heap.size + 1 < w2.heap.size := lt_of_block hbf
    have HCP := cp_id w2 (w.heap.size + 1) S hlim.1 hbf hl1
    have hB3 : Below w2.heap.size w2 (w2.alloc (.cells ((S.take 19).map (Value.int .u8)).toArray 34)).drew := ((Below.refl _ w2).alloc (Nat.le_refl _) _).drew
    have H3a : Hid (H3 w br w2.heap.size S m (w2.alloc (.cells ((S.take 19).map (Value.int .u8)).toArray 34)).drew) := show H3 _ _ _ _ _ _ from
      ⟨HK.out.below (hB3.mono HK.out.size), ⟨Z19, (hB3.block _ (lt_of_block HRes.out)).trans HRes.out, rfl⟩, heap_alloc_new w2 _, (hB3.cell (World.block_lt_of_cell? _ _ HC1.out)).trans HC1.out, (hB3.cell (World.block_lt_of_cell? _ _ HC4.out)).trans HC4.out, ⟨by omega, hlt⟩⟩
    have HBF3 : Hid ((w2.alloc (.cells ((S.take 19).map (Value.int .u8)).toArray 34)).drew.heap[w.heap.size + 1]? = some (.cells (bufOf S 23).toArray 43 (0, 0))) := (hB3.block _ hl1).trans hbf
    have HL4 : Hid (le4 S = S.getD 19 0 + S.getD 20 0 * 256 + S.getD 21 0 * 65536 + S.getD 22 0 * 16777216) := rfl
    have HU0 : Hid (∀ (W : World), W.heap[w.heap.size + 1]? = some (.cells (bufOf S 23).toArray 43 (0, 0)) → Calls Ybaf.prog 7 #[.agg #[], .slice (some ⟨w.heap.size + 1, 19, none⟩) 4 4] W.drew fun e w' => e = .returned (.int .u32 (le4 S)) ∧ w' = (W.drew.alloc (.cells #[] 47)).drew) := fun W hW => by
      have hc : ∀ j, j < 23 → W.drew.cell? ⟨w.heap.size + 1, j, none⟩ = some (.int .u8 (S.getD j 0)) := fun j hj => by
        rw [cell_of_row W.drew (w.heap.size + 1) j _ 43 (0, 0) hW, List.getElem?_toArray, buf_at S j hj hlim.1]
      exact u32_any (w.heap.size + 1) 19 4 4 _ _ _ _ W.drew (by omega) (hS8 19) (hS8 20) (hS8 21) (hS8 22) (hc 19 (by omega)) (hc 20 (by omega)) (hc 21 (by omega)) (hc 22 (by omega))
    have hSl := hlim.1
    clear hbf hB3 hS8 hR HL4
    generalize S.getD 16 0 = y16 at *
    generalize S.getD 17 0 = y17 at *
    generalize S.getD 18 0 = y18 at *
    have HSl : Hid (23 ≤ S.length) := hSl
    have HX0 : Hid (((S.take 19).map (Value.int .u8)).toArray.size = 19 ∧ (((S.take 19).map (Value.int .u8)).toArray).all (·.oneCell') = true ∧ hdrOf (S.take 19) = .agg ((S.take 19).map (Value.int .u8)).toArray) := ⟨row19 S (by omega), row19_one S, rfl⟩
    clear hSl hlim
    generalize hX : ((S.take 19).map (Value.int .u8)).toArray = X at *
    have HX : Hid (((S.take 19).map (Value.int .u8)).toArray = X) := hX
    clear hX
    go_upto_region 6 with (refine wpList_store_row rfl 34 (.tmp 8) (.tmp 26) rfl w2.heap.size (Z16 y16 y17 y18) (by rfl) (by rfl) 34 Z19 (heap_alloc_new w2 _) (by exact info34) (by rfl) (by kernel_rfl) ?_; rw [World.setRow_alloc_new])
    simp only [Act.put]
    go_region
    go_upto_region 7 with (fail)
    have HU := HU0.out _ HBF3.out
    have HUa : Hid (Calls Ybaf.prog 7 #[.agg #[], .slice (some ⟨w.heap.size + 1, 19, none⟩) 4 4] (w2.alloc (.cells X 34)).drew.drew fun e w' => e = .returned (.int .u32 (le4 S)) ∧ w' = ((w2.alloc (.cells X 34)).drew.drew.alloc (.cells #[] 47)).drew) := HU
    clear HU HCP c16 c17 c18
    generalize (w2.alloc (.cells X 34)).drew = W3 at *
    have H3b : Hid (H3 w br w2.heap.size S m (W3.drew.alloc (.cells #[] 47)).drew) := by
      have hb3 : Below W3.heap.size W3 W3.drew := (Below.refl _ _).drew
      exact H3a.out.below (hb3.alloc (Nat.le_refl _) _).drew
    go_region_with (go_at_call 7; refine Calls.mono HUa.out ?_; rintro e w4 ⟨rfl, hw4⟩)
    clear hw4 w4
    have H3c : Hid (H3 w br w2.heap.size S m (W3.alloc (.cells #[] 47)).drew.drew) := H3b.out
    clear H3b HUa HBF3 H3a
    generalize (W3.alloc (.cells #[] 47)).drew.drew = w4 at *
    have HT4 : Hid (w4.tape = w.tape) := H3c.out.keep.tape
    clear HC1 HC4 HRes HK HU0
    have HHd : Hid (w4.heap[w2.heap.size]? = some (.cells X 34 (0, 0))) := by
      have := H3c.out.hdr
      rwa [HX.out] at this
    obtain ⟨old, ho1, ho2⟩ := H3c.out.res
    have HO : Hid (w4.heap[w.heap.size]? = some (.cells old 34 (0, 0))) := ho1
    have HO2 : Hid (old.size = X.size) := by rw [HX0.out.1]; exact ho2
    have HI : Hid ((Ybaf.prog.info? 34).map (·.size) = some X.size) := by rw [HX0.out.1]; exact info34
    clear ho1 ho2
    have HLv : Hid (le4 S = le4 S) := rfl
    generalize hlv : le4 S = lv at HLv ⊢
    have HL : Hid (lv = le4 S) := hlv.symm
    clear hlv HLv
    by_cases hle : lv ≤ 65536
    · have HP : Hid (HdrPost w br S m bo ae au (.returned (.tuple #[.agg X, .int .u32 lv, .nilIface])) (w4.setRow w.heap.size X)) := by
        have hp := H3c.out.put X HX0.out.1
        exact ⟨23, .agg X, lv, .nilIface, rfl, hp.keep, hp.c1, hp.c4, .inl ⟨HSl.out, rfl, HX0.out.2.2.symm, HL.out, .inl ⟨hle, rfl⟩⟩⟩
      have HG : Hid ((w4.setRow w.heap.size X).heap[w.heap.size]? = some (.cells X 34 (0, 0))) := setRow_heap w4 _ _ _ 34 (0, 0) HO.out
      go_wp2_with (first
        | (refine wpList_load_row rfl 34 (.tmp 8) rfl w2.heap.size (by rfl) 34 X (0, 0) _ HHd.out Ybaf.underlying34 (by rfl) HI.out ?_)
        | (refine wpList_store_row rfl 34 (.tmp 2) (.tmp 43) rfl w.heap.size X (by rfl) (by rfl) 34 old HO.out HI.out HO2.out HX0.out.2.1 ?_))
      refine bodyPost_ret (results5 _ _ w.heap.size X rfl HG.out HX0.out.1) rfl ?_
      exact HP.out
    · go_upto_region 9 with (fail)
      refine wp_region_held (S := fun W => W.heap[w2.heap.size]? = some (.cells X 34 (0, 0))) (by kernel_rfl) ?_
      refine wpAnyH_take (i := 0) (v := .agg X) rfl (by kernel_rfl) (by kernel_rfl) (by kernel_rfl) (fun _ _ _ h => h) (Or.inl ⟨by rfl, fun w' hSw => ?_⟩) (by exact HHd.out) ?_
      · exact exec_load_row _ _ 34 (.tmp 8) rfl w' w2.heap.size rfl 34 X (0, 0) _ hSw Ybaf.underlying34 rfl HI.out
      simp only [Act.put, List.setIfInBounds_toArray, List.set_cons_zero, List.set_cons_succ]
      refine wpAnyH_take (i := 1) (v := .int .u32 lv) rfl (by kernel_rfl) (by kernel_rfl) (by kernel_rfl) (fun _ _ _ h => h) (Or.inl ⟨by rfl, fun w' hSw => ?_⟩) (by exact HHd.out) ?_
      · go_simp
      simp only [Act.put, List.setIfInBounds_toArray, List.set_cons_zero, List.set_cons_succ]
      refine wpAnyH_take (i := 2) (v := .int .u32 lv) rfl (by kernel_rfl) (by kernel_rfl) (by kernel_rfl) (fun _ _ _ h => h) (Or.inl ⟨by rfl, fun w' hSw => ?_⟩) (by exact HHd.out) ?_
      · go_simp
      simp only [Act.put, List.setIfInBounds_toArray, List.set_cons_zero, List.set_cons_succ]
      refine wpAnyH_take (i := 3) (v := .iface 23 (.int .u32 lv)) rfl (by kernel_rfl) (by kernel_rfl) (by kernel_rfl) (fun _ _ _ h => h) (Or.inl ⟨by rfl, fun w' hSw => ?_⟩) (by exact HHd.out) ?_
      · go_simp
      simp only [Act.put, List.setIfInBounds_toArray, List.set_cons_zero, List.set_cons_succ]
      refine wpAnyH_take (i := 4) (v := .iface 3 (.int .i64 65536)) rfl (by kernel_rfl) (by kernel_rfl) (by kernel_rfl) (fun _ _ _ h => h) (Or.inl ⟨by rfl, fun w' hSw => ?_⟩) (by exact HHd.out) ?_
      · go_simp
      simp only [Act.put, List.setIfInBounds_toArray, List.set_cons_zero, List.set_cons_succ]
      refine wpAnyH_one 5 (by kernel_rfl) (wpOp_run rfl rfl ?_)
      go_simp
      have hB5 : Below w4.heap.size w4 (w4.alloc (.cells #[.iface 23 (.int .u32 lv), .iface 3 (.int .i64 65536)] 20)).drew := ((Below.refl _ w4).alloc (Nat.le_refl _) _).drew
      have H5 := H3c.out.below hB5
      have k0 : (w4.alloc (.cells #[.iface 23 (.int .u32 lv), .iface 3 (.int .i64 65536)] 20)).drew.cell? ⟨w4.heap.size, 0, none⟩ = some (.iface 23 (.int .u32 lv)) := (cell_of_row _ _ _ _ 20 (0, 0) (heap_alloc_new w4 _)).trans rfl
      have k1 : (w4.alloc (.cells #[.iface 23 (.int .u32 lv), .iface 3 (.int .i64 65536)] 20)).drew.cell? ⟨w4.heap.size, 1, none⟩ = some (.iface 3 (.int .i64 65536)) := (cell_of_row _ _ _ _ 20 (0, 0) (heap_alloc_new w4 _)).trans rfl
      have hF5 : F.answers (w4.alloc (.cells #[.iface 23 (.int .u32 lv), .iface 3 (.int .i64 65536)] 20)).drew.tape := by
        have := H5.keep.tape
        rw [this]
        exact hF
      refine ⟨by have := H5.hdr; rwa [HX.out] at this, ?_⟩
      clear hB5
      generalize (w4.alloc (.cells #[.iface 23 (.int .u32 lv), .iface 3 (.int .i64 65536)] 20)).drew = W5 at *
      refine wpAnyH_one 6 (by kernel_rfl) (wpOp_run rfl rfl ?_)
      go_simp
      refine (errorf_any F lv 65536 w4.heap.size W5 hF5 k0 k1).mono ?_
      rintro e w6 ⟨rfl, tx, hw6⟩
      have hB6 : Below W5.heap.size W5 w6 := by rw [hw6]; exact ((Below.refl _ W5).alloc (Nat.le_refl _) _).drew
      have he6 : w6.heap[W5.heap.size]? = some (.cells #[.string tx] 40 (0, 0)) := by rw [hw6]; exact heap_alloc_new W5 _
      have H6 := H5.below hB6
      have hlt5 : w.heap.size ≤ W5.heap.size := H5.keep.size
      obtain ⟨old6, ho6, hz6⟩ := H6.res
      have hx6 : w6.heap[w2.heap.size]? = some (.cells X 34 (0, 0)) := by have := H6.hdr; rwa [HX.out] at this
      have hsx : X.size = 19 := HX0.out.1
      have H7 := H6.put X hsx
      have hx7 : (w6.setRow w.heap.size X).heap[w2.heap.size]? = some (.cells X 34 (0, 0)) := by have := H7.hdr; rwa [HX.out] at this
      have hne5 : W5.heap.size ≠ w.heap.size := by
        have := lt_of_block (H5.res.choose_spec.1)
        omega
      have HP : HdrPost w br S m bo ae au (.returned (.tuple #[.agg X, .int .u32 lv, .iface 38 (.pointer (some ⟨W5.heap.size, 0, none⟩))])) (w6.setRow w.heap.size X) :=
        ⟨23, .agg X, lv, _, rfl, H7.keep, H7.c1, H7.c4, .inl ⟨HSl.out, rfl, HX0.out.2.2.symm, HL.out, .inr ⟨by omega, W5.heap.size, _, rfl, hlt5, (setRow_other w6 _ _ X hne5).trans he6⟩⟩⟩
      have HG : (w6.setRow w.heap.size X).heap[w.heap.size]? = some (.cells X 34 (0, 0)) := setRow_heap w6 _ _ _ 34 (0, 0) ho6
      refine ⟨hx6, ?_⟩
      refine wpAnyH_one 7 (by kernel_rfl) (wpOp_run rfl rfl ?_)
      refine wp_store_row 34 (.tmp 2) (.tmp 36) rfl w.heap.size X (by rfl) (by rfl) 34 old6 ho6 HI.out (by rw [hz6, hsx]) HX0.out.2.1 ?_
      refine ⟨hx7, ?_⟩
      clear hw6 H5 H6 H7 hB6 he6 ho6 k0 k1 hF5 hx6
      generalize w6.setRow w.heap.size X = w7 at *
      simp only [Act.put]
      refine wpAnyH_take (i := 8) (v := .int .u32 lv) rfl (by kernel_rfl) (by kernel_rfl) (by kernel_rfl) (fun _ _ _ h => h) (Or.inl ⟨by rfl, fun w' hSw => ?_⟩) hx7 ?_
      · go_simp
      simp only [Act.put, List.setIfInBounds_toArray, List.set_cons_zero, List.set_cons_succ]
      refine wpAnyH_take (i := 9) (v := .iface 38 (.pointer (some ⟨W5.heap.size, 0, none⟩))) rfl (by kernel_rfl) (by kernel_rfl) (by kernel_rfl) (fun _ _ _ h => h) (Or.inl ⟨by rfl, fun w' hSw => ?_⟩) hx7 ?_
      · go_simp
      simp only [Act.put, List.setIfInBounds_toArray, List.set_cons_zero, List.set_cons_succ]
      refine wpAnyH_done (by kernel_rfl) ?_ _
      go_wp2_with fail
      refine bodyPost_ret (results5 _ _ w.heap.size X rfl HG hsx) rfl ?_
      exact HP
  · have HP : Hid (HdrPost w br S m bo ae au (.returned (.tuple #[.agg Z19, .int .u32 0, shortv m bo ae au n])) w2) := ⟨n, .agg Z19, 0, _, rfl, HK.out, HC1.out, HC4.out, .inr ⟨by omega, hnS, rfl, rfl, rfl⟩⟩
    unfold shortv at HP ⊢
    generalize (if m % 2 = 1 then (⟨bo, 0, none⟩ : Addr) else if n = 0 then ae else au) = ax at *
    clear hR hbf hlim hnS
    go_wp2_with (refine wpList_store_row rfl 34 (.tmp 2) (.tmp 18) rfl w.heap.size Z19 rfl rfl 34 Z19 HRes.out (by exact info34) (by rfl) (by kernel_rfl) ?_)
    rw [setRow_self w2 w.heap.size Z19 34 (0, 0) HRes.out]
    refine bodyPost_ret (results5 _ _ w.heap.size Z19 rfl HRes.out rfl) rfl ?_
    exact HP.out
end Go.Proofs.YbulkdvoqFmt
