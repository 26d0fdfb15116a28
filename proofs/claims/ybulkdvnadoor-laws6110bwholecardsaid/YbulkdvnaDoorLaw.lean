import Derived.Test.YbulkdvnaDoorPath
import Derived.Test.YbulkdvnaDoorOrd
namespace Go.Proofs.YbulkdvnaDoor
open Go Go.RowKit

theorem guard_ptr (w : World) (x y : Operand) (a b : Nat) : (eqGuard .eql 28 x y (.pointer (some ⟨a, 0, none⟩)) (.pointer (some ⟨b, 0, none⟩))).run Ybad.prog w = .ok () w := by
  unfold eqGuard
  rfl

set_option maxHeartbeats 16000000 in
set_option maxRecDepth 100000 in
set_option linter.unusedSimpArgs false in
theorem law_any (sch : Nat) (hs fr : ByteArray) (p1 p2 p3 : Option Addr) (c1 c2 c3 : Nat) (ss1 ss2 : List ByteArray) (ps : List (Nat × ByteArray)) (bl bt pl pt qn : Bool) (w : World)
    (h1 : StrsIn w p1 ss1) (h2 : StrsIn w p2 ss2) (h3 : PairsIn w p3 ps) (hT : TabIn w) (hsch : sch < 256) (hK : ∀ p ∈ ps, p.1 < 256)
    (hM1 : ∀ x ∈ ss1, x.size ≤ 140737488351232) (hM2 : ∀ x ∈ ss2, x.size ≤ 140737488351232) (hM3 : ∀ p ∈ ps, p.2.size ≤ 140737488351232) (hMh : hs.size ≤ 140737488351232) (hMf : fr.size ≤ 140737488351232)
    (hL1 : ss1.length ≤ 140737488355328) (hL2 : ss2.length ≤ 140737488355328) (hL3 : ps.length ≤ 140737488355328) :
    Calls Ybad.prog 3 #[.int .u8 (sch : Int), .string hs, .slice p1 ss1.length c1, .bool bl, .bool bt, .slice p2 ss2.length c2, .bool pl, .bool pt, .slice p3 ps.length c3, .bool qn, .string fr] w
      fun e w' => e = .returned (.bool true) ∧ Below w.heap.size w w' := by
  have HS1 : Hid (StrsIn w p1 ss1) := h1
  have HS2 : Hid (StrsIn w p2 ss2) := h2
  have HS3 : Hid (PairsIn w p3 ps) := h3
  have HT : Hid (TabIn w) := hT
  have HK : Hid (∀ p ∈ ps, p.1 < 256) := hK
  have hs1 := sumS_max ss1 _ hM1
  have hs2 := sumS_max ss2 _ hM2
  have hs3 := sumP_max ps _ hM3
  clear h1 h2 h3 hT hK hM1 hM2 hM3
  rcases Nat.lt_or_ge 65536 (hs.size + fr.size + ss1.length + ss2.length + ps.length) with hbig | hsm
  · go_enter Ybad.func3, Ybad.ntmps3
    go_wp2_with fail
    go_ret
    exact ⟨rfl, Below.refl _ _⟩
  · have hall : hs.size + fr.size + ss1.length + ss2.length + ps.length + sumS ss1 + sumS ss2 + sumP ps ≤ 9223372036854775807 := by omega
    have HA : Hid (hs.size + fr.size + ss1.length + ss2.length + ps.length + sumS ss1 + sumS ss2 + sumP ps ≤ 9223372036854775807) := hall
    clear hs1 hs2 hs3 hMh hMf hL1 hL2 hL3 hall
    go_enter Ybad.func3, Ybad.ntmps3
    go_wp2_with fail
    obtain ⟨T, hTd⟩ : ∃ T, T = hs.size + fr.size + ss1.length + ss2.length + ps.length := ⟨_, rfl⟩
    rw [← hTd] at HA
    go_loop [23, 24] (fun t i => ∃ k : Nat, k ≤ ss1.length ∧ i = .int .i64 (k : Int) ∧ t = .int .i64 ((T + sumS (ss1.take k) : Nat) : Int)) (fun _ i => ss1.length - (intOf i).toNat)
    case atStart => exact ⟨0, Nat.zero_le _, rfl, by rw [show sumS (ss1.take 0) = 0 from rfl, hTd]; go_num⟩
    case round =>
      obtain ⟨k, hk, rfl, rfl⟩ := hrel
      by_cases hlt : k < ss1.length
      · obtain ⟨b, o, rfl, hc⟩ := HS1.out (by omega)
        have hcell := hc k hlt
        have HT2 : Hid (sumS (ss1.take (k + 1)) = sumS (ss1.take k) + ss1[k].size) := sumS_take ss1 k hlt
        have hbd : T + sumS (ss1.take k) + ss1[k].size ≤ 9223372036854775807 := by
          have h1 := HT2.out
          have h2 := sumS_le ss1 (k + 1) hlt
          have h3 := HA.out
          omega
        generalize ss1[k] = x at *
        generalize sumS (ss1.take k) = sk at *
        clear hc
        go_wp2_with fail
        go_round
        case rel => exact ⟨k + 1, by omega, by go_num, by rw [HT2.out]; go_num⟩
        case measure => simp [intOf]; omega
      · obtain rfl : k = ss1.length := by omega
        rw [List.take_length]
        clear hk hlt
        go_upto_region 9 with (fail)
        go_loop [23, 25] (fun t i => ∃ k : Nat, k ≤ ss2.length ∧ i = .int .i64 (k : Int) ∧ t = .int .i64 ((T + sumS ss1 + sumS (ss2.take k) : Nat) : Int)) (fun _ i => ss2.length - (intOf i).toNat)
        case atStart => exact ⟨0, Nat.zero_le _, rfl, by rw [show sumS (ss2.take 0) = 0 from rfl]; go_num⟩
        case round =>
          obtain ⟨k, hk, rfl, rfl⟩ := hrel
          by_cases hlt : k < ss2.length
          · obtain ⟨b, o, rfl, hc⟩ := HS2.out (by omega)
            have hcell := hc k hlt
            have HT2 : Hid (sumS (ss2.take (k + 1)) = sumS (ss2.take k) + ss2[k].size) := sumS_take ss2 k hlt
            have hbd : T + sumS ss1 + sumS (ss2.take k) + ss2[k].size ≤ 9223372036854775807 := by
              have h1 := HT2.out
              have h2 := sumS_le ss2 (k + 1) hlt
              have h3 := HA.out
              omega
            generalize ss2[k] = x at *
            generalize sumS (ss2.take k) = sk at *
            clear hc
            go_wp2_with fail
            go_round
            case rel => exact ⟨k + 1, by omega, by go_num, by rw [HT2.out]; go_num⟩
            case measure => simp [intOf]; omega
          · obtain rfl : k = ss2.length := by omega
            rw [List.take_length]
            clear hk hlt
            go_upto_region 13 with (fail)
            go_loop [23, 26] (fun t i => ∃ k : Nat, k ≤ ps.length ∧ i = .int .i64 (k : Int) ∧ t = .int .i64 ((T + sumS ss1 + sumS ss2 + sumP (ps.take k) : Nat) : Int)) (fun _ i => ps.length - (intOf i).toNat)
            case atStart => exact ⟨0, Nat.zero_le _, rfl, by rw [show sumP (ps.take 0) = 0 from rfl]; go_num⟩
            case round =>
              obtain ⟨k, hk, rfl, rfl⟩ := hrel
              by_cases hlt : k < ps.length
              · obtain ⟨b, o, rfl, hc⟩ := HS3.out (by omega)
                have hcell := (hc k hlt).2
                have HT2 : Hid (sumP (ps.take (k + 1)) = sumP (ps.take k) + ps[k].2.size) := sumP_take ps k hlt
                have hbd : T + sumS ss1 + sumS ss2 + sumP (ps.take k) + ps[k].2.size ≤ 9223372036854775807 := by
                  have h1 := HT2.out
                  have h2 := sumP_le ps (k + 1)
                  have h3 := HA.out
                  omega
                generalize ps[k] = x at *
                generalize sumP (ps.take k) = sk at *
                clear hc
                go_wp2_with fail
                go_round
                case rel => exact ⟨k + 1, by omega, by go_num, by rw [HT2.out]; go_num⟩
                case measure => simp [intOf]; omega
              · obtain rfl : k = ps.length := by omega
                rw [List.take_length]
                clear hk hlt
                rcases Nat.lt_or_ge 65536 (T + sumS ss1 + sumS ss2 + sumP ps) with hbig | hsm2
                · go_wp2_with fail
                  go_ret
                  exact ⟨rfl, Below.refl _ _⟩
                · have HA2 : Hid (T + sumS ss1 + sumS ss2 + sumP ps ≤ 65536) := hsm2
                  --MARK
                  have hB2 : Below w.heap.size w ((w.alloc (.cells sch3 26)).alloc (.cells key3 26)) := ((Below.refl _ w).alloc (Nat.le_refl _) _).alloc (by simp) _
                  have HS : Hid (SchIn ((w.alloc (.cells sch3 26)).alloc (.cells key3 26)) w.heap.size) := SchIn.of (heap_alloc2_old w _ _)
                  have HKy : Hid (KeyIn ((w.alloc (.cells sch3 26)).alloc (.cells key3 26)) (w.heap.size + 1)) := KeyIn.of (by have := heap_alloc_new (w.alloc (.cells sch3 26)) (.cells key3 26); rwa [World.size_alloc] at this)
                  have HB : Hid (Below w.heap.size w ((w.alloc (.cells sch3 26)).alloc (.cells key3 26))) := hB2
                  have HBuild := build_any bl bt p1 c1 ss1 ((w.alloc (.cells sch3 26)).alloc (.cells key3 26)) (HS1.out.below hB2) (by omega) (by omega)
                  have hst : ∀ X Z, ((w.alloc (.cells sch3 26)).alloc (.cells Z 26)).setRow (w.heap.size + 1) X = (w.alloc (.cells sch3 26)).alloc (.cells X 26) := fun X Z => by
                    have := World.setRow_alloc_new (w.alloc (.cells sch3 26)) Z X 26
                    rwa [World.size_alloc] at this
                  have hnw : ∀ o, ((w.alloc (.cells sch3 26)).alloc o).heap[w.heap.size + 1]? = some o := fun o => by
                    have := heap_alloc_new (w.alloc (.cells sch3 26)) o
                    rwa [World.size_alloc] at this
                  clear hB2
                  go_wp2_with (first
                    | (refine wpList_store_row rfl 26 (.tmp 27) (.tmp 102) rfl w.heap.size sch3 (by rfl) (by rfl) 26 _ (heap_alloc_new w _) (by exact info26) (by rfl) (by kernel_rfl) ?_; rw [World.setRow_alloc_new])
                    | (refine wpList_store_row rfl 26 (.tmp 28) (.tmp 103) rfl (w.heap.size + 1) key3 (by rfl) (by rfl) 26 _ (hnw _) (by exact info26) (by rfl) (by kernel_rfl) ?_; rw [hst])
                    | (go_at_call 4; refine Calls.mono HBuild ?_; rintro e w3 ⟨bp, rfl, hbp, hbl, hB3⟩; clear HBuild hst hnw))
                  have HB3 : Hid (Below w.heap.size w w3) := HB.out.trans (hB3.mono HB.out.size)
                  have HS3s : Hid (SchIn w3 w.heap.size) := HS.out.below hB3
                  have HK3 : Hid (KeyIn w3 (w.heap.size + 1)) := HKy.out.below hB3
                  have HOk : Hid (Ok bp) := hbp
                  have HMh := fun W => map_any hs W (by omega)
                  have HMf := fun W => map_any fr W (by omega)
                  obtain ⟨i3, hi3⟩ : ∃ i3, i3 = sch % 3 := ⟨_, rfl⟩
                  have hmod : (sch : Int).tmod 3 = (i3 : Int) := by
                    rw [Int.tmod_eq_emod_of_nonneg (by omega), hi3]
                    rfl
                  have hm3 : i3 < 3 := by rw [hi3]; exact Nat.mod_lt _ (by omega)
                  have hm3' : (i3 : Int) < 3 := by omega
                  have hwr : IntKind.i64.wrap (sch : Int) = (sch : Int) := by simp [IntKind.wrap, IntKind.bits, IntKind.signed]; omega
                  clear hi3
                  clear HS HKy HB hB3 hbp
                  go_cut [23, 24, 25, 26, 30] from 44 to 119 (fun _ _ _ _ bv wx => ∃ b, bv = .pointer (some ⟨b, 0, none⟩) ∧ w.heap.size + 1 < b ∧ Hid (UrlAt wx b (schB (i3)) (mapB hs) ⟨bp.toArray⟩ (mapB fr) ⟨#[]⟩) ∧ Hid (Below w.heap.size w wx) ∧ Hid (KeyIn wx (w.heap.size + 1)))
                  case first =>
                    --BEGIN A
                    refine wp_region_held (S := fun W => SchIn W w.heap.size ∧ KeyIn W (w.heap.size + 1) ∧ Below w.heap.size w W) (by kernel_rfl) ?_
                    have hS0 : SchIn { w3 with drawn := w3.drawn + 1 } w.heap.size ∧ KeyIn { w3 with drawn := w3.drawn + 1 } (w.heap.size + 1) ∧ Below w.heap.size w { w3 with drawn := w3.drawn + 1 } := ⟨HS3s.out, HK3.out, HB3.out.drew⟩
                    generalize { w3 with drawn := w3.drawn + 1 } = w4 at hS0 ⊢
                    refine wpAnyH_take (i := 0) (v := .int .u8 (sch : Int)) rfl (by kernel_rfl) (by kernel_rfl) (by kernel_rfl) (fun _ _ _ h => h) (Or.inl ⟨by rfl, fun w' hSw => ?_⟩) hS0 ?_
                    · go_simp
                    try simp only [Act.put, List.getElem_toArray, List.getElem_cons_zero, List.getElem_cons_succ, List.setIfInBounds_toArray, List.set_cons_zero, List.set_cons_succ]
                    refine wpAnyH_take (i := 1) (v := .int .i64 (sch : Int)) rfl (by kernel_rfl) (by kernel_rfl) (by kernel_rfl) (fun _ _ _ h => h) (Or.inl ⟨by rfl, fun w' hSw => ?_⟩) hS0 ?_
                    · go_simp
                    try simp only [Act.put, List.getElem_toArray, List.getElem_cons_zero, List.getElem_cons_succ, List.setIfInBounds_toArray, List.set_cons_zero, List.set_cons_succ]
                    refine wpAnyH_take (i := 2) (v := .int .i64 (i3 : Int)) rfl (by kernel_rfl) (by kernel_rfl) (by kernel_rfl) (fun _ _ _ h => h) (Or.inl ⟨by rfl, fun w' hSw => ?_⟩) hS0 ?_
                    · go_simp
                    try simp only [Act.put, List.getElem_toArray, List.getElem_cons_zero, List.getElem_cons_succ, List.setIfInBounds_toArray, List.set_cons_zero, List.set_cons_succ]
                    refine wpAnyH_take (i := 3) (v := .pointer (some ⟨w.heap.size, i3, none⟩)) rfl (by kernel_rfl) (by kernel_rfl) (by kernel_rfl) (fun _ _ _ h => h) (Or.inl ⟨by rfl, fun w' hSw => ?_⟩) hS0 ?_
                    · go_simp
                    try simp only [Act.put, List.getElem_toArray, List.getElem_cons_zero, List.getElem_cons_succ, List.setIfInBounds_toArray, List.set_cons_zero, List.set_cons_succ]
                    refine wpAnyH_take (i := 4) (v := .string (schB (i3))) rfl (by kernel_rfl) (by kernel_rfl) (by kernel_rfl) (fun _ _ _ h => h) (Or.inl ⟨by rfl, fun w' hSw => ?_⟩) hS0 ?_
                    · have hcl := hSw.1 (i3) hm3
                      go_simp
                    try simp only [Act.put, List.getElem_toArray, List.getElem_cons_zero, List.getElem_cons_succ, List.setIfInBounds_toArray, List.set_cons_zero, List.set_cons_succ]
                    refine wpAnyH_take (i := 5) (v := .string hs) rfl (by kernel_rfl) (by kernel_rfl) (by kernel_rfl) (fun _ _ _ h => h) (Or.inl ⟨by rfl, fun w' hSw => ?_⟩) hS0 ?_
                    · go_simp
                    try simp only [Act.put, List.getElem_toArray, List.getElem_cons_zero, List.getElem_cons_succ, List.setIfInBounds_toArray, List.set_cons_zero, List.set_cons_succ]
                    refine wpAnyH_take (i := 7) (v := .string ⟨bp.toArray⟩) rfl (by kernel_rfl) (by kernel_rfl) (by kernel_rfl) (fun _ _ _ h => h) (Or.inl ⟨by rfl, fun w' hSw => ?_⟩) hS0 ?_
                    · go_simp
                    try simp only [Act.put, List.getElem_toArray, List.getElem_cons_zero, List.getElem_cons_succ, List.setIfInBounds_toArray, List.set_cons_zero, List.set_cons_succ]
                    refine wpAnyH_take (i := 8) (v := .string fr) rfl (by kernel_rfl) (by kernel_rfl) (by kernel_rfl) (fun _ _ _ h => h) (Or.inl ⟨by rfl, fun w' hSw => ?_⟩) hS0 ?_
                    · go_simp
                    try simp only [Act.put, List.getElem_toArray, List.getElem_cons_zero, List.getElem_cons_succ, List.setIfInBounds_toArray, List.set_cons_zero, List.set_cons_succ]
                    refine wpAnyH_one 6 (by kernel_rfl) (wpOp_run rfl rfl ?_)
                    go_simp
                    refine (HMh w4).mono ?_
                    rintro e w5 ⟨rfl, hB5⟩
                    have hS5 : SchIn w5 w.heap.size ∧ KeyIn w5 (w.heap.size + 1) ∧ Below w.heap.size w w5 := ⟨hS0.1.below hB5, hS0.2.1.below hB5, hS0.2.2.trans (hB5.mono hS0.2.2.size)⟩
                    refine ⟨hS5, ?_⟩
                    try simp only [Act.put, List.getElem_toArray, List.getElem_cons_zero, List.getElem_cons_succ, List.setIfInBounds_toArray, List.set_cons_zero, List.set_cons_succ]
                    refine wpAnyH_one 9 (by kernel_rfl) (wpOp_run rfl rfl ?_)
                    go_simp
                    refine (HMf w5).mono ?_
                    rintro e w6 ⟨rfl, hB6⟩
                    have hS6 : SchIn w6 w.heap.size ∧ KeyIn w6 (w.heap.size + 1) ∧ Below w.heap.size w w6 := ⟨hS5.1.below hB6, hS5.2.1.below hB6, hS5.2.2.trans (hB6.mono hS5.2.2.size)⟩
                    refine ⟨hS6, ?_⟩
                    try simp only [Act.put, List.getElem_toArray, List.getElem_cons_zero, List.getElem_cons_succ, List.setIfInBounds_toArray, List.set_cons_zero, List.set_cons_succ]
                    refine wpAnyH_take (i := 10) (v := .agg (urlC (schB (i3)) (mapB hs) ⟨bp.toArray⟩ (mapB fr) ⟨#[]⟩)) rfl (by kernel_rfl) (by kernel_rfl) (by kernel_rfl) (fun _ _ _ h => h) (Or.inl ⟨by rfl, fun w' hSw => ?_⟩) hS6 ?_
                    · go_simp
                    try simp only [Act.put, List.getElem_toArray, List.getElem_cons_zero, List.getElem_cons_succ, List.setIfInBounds_toArray, List.set_cons_zero, List.set_cons_succ]
                    refine wpAnyH_one 11 (by kernel_rfl) (wpOp_run rfl rfl ?_)
                    go_simp
                    have hB7 : Below w6.heap.size w6 (w6.alloc (.cells (urlC (schB i3) (mapB hs) ⟨bp.toArray⟩ (mapB fr) ⟨#[]⟩) 32)) := (Below.refl _ _).alloc (Nat.le_refl _) _
                    have hU7 : UrlAt (w6.alloc (.cells (urlC (schB i3) (mapB hs) ⟨bp.toArray⟩ (mapB fr) ⟨#[]⟩) 32)) w6.heap.size (schB i3) (mapB hs) ⟨bp.toArray⟩ (mapB fr) ⟨#[]⟩ := heap_alloc_new w6 _
                    have hS7 := And.intro (hS6.1.below hB7) (And.intro (hS6.2.1.below hB7) (hS6.2.2.trans (hB7.mono hS6.2.2.size)))
                    have hlt : w.heap.size + 1 < w6.heap.size := World.block_lt_of_cell? _ _ (hS6.2.1 0 (by omega))
                    refine ⟨hS7, ?_⟩
                    clear hB7 hB6 hB5 hS0 hS5
                    generalize w6.alloc (.cells (urlC (schB i3) (mapB hs) ⟨bp.toArray⟩ (mapB fr) ⟨#[]⟩) 32) = w7 at *
                    refine wpAnyH_one 12 (by kernel_rfl) (wpOp_run rfl rfl ?_)
                    go_simp
                    refine ⟨by kernel_rfl, ?_⟩
                    go_wp2_with fail
                    go_meet
                    case rel => exact ⟨w6.heap.size, rfl, hlt, hU7, hS7.2.2, hS7.2.1⟩
                    --END A
                  case rest =>
                    obtain ⟨b, rfl, hbb, HU, HB, HKy⟩ := hcut
                    have hblt : b < wc.heap.size := lt_of_block HU.out
                    have hB5 : Below wc.heap.size wc (wc.alloc (.cells (urlC (schB i3) (mapB hs) ⟨bp.toArray⟩ (mapB fr) ⟨#[]⟩) 32)) := (Below.refl _ _).alloc (Nat.le_refl _) _
                    have HBw5 : Below w.heap.size w (wc.alloc (.cells (urlC (schB i3) (mapB hs) ⟨bp.toArray⟩ (mapB fr) ⟨#[]⟩) 32)) := HB.out.trans (hB5.mono HB.out.size)
                    have HBuild := build_any pl pt p2 c2 ss2 (wc.alloc (.cells (urlC (schB i3) (mapB hs) ⟨bp.toArray⟩ (mapB fr) ⟨#[]⟩) 32)) (HS2.out.below HBw5) (by omega) (by omega)
                    have HU5 : Hid (UrlAt (wc.alloc (.cells (urlC (schB i3) (mapB hs) ⟨bp.toArray⟩ (mapB fr) ⟨#[]⟩) 32)) b (schB i3) (mapB hs) ⟨bp.toArray⟩ (mapB fr) ⟨#[]⟩) := HU.out.below hB5
                    have HV5 : Hid (UrlAt (wc.alloc (.cells (urlC (schB i3) (mapB hs) ⟨bp.toArray⟩ (mapB fr) ⟨#[]⟩) 32)) wc.heap.size (schB i3) (mapB hs) ⟨bp.toArray⟩ (mapB fr) ⟨#[]⟩) := heap_alloc_new wc _
                    have HK5 : Hid (KeyIn (wc.alloc (.cells (urlC (schB i3) (mapB hs) ⟨bp.toArray⟩ (mapB fr) ⟨#[]⟩) 32)) (w.heap.size + 1)) := HKy.out.below hB5
                    have HBw5 : Hid (Below w.heap.size w (wc.alloc (.cells (urlC (schB i3) (mapB hs) ⟨bp.toArray⟩ (mapB fr) ⟨#[]⟩) 32))) := HBw5
                    clear hB5 HMh HMf hwr hmod hm3' HS3s HK3 HB3 hm3
                    go_upto_if 128 with (first
                      | (refine wpList_load_row rfl 32 (.tmp 121) rfl b (by rfl) 32 _ (0, 0) _ HU.out und32 (by rfl) (by exact info32) ?_)
                      | (refine wpList_store_row rfl 32 (.tmp 31) (.tmp 122) rfl wc.heap.size (urlC (schB i3) (mapB hs) ⟨bp.toArray⟩ (mapB fr) ⟨#[]⟩) (by rfl) (by rfl) 32 _ (heap_alloc_new wc _) (by exact info32) (by rfl) (by rfl) ?_; rw [World.setRow_alloc_new])
                      | (go_at_call 4; refine Calls.mono HBuild ?_; rintro e w6 ⟨pp, rfl, hpp, hpl, hB6⟩; clear HBuild))
                    have HU6 : Hid (UrlAt w6 b (schB i3) (mapB hs) ⟨bp.toArray⟩ (mapB fr) ⟨#[]⟩) := HU5.out.below hB6
                    have HV6 : Hid (UrlAt w6 wc.heap.size (schB i3) (mapB hs) ⟨bp.toArray⟩ (mapB fr) ⟨#[]⟩) := HV5.out.below hB6
                    have HK6 : Hid (KeyIn w6 (w.heap.size + 1)) := HK5.out.below hB6
                    have HB6 : Hid (Below w.heap.size w w6) := HBw5.out.trans (hB6.mono HBw5.out.size)
                    have HOp : Hid (Ok pp) := hpp
                    clear HU5 HV5 HK5 HBw5 hB6 hpp HU HB HKy
                    obtain ⟨n31, hn31⟩ : ∃ n, n = wc.heap.size := ⟨_, rfl⟩
                    rw [← hn31] at HV6 ⊢
                    clear hn31
                    obtain ⟨rqE, hrqE⟩ : ∃ rqE, rqE = if qn then [] else encL (QL ps) := ⟨_, rfl⟩
                    have HRq : Hid (rqE = if qn then [] else encL (QL ps)) := hrqE
                    clear hrqE
                    go_cut [33, 34, 35] from 120 to 157 (fun qv _ _ wx => Hid (EncC wx qv ⟨rqE.toArray⟩) ∧ Hid (Below w6.heap.size w6 wx))
                    case first =>
                      --BEGIN B
                      cases qn with
                      | true =>
                        have hE : Hid (EncC w6 (.map none) ⟨rqE.toArray⟩) := by
                          have e : rqE = [] := HRq.out
                          rw [e]
                          exact enc_nil w6
                        go_wp2_with fail
                        go_meet
                        case rel => exact ⟨hE, Below.refl _ _⟩
                      | false =>
                        have HQ0 : Hid (QM (w6.alloc (.map #[] 0)) w6.heap.size w6.heap.size 0 (.map []) (fun _ => .slice none 0 0) (QL (ps.take 0))) := QM.start w6
                        have HBq : Hid (Below w6.heap.size w6 (w6.alloc (.map #[] 0))) := (Below.refl _ _).alloc (Nat.le_refl _) _
                        have hmk : (Instr.makeMap 34 none).run Ybad.prog w6 = .ok (.map (some w6.heap.size)) (w6.alloc (.map #[] 0)) := by kernel_rfl
                        go_upto_region 28 with (fail)
                        go_loopw [34, 35] (fun iv _ wr => ∃ k : Nat, k ≤ ps.length ∧ iv = .int .i64 (k : Int) ∧ Hid (∃ D V, QM wr w6.heap.size w6.heap.size k D V (QL (ps.take k))) ∧ Hid (Below w6.heap.size w6 wr)) (fun iv _ _ => ps.length - (intOf iv).toNat)
                        case atStart => exact ⟨0, Nat.zero_le _, rfl, ⟨_, _, HQ0⟩, HBq⟩
                        case round =>
                          clear HQ0 HBq
                          obtain ⟨k, hk, rfl, HQ, HBr⟩ := hrel
                          by_cases hlt : k < ps.length
                          · obtain ⟨D, V, hq⟩ := HQ.out
                            obtain ⟨pb, po, rfl, hc⟩ := HS3.out (by omega)
                            have hBw : Below w.heap.size w wr := HB6.out.trans (HBr.out.mono HB6.out.size)
                            have hpb : pb < w.heap.size := World.block_lt_of_cell? _ _ (hc k hlt).1
                            have cK := (hBw.cell (World.block_lt_of_cell? _ _ (hc k hlt).1)).trans (hc k hlt).1
                            have cV := (hBw.cell (World.block_lt_of_cell? _ _ (hc k hlt).2)).trans (hc k hlt).2
                            have hkk := HK.out ps[k] (List.getElem_mem hlt)
                            have HQs : Hid (QL (ps.take (k + 1)) = upd (QL (ps.take k)) (ps[k].1 % 3) (QL (ps.take k) (ps[k].1 % 3) ++ [(mapB ps[k].2).data.toList])) := by
                              rw [List.take_succ_eq_append_getElem hlt]
                              exact QL_upd _ _
                            have hxs : ps[k].2.size ≤ 65536 := by
                              have h1 := sumP_mem (List.getElem_mem hlt)
                              have h2 := HA2.out
                              omega
                            obtain ⟨j3, hj3⟩ : ∃ j3, j3 = ps[k].1 % 3 := ⟨_, rfl⟩
                            have hmod : ((ps[k].1 : Nat) : Int).tmod 3 = (j3 : Int) := by
                              rw [Int.tmod_eq_emod_of_nonneg (by omega), hj3]
                              rfl
                            have hm3 : j3 < 3 := by rw [hj3]; exact Nat.mod_lt _ (by omega)
                            have hm3' : (j3 : Int) < 3 := by omega
                            rw [← hj3] at HQs
                            have hwr : IntKind.i64.wrap ((ps[k].1 : Nat) : Int) = ((ps[k].1 : Nat) : Int) := by simp [IntKind.wrap, IntKind.bits, IntKind.signed]; omega
                            have hky := (HBr.out.cell (World.block_lt_of_cell? _ _ (HK6.out j3 hm3))).trans (HK6.out j3 hm3)
                            have hlk := hq.look j3 hm3
                            have HqH : Hid (QM wr w6.heap.size w6.heap.size k D V (QL (ps.take k))) := hq
                            clear hj3 hc hq
                            generalize ps[k].1 = kk at *
                            generalize ps[k].2 = x at *
                            go_upto_region 31 with (fail)
                            refine Ord.wp_region_T (fun W => (Instr.lookup 34 (.map (some w6.heap.size)) (.string (keyB j3)) false).run Ybad.prog W = .ok (V j3) W ∧ W.cell? ⟨pb, po + k * 2 + 1, none⟩ = some (.string x)) 13 (by kernel_rfl) ?_
                            have hbd : Below wr.heap.size wr wr.drew := (Below.refl _ _).drew
                            have hS0 : (Instr.lookup 34 (.map (some w6.heap.size)) (.string (keyB j3)) false).run Ybad.prog wr.drew = .ok (V j3) wr.drew ∧ wr.drew.cell? ⟨pb, po + k * 2 + 1, none⟩ = some (.string x) := ⟨(HqH.out.below hbd).look j3 hm3, cV⟩
                            have hkl : (k : Int) < (ps.length : Int) := by omega
                            have HMx := map_any x wr.drew (by omega)
                            clear hlk cK cV hky hmod hwr
                            refine Ord.wpT_take 0 (v := .map (some w6.heap.size)) rfl (by kernel_rfl) (by kernel_rfl) (by kernel_rfl) (by kernel_rfl) (by kernel_rfl) (fun _ _ _ h => h) (Or.inl ⟨by rfl, fun w' hSw => ?_⟩) hS0 ?_
                            · go_simp
                            try simp only [Act.put, List.getElem_toArray, List.getElem_cons_zero, List.getElem_cons_succ, List.setIfInBounds_toArray, List.set_cons_zero, List.set_cons_succ]
                            refine Ord.wpT_take 1 (v := .string (keyB j3)) rfl (by kernel_rfl) (by kernel_rfl) (by kernel_rfl) (by kernel_rfl) (by kernel_rfl) (fun _ _ _ h => h) (Or.inl ⟨by rfl, fun w' hSw => ?_⟩) hS0 ?_
                            · go_simp
                            try simp only [Act.put, List.getElem_toArray, List.getElem_cons_zero, List.getElem_cons_succ, List.setIfInBounds_toArray, List.set_cons_zero, List.set_cons_succ]
                            refine Ord.wpT_take 2 (v := .map (some w6.heap.size)) rfl (by kernel_rfl) (by kernel_rfl) (by kernel_rfl) (by kernel_rfl) (by kernel_rfl) (fun _ _ _ h => h) (Or.inl ⟨by rfl, fun w' hSw => ?_⟩) hS0 ?_
                            · go_simp
                            try simp only [Act.put, List.getElem_toArray, List.getElem_cons_zero, List.getElem_cons_succ, List.setIfInBounds_toArray, List.set_cons_zero, List.set_cons_succ]
                            refine Ord.wpT_take 3 (v := .string (keyB j3)) rfl (by kernel_rfl) (by kernel_rfl) (by kernel_rfl) (by kernel_rfl) (by kernel_rfl) (fun _ _ _ h => h) (Or.inl ⟨by rfl, fun w' hSw => ?_⟩) hS0 ?_
                            · go_simp
                            try simp only [Act.put, List.getElem_toArray, List.getElem_cons_zero, List.getElem_cons_succ, List.setIfInBounds_toArray, List.set_cons_zero, List.set_cons_succ]
                            refine Ord.wpT_take 4 (v := V j3) rfl (by kernel_rfl) (by kernel_rfl) (by kernel_rfl) (by kernel_rfl) (by kernel_rfl) (fun _ _ _ h => h) (Or.inl ⟨by rfl, fun w' hSw => ?_⟩) hS0 ?_
                            · have hlk := hSw.1
                              go_simp
                            try simp only [Act.put, List.getElem_toArray, List.getElem_cons_zero, List.getElem_cons_succ, List.setIfInBounds_toArray, List.set_cons_zero, List.set_cons_succ]
                            refine Ord.wpT_take 5 (v := .slice (some ⟨pb, po, none⟩) ps.length c3) rfl (by kernel_rfl) (by kernel_rfl) (by kernel_rfl) (by kernel_rfl) (by kernel_rfl) (fun _ _ _ h => h) (Or.inl ⟨by rfl, fun w' hSw => ?_⟩) hS0 ?_
                            · go_simp
                            try simp only [Act.put, List.getElem_toArray, List.getElem_cons_zero, List.getElem_cons_succ, List.setIfInBounds_toArray, List.set_cons_zero, List.set_cons_succ]
                            refine Ord.wpT_take 6 (v := .int .i64 (k : Int)) rfl (by kernel_rfl) (by kernel_rfl) (by kernel_rfl) (by kernel_rfl) (by kernel_rfl) (fun _ _ _ h => h) (Or.inl ⟨by rfl, fun w' hSw => ?_⟩) hS0 ?_
                            · go_simp
                            try simp only [Act.put, List.getElem_toArray, List.getElem_cons_zero, List.getElem_cons_succ, List.setIfInBounds_toArray, List.set_cons_zero, List.set_cons_succ]
                            refine Ord.wpT_take 7 (v := .pointer (some ⟨pb, po + k * 2, none⟩)) rfl (by kernel_rfl) (by kernel_rfl) (by kernel_rfl) (by kernel_rfl) (by kernel_rfl) (fun _ _ _ h => h) (Or.inl ⟨by rfl, fun w' hSw => ?_⟩) hS0 ?_
                            · go_simp
                            try simp only [Act.put, List.getElem_toArray, List.getElem_cons_zero, List.getElem_cons_succ, List.setIfInBounds_toArray, List.set_cons_zero, List.set_cons_succ]
                            refine Ord.wpT_take 8 (v := .pointer (some ⟨pb, po + k * 2 + 1, none⟩)) rfl (by kernel_rfl) (by kernel_rfl) (by kernel_rfl) (by kernel_rfl) (by kernel_rfl) (fun _ _ _ h => h) (Or.inl ⟨by rfl, fun w' hSw => ?_⟩) hS0 ?_
                            · go_simp
                            try simp only [Act.put, List.getElem_toArray, List.getElem_cons_zero, List.getElem_cons_succ, List.setIfInBounds_toArray, List.set_cons_zero, List.set_cons_succ]
                            refine Ord.wpT_take 9 (v := .string x) rfl (by kernel_rfl) (by kernel_rfl) (by kernel_rfl) (by kernel_rfl) (by kernel_rfl) (fun _ _ _ h => h) (Or.inl ⟨by rfl, fun w' hSw => ?_⟩) hS0 ?_
                            · have hcl := hSw.2
                              go_simp
                            try simp only [Act.put, List.getElem_toArray, List.getElem_cons_zero, List.getElem_cons_succ, List.setIfInBounds_toArray, List.set_cons_zero, List.set_cons_succ]
                            refine Ord.wpT_one 10 (by kernel_rfl) (Ord.wpOp_run rfl rfl ?_)
                            go_simp
                            refine HMx.mono ?_
                            rintro e w5 ⟨rfl, hB5⟩
                            have hb5 : Below wr.heap.size wr w5 := hbd.trans (hB5.mono (Nat.le_refl _))
                            have hq5 := HqH.out.below hb5
                            have c5 : w5.cell? ⟨pb, po + k * 2 + 1, none⟩ = some (.string x) := (hB5.cell (World.block_lt_of_cell? _ _ hS0.2)).trans hS0.2
                            refine ⟨⟨hq5.look j3 hm3, c5⟩, ?_⟩
                            try simp only [Act.put, List.getElem_toArray, List.getElem_cons_zero, List.getElem_cons_succ, List.setIfInBounds_toArray, List.set_cons_zero, List.set_cons_succ]
                            refine Ord.wpT_one 11 (by kernel_rfl) (Ord.wpOp_run rfl rfl ?_)
                            go_simp
                            have hb6 : Below w5.heap.size w5 (w5.alloc (.cells #[.string (mapB x)] 9)) := (Below.refl _ _).alloc (Nat.le_refl _) _
                            refine ⟨⟨(hq5.below hb6).look j3 hm3, (hb6.cell (World.block_lt_of_cell? _ _ c5)).trans c5⟩, ?_⟩
                            obtain ⟨v', W2, W3, hap, hst, ⟨D', hq'⟩, hB7, hlk2, hB8⟩ := hq5.add j3 hm3 (mapB x) (by omega) (by have := QL_len (ps.take k) j3; rw [List.length_take] at this; omega)
                            refine Ord.wpT_one 12 (by kernel_rfl) (Ord.wpOp_run rfl rfl ?_)
                            refine oper_app (.tmp 149) (.tmp 156) 22 22 22 rfl rfl (by rfl) (by rfl) hap ?_
                            have c8 : W2.cell? ⟨pb, po + k * 2 + 1, none⟩ = some (.string x) := by
                              have hp6 : pb < w.heap.size := hpb
                              rw [hB8.cell (show pb < w6.heap.size from Nat.lt_of_lt_of_le hp6 HB6.out.size)]
                              exact c5
                            refine ⟨fun _ => ⟨hlk2, c8⟩, ?_⟩
                            try simp only [Act.put, List.getElem_toArray, List.getElem_cons_zero, List.getElem_cons_succ, List.setIfInBounds_toArray, List.set_cons_zero, List.set_cons_succ]
                            clear hap hlk2 c8 c5 hq5 hb6 HMx
                            refine Ord.wpT_one 13 (by kernel_rfl) (Ord.wpOp_run rfl rfl ?_)
                            go_simp
                            have HQn : Hid (∃ D V, QM W3 w6.heap.size w6.heap.size (k + 1) D V (QL (ps.take (k + 1)))) := ⟨D', _, by rw [HQs.out]; exact hq'⟩
                            have HBn : Hid (Below w6.heap.size w6 W3) := (HBr.out.trans (hb5.mono HBr.out.size)).trans hB7
                            clear hst hq' hB7 hb5 hB5 hS0 hbd
                            refine ⟨by kernel_rfl, ?_⟩
                            go_wp2_with fail
                            refine ⟨?_, ?_⟩
                            · (repeat apply Exists.intro)
                              refine ⟨?_, rfl⟩
                              exact ⟨k + 1, by omega, by go_num, HQn, HBn⟩
                            · simp [intOf]; omega
                          · obtain rfl : k = ps.length := by omega
                            go_wp2_with fail
                            go_meet
                            case rel =>
                              obtain ⟨D, V, hq⟩ := HQ.out
                              rw [List.take_length] at hq
                              have e : rqE = encL (QL ps) := HRq.out
                              have hbw : Below w.heap.size w wr := HB6.out.trans (HBr.out.mono HB6.out.size)
                              have hsz : Maps.size D ≤ 1000000 := by
                                have := hq.own.size_le
                                omega
                              have h2 := HA2.out
                              have h3 : wtP ps ≤ 1000000 := by unfold wtP; omega
                              refine ⟨?_, HBr⟩
                              rw [e]
                              refine enc_some _ _ _ _ D V _ hq (HT.out.below hbw) hsz (fun i _ x hx => ?_) (by have := encL_len ps; omega) (fun i _ => by have := QL_len ps i; omega)
                              obtain ⟨p, hp, rfl⟩ := QL_mem hx
                              refine ⟨mapB_ok _, ?_⟩
                              rw [mapB_len]
                              have := sumP_mem hp
                              omega
                      --END B
                    case rest =>
                      obtain ⟨HE, HBx⟩ := hcut
                      have hBx : Below w.heap.size w wc := HB6.out.trans (HBx.out.mono HB6.out.size)
                      have HU7 : Hid (UrlAt wc b (schB i3) (mapB hs) ⟨bp.toArray⟩ (mapB fr) ⟨#[]⟩) := HU6.out.below HBx.out
                      have HV7 : Hid (UrlAt wc n31 (schB i3) (mapB hs) ⟨bp.toArray⟩ (mapB fr) ⟨#[]⟩) := HV6.out.below HBx.out
                      have HK7 : Hid (KeyIn wc (w.heap.size + 1)) := HK6.out.below HBx.out
                      have HEnd := end_any b (schB i3) (mapB hs) ⟨bp.toArray⟩ (mapB fr) ⟨#[]⟩ ⟨pp.toArray⟩ ⟨rqE.toArray⟩ u33 wc HU7.out (HT.out.below hBx) HOk.out HOp.out (by show bp.toArray.size ≤ _; simp; omega) (by show pp.toArray.size ≤ _; simp; omega) HE.out
                      have HBx7 : Hid (Below w.heap.size w wc) := hBx
                      clear hBx HU6 HV6 HK6 HE HBx
                      go_upto_region 33 with (go_at_call 6; refine Calls.mono HEnd ?_; rintro e w7 ⟨b2, rfl, hb2, hU8, hB8⟩; clear HEnd)
                      have HU9 : Hid (UrlAt w7 b (schB i3) (mapB hs) ⟨bp.toArray⟩ (mapB fr) ⟨#[]⟩) := HU7.out.below hB8
                      have HV9 : Hid (UrlAt w7 n31 (schB i3) (mapB hs) ⟨bp.toArray⟩ (mapB fr) ⟨#[]⟩) := HV7.out.below hB8
                      have HK9 : Hid (KeyIn w7 (w.heap.size + 1)) := HK7.out.below hB8
                      have HB9 : Hid (Below w.heap.size w w7) := HBx7.out.trans (hB8.mono HBx7.out.size)
                      have hne : b2 ≠ b := by have := lt_of_block HU7.out; omega
                      have HG9 : Hid (UrlAt w7 b2 (schB i3) (mapB hs) ⟨(mpath bp pp).toArray⟩ (mapB fr) ⟨rqE.toArray⟩) := hU8
                      clear hU8 hB8 HU7 HK7 HBx7 HV7 hb2
                      go_cut [175] from 162 to 174 (fun v wx => v = .bool false ∧ Hid (Below w7.heap.size w7 wx))
                      case first =>
                        --BEGIN C
                        refine wp_region_held (S := fun W => Below w7.heap.size w7 W) (by kernel_rfl) ?_
                        have hS0 : Below w7.heap.size w7 { w7 with drawn := w7.drawn + 1 } := (Below.refl _ _).drew
                        generalize { w7 with drawn := w7.drawn + 1 } = w8 at hS0 ⊢
                        refine wpAnyH_take (i := 0) (v := .pointer (some ⟨b2, 0, none⟩)) rfl (by kernel_rfl) (by kernel_rfl) (by kernel_rfl) (fun _ _ _ h => h) (Or.inl ⟨by rfl, fun w' hSw => ?_⟩) hS0 ?_
                        · go_simp
                        try simp only [Act.put, List.getElem_toArray, List.getElem_cons_zero, List.getElem_cons_succ, List.setIfInBounds_toArray, List.set_cons_zero, List.set_cons_succ]
                        refine wpAnyH_take (i := 1) (v := .bool false) rfl (by kernel_rfl) (by kernel_rfl) (by kernel_rfl) (fun _ _ _ h => h) (Or.inl ⟨by rfl, fun w' hSw => ?_⟩) hS0 ?_
                        · go_simp
                        try simp only [Act.put, List.getElem_toArray, List.getElem_cons_zero, List.getElem_cons_succ, List.setIfInBounds_toArray, List.set_cons_zero, List.set_cons_succ]
                        refine wpAnyH_take (i := 2) (v := .bool false) rfl (by kernel_rfl) (by kernel_rfl) (by kernel_rfl) (fun _ _ _ h => h) (Or.inl ⟨by rfl, fun w' hSw => ?_⟩) hS0 ?_
                        · go_simp
                        try simp only [Act.put, List.getElem_toArray, List.getElem_cons_zero, List.getElem_cons_succ, List.setIfInBounds_toArray, List.set_cons_zero, List.set_cons_succ]
                        refine wpAnyH_take (i := 3) (v := .pointer (some ⟨b2, 0, none⟩)) rfl (by kernel_rfl) (by kernel_rfl) (by kernel_rfl) (fun _ _ _ h => h) (Or.inl ⟨by rfl, fun w' hSw => ?_⟩) hS0 ?_
                        · go_simp
                        try simp only [Act.put, List.getElem_toArray, List.getElem_cons_zero, List.getElem_cons_succ, List.setIfInBounds_toArray, List.set_cons_zero, List.set_cons_succ]
                        refine wpAnyH_take (i := 4) (v := .pointer (some ⟨b, 0, none⟩)) rfl (by kernel_rfl) (by kernel_rfl) (by kernel_rfl) (fun _ _ _ h => h) (Or.inl ⟨by rfl, fun w' hSw => ?_⟩) hS0 ?_
                        · go_simp
                        try simp only [Act.put, List.getElem_toArray, List.getElem_cons_zero, List.getElem_cons_succ, List.setIfInBounds_toArray, List.set_cons_zero, List.set_cons_succ]
                        refine wpAnyH_take (i := 5) (v := .bool false) rfl (by kernel_rfl) (by kernel_rfl) (by kernel_rfl) (fun _ _ _ h => h) (Or.inl ⟨by rfl, fun w' hSw => ?_⟩) hS0 ?_
                        · have hr := ptr_ne w' b2 b _ _ _ _ _ _ _ _ _ _ (HG9.out.below hSw) (HU9.out.below hSw) hne
                          exact exec_bin (vx := .pointer (some ⟨b2, 0, none⟩)) (vy := .pointer (some ⟨b, 0, none⟩)) (v := .bool false) _ _ .eql 28 _ (.tmp 165) (.tmp 166) rfl w' rfl rfl (guard_ptr w' _ _ b2 b) hr
                        try simp only [Act.put, List.getElem_toArray, List.getElem_cons_zero, List.getElem_cons_succ, List.setIfInBounds_toArray, List.set_cons_zero, List.set_cons_succ]
                        refine wpAnyH_take (i := 6) (v := .bool false) rfl (by kernel_rfl) (by kernel_rfl) (by kernel_rfl) (fun _ _ _ h => h) (Or.inl ⟨by rfl, fun w' hSw => ?_⟩) hS0 ?_
                        · go_simp
                        try simp only [Act.put, List.getElem_toArray, List.getElem_cons_zero, List.getElem_cons_succ, List.setIfInBounds_toArray, List.set_cons_zero, List.set_cons_succ]
                        refine wpAnyH_take (i := 7) (v := .bool false) rfl (by kernel_rfl) (by kernel_rfl) (by kernel_rfl) (fun _ _ _ h => h) (Or.inl ⟨by rfl, fun w' hSw => ?_⟩) hS0 ?_
                        · go_simp
                        try simp only [Act.put, List.getElem_toArray, List.getElem_cons_zero, List.getElem_cons_succ, List.setIfInBounds_toArray, List.set_cons_zero, List.set_cons_succ]
                        refine wpAnyH_take (i := 8) (v := .pointer (some ⟨b, 0, none⟩)) rfl (by kernel_rfl) (by kernel_rfl) (by kernel_rfl) (fun _ _ _ h => h) (Or.inl ⟨by rfl, fun w' hSw => ?_⟩) hS0 ?_
                        · go_simp
                        try simp only [Act.put, List.getElem_toArray, List.getElem_cons_zero, List.getElem_cons_succ, List.setIfInBounds_toArray, List.set_cons_zero, List.set_cons_succ]
                        refine wpAnyH_take (i := 9) (v := .pointer (some ⟨b, 0, none⟩)) rfl (by kernel_rfl) (by kernel_rfl) (by kernel_rfl) (fun _ _ _ h => h) (Or.inl ⟨by rfl, fun w' hSw => ?_⟩) hS0 ?_
                        · go_simp
                        try simp only [Act.put, List.getElem_toArray, List.getElem_cons_zero, List.getElem_cons_succ, List.setIfInBounds_toArray, List.set_cons_zero, List.set_cons_succ]
                        refine wpAnyH_take (i := 10) (v := .agg (urlC (schB i3) (mapB hs) ⟨bp.toArray⟩ (mapB fr) ⟨#[]⟩)) rfl (by kernel_rfl) (by kernel_rfl) (by kernel_rfl) (fun _ _ _ h => h) (Or.inl ⟨by rfl, fun w' hSw => ?_⟩) hS0 ?_
                        · exact exec_load_row _ _ 32 (.tmp 171) rfl w' b rfl 32 _ (0, 0) _ (HU9.out.below hSw) und32 rfl info32
                        try simp only [Act.put, List.getElem_toArray, List.getElem_cons_zero, List.getElem_cons_succ, List.setIfInBounds_toArray, List.set_cons_zero, List.set_cons_succ]
                        refine wpAnyH_take (i := 11) (v := .agg (urlC (schB i3) (mapB hs) ⟨bp.toArray⟩ (mapB fr) ⟨#[]⟩)) rfl (by kernel_rfl) (by kernel_rfl) (by kernel_rfl) (fun _ _ _ h => h) (Or.inl ⟨by rfl, fun w' hSw => ?_⟩) hS0 ?_
                        · exact exec_load_row _ _ 32 (.tmp 31) rfl w' n31 rfl 32 _ (0, 0) _ (HV9.out.below hSw) und32 rfl info32
                        try simp only [Act.put, List.getElem_toArray, List.getElem_cons_zero, List.getElem_cons_succ, List.setIfInBounds_toArray, List.set_cons_zero, List.set_cons_succ]
                        refine wpAnyH_take (i := 12) (v := .bool false) rfl (by kernel_rfl) (by kernel_rfl) (by kernel_rfl) (fun _ _ _ h => h) (Or.inl ⟨by rfl, fun w' hSw => ?_⟩) hS0 ?_
                        · exact exec_bin (vx := .agg (urlC (schB i3) (mapB hs) ⟨bp.toArray⟩ (mapB fr) ⟨#[]⟩)) (vy := .agg (urlC (schB i3) (mapB hs) ⟨bp.toArray⟩ (mapB fr) ⟨#[]⟩)) (v := .bool false) _ _ .neq 32 _ (.tmp 172) (.tmp 173) rfl w' rfl rfl (run_eqGuard_agg _ _ _ _ _ _ _ guard32) (url_neq w' _ _ _ _ _)
                        try simp only [Act.put, List.getElem_toArray, List.getElem_cons_zero, List.getElem_cons_succ, List.setIfInBounds_toArray, List.set_cons_zero, List.set_cons_succ]
                        refine wpAnyH_take (i := 13) (v := .bool false) rfl (by kernel_rfl) (by kernel_rfl) (by kernel_rfl) (fun _ _ _ h => h) (Or.inl ⟨by rfl, fun w' hSw => ?_⟩) hS0 ?_
                        · go_simp
                        try simp only [Act.put, List.getElem_toArray, List.getElem_cons_zero, List.getElem_cons_succ, List.setIfInBounds_toArray, List.set_cons_zero, List.set_cons_succ]
                        refine wpAnyH_done (by kernel_rfl) ?_ _
                        go_wp2_with fail
                        go_meet
                        case rel => exact ⟨rfl, hS0⟩
                        --END C
                      case rest =>
                        obtain ⟨rfl, HB10⟩ := hcut
                        obtain ⟨w8, hw8⟩ : ∃ x, x = wc := ⟨_, rfl⟩
                        subst hw8
                        have HU10 : Hid (UrlAt w8 b2 (schB i3) (mapB hs) ⟨(mpath bp pp).toArray⟩ (mapB fr) ⟨rqE.toArray⟩) := HG9.out.below HB10.out
                        have HV10 : Hid (UrlAt w8 n31 (schB i3) (mapB hs) ⟨bp.toArray⟩ (mapB fr) ⟨#[]⟩) := HV9.out.below HB10.out
                        have HK10 : Hid (KeyIn w8 (w.heap.size + 1)) := HK9.out.below HB10.out
                        have HBw10 : Hid (Below w.heap.size w w8) := HB9.out.trans (HB10.out.mono HB9.out.size)
                        clear HG9 HU9 HV9 HK9 HB9 HB10 hne
                        have HP1 := pieces_any ⟨bp.toArray⟩ w8 (by show bp.toArray.size ≤ _; simp; omega)
                        go_wp2_with fail
                        go_at_call 7
                        refine Calls.mono HP1 ?_
                        rintro e w9 ⟨v1, rfl, ho1, hb1⟩
                        clear HP1
                        have HP2 := pieces_any ⟨pp.toArray⟩ w9 (by show pp.toArray.size ≤ _; simp; omega)
                        go_wp2_with fail
                        go_at_call 7
                        refine Calls.mono HP2 ?_
                        rintro e w10 ⟨v2, rfl, ho2, hb2⟩
                        clear HP2
                        obtain ⟨bd, hbd⟩ : ∃ bd, bd = body bp pp := ⟨_, rfl⟩
                        obtain ⟨mz, hmz⟩ : ∃ mz, mz = m0 bp pp := ⟨_, rfl⟩
                        obtain ⟨mp, hmp⟩ : ∃ mp, mp = mpath bp pp := ⟨_, rfl⟩
                        obtain ⟨pre, hpre⟩ : ∃ pre, pre = Lib.hasPrefix bp [47] := ⟨_, rfl⟩
                        obtain ⟨s1, hs1⟩ : ∃ s1, s1 = Lib.hasSuffix pp [47] := ⟨_, rfl⟩
                        obtain ⟨s2, hs2⟩ : ∃ s2, s2 = Lib.hasSuffix (m0 bp pp) [47] := ⟨_, rfl⟩
                        have hbdl : bd.length ≤ 1000000 := by have := body_len bp pp; rw [hbd]; unfold body; omega
                        have hmzl : mz.length ≤ 1000000 := by have := m0_len bp pp; rw [hmz]; omega
                        have HM0 : Hid (mz = if pre = true then 47 :: bd else bd) := by
                          have : m0 bp pp = if Lib.hasPrefix bp [47] = true then 47 :: body bp pp else body bp pp := rfl
                          rw [hmz, hpre, hbd]
                          exact this
                        have HMP : Hid (mp = if (s1 && !s2) = true then mz ++ [47] else mz) := by
                          have : mpath bp pp = if (Lib.hasSuffix pp [47] && !Lib.hasSuffix (m0 bp pp) [47]) = true then m0 bp pp ++ [47] else m0 bp pp := rfl
                          rw [hmp, hs1, hs2, hmz]
                          exact this
                        have HPre : ∀ W, Calls Ybad.prog 9 #[.string ⟨bp.toArray⟩, .string ⟨#[47]⟩] W fun e w' => e = .returned (.bool pre) ∧ w' = W := fun W => by rw [hpre]; exact Ybad.strings_HasPrefix ⟨bp.toArray⟩ ⟨#[47]⟩ W
                        have HSf : ∀ W, Calls Ybad.prog 10 #[.string ⟨pp.toArray⟩, .string ⟨#[47]⟩] W fun e w' => e = .returned (.bool s1) ∧ w' = W := fun W => by rw [hs1]; exact Ybad.strings_HasSuffix ⟨pp.toArray⟩ ⟨#[47]⟩ W (by show pp.toArray.size ≤ _; simp; omega)
                        have HSf2 : ∀ W, Calls Ybad.prog 10 #[.string ⟨mz.toArray⟩, .string ⟨#[47]⟩] W fun e w' => e = .returned (.bool s2) ∧ w' = W := fun W => by rw [hs2, hmz]; exact Ybad.strings_HasSuffix ⟨(m0 bp pp).toArray⟩ ⟨#[47]⟩ W (by rw [← hmz]; show mz.toArray.size ≤ _; simp; omega)
                        obtain ⟨v3, w11, hap, ho3, hb3⟩ := app_two w10 w8.heap.size w9.heap.size v1 v2 (pcs bp) (pcs pp) (OwnS.below ho1 hb2) ho2 (Nat.le_trans hb1.size hb2.size) (by have := pcs_len bp; have := pcs_len pp; omega)
                        have HAP : Hid (_ = _) := hap
                        have HB11 : Hid (Below w8.heap.size w8 w11) := (hb1.trans (hb2.mono hb1.size)).trans hb3
                        have HJ : Hid (Calls Ybad.prog 8 #[v3, .string ⟨#[47]⟩] w11 fun e w' => e = .returned (.string ⟨bd.toArray⟩) ∧ Below w11.heap.size w11 w') := by
                          rw [hbd]
                          exact join_own w11 w8.heap.size v3 _ ho3 (by have := pcs_len bp; have := pcs_len pp; rw [List.length_append]; omega) (by have := body_len bp pp; omega)
                        rw [← hmp] at HU10
                        clear hap ho3 hb3 ho1 ho2 hb1 hb2 hbd hmz hmp hpre hs1 hs2
                        go_wp2_with (at_builtin; refine wpList_app rfl (.tmp 177) (.tmp 179) 22 22 22 rfl rfl rfl rfl HAP.out ?_)
                        go_at_call 8
                        refine Calls.mono HJ.out ?_
                        rintro e w12 ⟨rfl, hb12⟩
                        have hB12 : Below w8.heap.size w8 w12 := HB11.out.trans (hb12.mono HB11.out.size)
                        have HU12 : Hid (UrlAt w12 b2 (schB i3) (mapB hs) ⟨mp.toArray⟩ (mapB fr) ⟨rqE.toArray⟩) := HU10.out.below hB12
                        have HV12 : Hid (UrlAt w12 n31 (schB i3) (mapB hs) ⟨bp.toArray⟩ (mapB fr) ⟨#[]⟩) := HV10.out.below hB12
                        have HK12 : Hid (KeyIn w12 (w.heap.size + 1)) := HK10.out.below hB12
                        have HBw12 : Hid (Below w.heap.size w w12) := HBw10.out.trans (hB12.mono HBw10.out.size)
                        clear HAP HB11 HJ hb12 hB12 HU10 HV10 HK10 HBw10
                        go_wp2_with fail
                        go_at_call 9
                        refine Calls.mono (HPre w12) ?_
                        rintro e w13 ⟨rfl, hw⟩
                        replace hw := hw.symm
                        subst hw
                        clear HPre
                        go_upto_if 185 with (fail)
                        go_cut [39] from 176 to 187 (fun v wx => v = .string ⟨mz.toArray⟩ ∧ wx = w12)
                        case first =>
                          --BEGIN D
                          have hbsz : (ByteArray.mk bd.toArray).size ≤ 1000000 := by show bd.toArray.size ≤ _; simp; omega
                          cases pre with
                          | true =>
                            have HX : Hid (({ data := #[47] } : ByteArray) ++ ⟨bd.toArray⟩ = ⟨mz.toArray⟩) := by
                              have e : mz = 47 :: bd := HM0.out
                              rw [e]
                              apply ByteArray.ext
                              simp [ByteArray.data_append]
                            generalize (ByteArray.mk bd.toArray) = X at *
                            go_wp2_with fail
                            go_meet
                            case rel => exact ⟨by rw [HX.out], rfl⟩
                          | false =>
                            have HX : Hid (mz = bd) := HM0.out
                            go_wp2_with fail
                            go_meet
                            case rel => exact ⟨by rw [HX.out], rfl⟩
                          --END D
                        case rest =>
                          obtain ⟨rfl, hw⟩ := hcut
                          replace hw := hw.symm
                          subst hw
                          clear HM0
                          go_upto_region 40 with (fail)
                          go_cut [194] from 188 to 193 (fun v wx => v = .bool (s1 && !s2) ∧ wx = w12)
                          case first =>
                            --BEGIN E
                            cases s1 with
                            | false =>
                              go_wp2_with fail
                              go_at_call 10
                              refine Calls.mono (HSf w12) ?_
                              rintro e w14 ⟨rfl, hw⟩
                              replace hw := hw.symm
                              subst hw
                              go_wp2_with fail
                              go_meet
                              case rel => exact ⟨rfl, rfl⟩
                            | true =>
                              go_wp2_with fail
                              go_at_call 10
                              refine Calls.mono (HSf w12) ?_
                              rintro e w14 ⟨rfl, hw⟩
                              replace hw := hw.symm
                              subst hw
                              go_wp2_with fail
                              go_at_call 10
                              refine Calls.mono (HSf2 w12) ?_
                              rintro e w14 ⟨rfl, hw⟩
                              replace hw := hw.symm
                              subst hw
                              go_wp2_with fail
                              go_meet
                              case rel => exact ⟨by simp, rfl⟩
                            --END E
                          case rest =>
                            obtain ⟨rfl, hw⟩ := hcut
                            replace hw := hw.symm
                            subst hw
                            clear HSf HSf2
                            generalize (s1 && !s2) = cnd at *
                            go_upto_if 194 with (fail)
                            go_cut [39] from 195 to 196 (fun v wx => v = .string ⟨mp.toArray⟩ ∧ wx = w12)
                            case first =>
                              --BEGIN F
                              have hmsz : (ByteArray.mk mz.toArray).size ≤ 1000000 := by show mz.toArray.size ≤ _; simp; omega
                              cases cnd with
                              | true =>
                                have HX : Hid ((⟨mz.toArray⟩ : ByteArray) ++ { data := #[47] } = ⟨mp.toArray⟩) := by
                                  have e : mp = mz ++ [47] := HMP.out
                                  rw [e]
                                  apply ByteArray.ext
                                  simp [ByteArray.data_append]
                                generalize (ByteArray.mk mz.toArray) = X at *
                                go_wp2_with fail
                                go_meet
                                case rel => exact ⟨by rw [HX.out], rfl⟩
                              | false =>
                                have HX : Hid (mp = mz) := HMP.out
                                go_wp2_with fail
                                go_meet
                                case rel => exact ⟨by rw [HX.out], rfl⟩
                              --END F
                            case rest =>
                              obtain ⟨rfl, hw⟩ := hcut
                              replace hw := hw.symm
                              subst hw
                              clear HMP hmzl hbdl
                              go_upto_if 198 with (fail)
                              go_cut [40, 41, 42] from 197 to 239 (fun v _ _ wx => Hid (Own wx w12.heap.size v rqE) ∧ Hid (Below w12.heap.size w12 wx))
                              case first =>
                                --BEGIN G
                                cases qn with
                                | true =>
                                  have hE : Hid (Own w12 w12.heap.size (.slice none 0 0) rqE) := by
                                    have e : rqE = [] := HRq.out
                                    rw [e]
                                    exact Own.nil _ _
                                  go_wp2_with fail
                                  go_meet
                                  case rel => exact ⟨hE, Below.refl _ _⟩
                                | false =>
                                  have HRe : Hid (rqE = rqA ps 3 0) := by
                                    have e : rqE = encL (QL ps) := HRq.out
                                    show rqE = _
                                    rw [e, rqA_end]
                                  go_upto_region 45 with (fail)
                                  go_loopw [40, 41, 42] (fun v kv _ wr => ∃ ki : Nat, ki ≤ 3 ∧ kv = .int .i64 (ki : Int) ∧ Hid (Own wr w12.heap.size v (rqA ps ki 0)) ∧ Hid (Below w12.heap.size w12 wr)) (fun _ kv _ _ => 3 - (intOf kv).toNat)
                                  case atStart => exact ⟨0, by omega, rfl, Own.nil _ _, Below.refl _ _⟩
                                  case round =>
                                    obtain ⟨ki, hki, rfl, HO, HBr⟩ := hrel
                                    by_cases hlt : ki < 3
                                    · have hlt' : (ki : Int) < 3 := by omega
                                      go_upto_region 48 with (fail)
                                      go_loopw [40, 42] (fun v iv wx => ∃ k : Nat, k ≤ ps.length ∧ iv = .int .i64 (k : Int) ∧ Hid (Own wx w12.heap.size v (rqA ps ki k)) ∧ Hid (Below w12.heap.size w12 wx)) (fun _ iv _ => ps.length - (intOf iv).toNat)
                                      case atStart => exact ⟨0, by omega, rfl, HO, HBr⟩
                                      case round =>
                                        clear HO HBr
                                        obtain ⟨k, hk, rfl, HO, HBr⟩ := hrel
                                        by_cases hlt2 : k < ps.length
                                        · obtain ⟨pb, po, rfl, hc⟩ := HS3.out (by omega)
                                          have hBw : Below w.heap.size w wr := HBw12.out.trans (HBr.out.mono HBw12.out.size)
                                          have cK := (hBw.cell (World.block_lt_of_cell? _ _ (hc k hlt2).1)).trans (hc k hlt2).1
                                          have hkk := HK.out ps[k] (List.getElem_mem hlt2)
                                          obtain ⟨j3, hj3⟩ : ∃ j3, j3 = ps[k].1 % 3 := ⟨_, rfl⟩
                                          have hmod : ((ps[k].1 : Nat) : Int).tmod 3 = (j3 : Int) := by
                                            rw [Int.tmod_eq_emod_of_nonneg (by omega), hj3]
                                            rfl
                                          have hwr : IntKind.i64.wrap ((ps[k].1 : Nat) : Int) = ((ps[k].1 : Nat) : Int) := by simp [IntKind.wrap, IntKind.bits, IntKind.signed]; omega
                                          have hm3 : j3 < 3 := by rw [hj3]; exact Nat.mod_lt _ (by omega)
                                          have hlenA : (rqA ps ki k).length ≤ 4000000 := by
                                            have h1 := rqA_len ps ki k (by omega)
                                            have h2 := HA2.out
                                            have h3 : wtP ps ≤ 1000000 := by unfold wtP; omega
                                            omega
                                          by_cases he : j3 = ki
                                          · have HHit : Hid (rqA ps ki (k + 1) = stepE (rqA ps ki k) (ki, (mapB ps[k].2).data.toList)) := rqA_hit ps ki k hlt2 (by rw [← hj3]; exact he)
                                            have hxs : ps[k].2.size ≤ 65536 := by
                                              have h1 := sumP_mem (List.getElem_mem hlt2)
                                              have h2 := HA2.out
                                              omega
                                            have HCV : Hid (w.cell? ⟨pb, po + k * 2 + 1, none⟩ = some (.string ps[k].2)) := (hc k hlt2).2
                                            clear hj3 hc
                                            generalize ps[k].1 = kk at *
                                            generalize ps[k].2 = x at *
                                            obtain ⟨L, hL⟩ : ∃ L, L = rqA ps ki k := ⟨_, rfl⟩
                                            rw [← hL] at HO HHit hlenA
                                            clear hL
                                            obtain ⟨pv, cv, rfl⟩ := HO.out.shape
                                            subst he
                                            go_upto_if 220 with (fail)
                                            go_cut [40] from 203 to 223 (fun v wx => Hid (Own wx w12.heap.size v (L ++ (if L = [] then [] else [38]))) ∧ Hid (Below w12.heap.size w12 wx))
                                            case first =>
                                              rcases Nat.eq_zero_or_pos L.length with hz | hz
                                              · have hnil : L = [] := List.length_eq_zero_iff.1 hz
                                                subst hnil
                                                go_wp2_with fail
                                                go_meet
                                                case rel => exact ⟨by simpa using HO, HBr⟩
                                              · have hz' : (0 : Int) < (L.length : Int) := by omega
                                                obtain ⟨v1, W1, hap, ho, hb⟩ := app_byte wr w12.heap.size (.slice pv L.length cv) L HO.out 38 HBr.out.size (by omega)
                                                have HAP : Hid ((Builtin.append_ #[39, 39] 39 #[.slice pv L.length cv, .slice (some ⟨wr.heap.size, 0, none⟩) 1 1]).run Ybad.prog (wr.alloc (.cells #[.int .u8 38] 5)) = .ok v1 W1) := hap
                                                have HO1 : Hid (Own W1 w12.heap.size v1 (L ++ (if L = [] then [] else [38]))) := by
                                                  show Own _ _ _ _
                                                  rw [if_neg (by intro e; rw [e] at hz; simp at hz)]
                                                  exact ho
                                                have HB1 : Hid (Below w12.heap.size w12 W1) := HBr.out.trans hb
                                                clear hap ho hb
                                                go_wp2_with (at_builtin; refine wpList_app rfl (.tmp 221) (.tmp 222) 39 39 39 rfl rfl rfl rfl HAP.out ?_)
                                                go_meet
                                                case rel => exact ⟨HO1, HB1⟩
                                            case rest =>
                                              clear HO HBr
                                              obtain ⟨HO, HBr⟩ := hcut
                                              have hL1 : (L ++ (if L = [] then [] else [38])).length ≤ 4000001 := by
                                                rw [List.length_append]
                                                split <;> simp <;> omega
                                              obtain ⟨L1, hL1e⟩ : ∃ L1, L1 = L ++ (if L = [] then [] else [38]) := ⟨_, rfl⟩
                                              rw [← hL1e] at HO hL1
                                              have HK14 : KeyIn wc (w.heap.size + 1) := HK12.out.below HBr.out
                                              have hky := HK14 j3 hm3
                                              have hkl := keyB_len j3
                                              have hkz : (keyB j3).data.toList.length = (keyB j3).size := by rw [Array.length_toList]; rfl
                                              obtain ⟨v2, W2, hap2, ho2, hb2⟩ := app_str wc w12.heap.size u40 L1 HO.out (keyB j3) HBr.out.size (by omega)
                                              have hB2 : Below w12.heap.size w12 W2 := HBr.out.trans hb2
                                              obtain ⟨v3, W3, hap3, ho3, hb3⟩ := app_byte W2 w12.heap.size v2 _ ho2 61 hB2.size (by rw [List.length_append]; omega)
                                              have hB3 : Below w12.heap.size w12 W3 := hB2.trans hb3
                                              have hBw3 : Below w.heap.size w W3 := HBw12.out.trans (hB3.mono HBw12.out.size)
                                              have cV := (hBw3.cell (World.block_lt_of_cell? _ _ HCV.out)).trans HCV.out
                                              have HMx := map_any x W3 (by omega)
                                              have HAP2 : Hid (_ = _) := hap2
                                              have HAP3 : Hid ((Builtin.append_ #[39, 39] 39 #[v2, .slice (some ⟨W2.heap.size, 0, none⟩) 1 1]).run Ybad.prog (W2.alloc (.cells #[.int .u8 61] 5)) = .ok v3 W3) := hap3
                                              have HO3 : Hid (Own W3 w12.heap.size v3 (L1 ++ (keyB j3).data.toList ++ [61])) := ho3
                                              have HB3 : Hid (Below w12.heap.size w12 W3) := hB3
                                              clear hap2 hap3 ho2 ho3 hb2 hb3 hB2 hB3 hBw3 HK14 HCV
                                              go_wp2_with (first
                                                | (at_builtin; refine wpList_app rfl (.tmp 224) (.tmp 227) 39 9 39 rfl rfl rfl rfl HAP2.out ?_)
                                                | (at_builtin; refine wpList_app rfl (.tmp 229) (.tmp 230) 39 39 39 rfl rfl rfl rfl HAP3.out ?_))
                                              go_at_call 5
                                              refine Calls.mono HMx ?_
                                              rintro e W4 ⟨rfl, hb4⟩
                                              clear HMx
                                              have hB4 : Below w12.heap.size w12 W4 := HB3.out.trans (hb4.mono HB3.out.size)
                                              obtain ⟨v5, W5, hap5, ho5, hb5⟩ := app_str W4 w12.heap.size v3 _ (HO3.out.below hb4) (mapB x) hB4.size (by rw [mapB_size, List.length_append, List.length_append, List.length_singleton]; omega)
                                              have HAP5 : Hid (_ = _) := hap5
                                              have HB5 : Hid (Below w12.heap.size w12 W5) := hB4.trans hb5
                                              have HO5 : Hid (Own W5 w12.heap.size v5 (rqA ps j3 (k + 1))) := by
                                                have e : rqA ps j3 (k + 1) = L ++ (if L = [] then [] else [38]) ++ (keyB j3).data.toList ++ [61] ++ (mapB x).data.toList := HHit.out
                                                show Own _ _ _ _
                                                rw [e, ← hL1e]
                                                exact ho5
                                              clear hap5 ho5 hb5 hB4 hb4 HHit
                                              go_wp2_with (at_builtin; refine wpList_app rfl (.tmp 232) (.tmp 238) 39 9 39 rfl rfl rfl rfl HAP5.out ?_)
                                              refine ⟨?_, ?_⟩
                                              · (repeat apply Exists.intro)
                                                refine ⟨?_, rfl⟩
                                                exact ⟨k + 1, by omega, by go_num, HO5, HB5⟩
                                              · simp [intOf]; omega
                                          · have HMiss : Hid (Own wr w12.heap.size u40 (rqA ps ki (k + 1))) := by
                                              show Own _ _ _ _
                                              rw [rqA_miss ps ki k hlt2 (by rw [← hj3]; exact he)]
                                              exact HO.out
                                            have hne : ¬ ((j3 : Int) = (ki : Int)) := by omega
                                            clear hj3 hc
                                            generalize ps[k].1 = kk at *
                                            go_wp2_with fail
                                            exact ⟨⟨k + 1, by omega, by go_num, HMiss, HBr⟩, by simp [intOf]; omega⟩
                                        · obtain rfl : k = ps.length := by omega
                                          have HN : Hid (Own wr w12.heap.size u40 (rqA ps (ki + 1) 0)) := by
                                            show Own _ _ _ _
                                            rw [← rqA_next]
                                            exact HO.out
                                          go_wp2_with fail
                                          exact ⟨⟨ki + 1, by omega, by go_num, HN, HBr⟩, by simp [intOf]; omega⟩
                                    · obtain rfl : ki = 3 := by omega
                                      go_wp2_with fail
                                      go_meet
                                      case rel => exact ⟨by rw [HRe.out]; exact HO, HBr⟩
                                --END G
                              case rest =>
                                obtain ⟨HO, HBq⟩ := hcut
                                obtain ⟨w14, hw14⟩ : ∃ x, x = wc := ⟨_, rfl⟩
                                subst hw14
                                have HU14 : Hid (UrlAt w14 b2 (schB i3) (mapB hs) ⟨mp.toArray⟩ (mapB fr) ⟨rqE.toArray⟩) := HU12.out.below HBq.out
                                have HV14 : Hid (UrlAt w14 n31 (schB i3) (mapB hs) ⟨bp.toArray⟩ (mapB fr) ⟨#[]⟩) := HV12.out.below HBq.out
                                have HBw14 : Hid (Below w.heap.size w w14) := HBw12.out.trans (HBq.out.mono HBw12.out.size)
                                clear HU12 HV12 HK12 HBw12 HBq
                                --BEGIN H
                                go_upto_region 57 with (first
                                  | (refine wpList_load_row rfl 32 (.tmp 31) rfl n31 (by rfl) 32 (urlC (schB i3) (mapB hs) ⟨bp.toArray⟩ (mapB fr) ⟨#[]⟩) (0, 0) _ HV14.out und32 (by rfl) (by exact info32) ?_)
                                  | (refine wpList_store_row rfl 32 (.tmp 43) (.tmp 240) rfl w14.heap.size (urlC (schB i3) (mapB hs) ⟨bp.toArray⟩ (mapB fr) ⟨#[]⟩) (by rfl) (by rfl) 32 (urlC ⟨#[]⟩ ⟨#[]⟩ ⟨#[]⟩ ⟨#[]⟩ ⟨#[]⟩) (heap_alloc_new w14 _) (by exact info32) (by rfl) (by kernel_rfl) ?_; rw [World.setRow_alloc_new]))
                                have hE1 : UrlAt (w14.alloc (.cells (urlC (schB i3) (mapB hs) ⟨bp.toArray⟩ (mapB fr) ⟨#[]⟩) 32)) w14.heap.size (schB i3) (mapB hs) ⟨bp.toArray⟩ (mapB fr) ⟨#[]⟩ := heap_alloc_new w14 _
                                have hB1 : Below w14.heap.size w14 (w14.alloc (.cells (urlC (schB i3) (mapB hs) ⟨bp.toArray⟩ (mapB fr) ⟨#[]⟩) 32)) := (Below.refl _ _).alloc (Nat.le_refl _) _
                                generalize w14.alloc (.cells (urlC (schB i3) (mapB hs) ⟨bp.toArray⟩ (mapB fr) ⟨#[]⟩) 32) = x1 at hE1 hB1 ⊢
                                obtain ⟨c4, _, _, fz⟩ := hE1.cells
                                have f4 := fz 4
                                have HE2 : Hid (UrlAt (x1.setCell ⟨w14.heap.size, 4, none⟩ (.string ⟨mp.toArray⟩)) w14.heap.size (schB i3) (mapB hs) ⟨mp.toArray⟩ (mapB fr) ⟨#[]⟩) := hE1.path _
                                have HB2 : Hid (Below w14.heap.size w14 (x1.setCell ⟨w14.heap.size, 4, none⟩ (.string ⟨mp.toArray⟩))) := hB1.setCell (p := ⟨w14.heap.size, 4, none⟩) (Nat.le_refl _) _
                                clear hE1 hB1 fz
                                go_upto_region 58 with (fail)
                                clear c4 f4
                                generalize x1.setCell ⟨w14.heap.size, 4, none⟩ (.string ⟨mp.toArray⟩) = x2 at HE2 HB2 ⊢
                                obtain ⟨_, _, c7, fz⟩ := HE2.out.cells
                                have f7 := fz 7
                                have HE3 : Hid (UrlAt (x2.setCell ⟨w14.heap.size, 7, none⟩ (.string ⟨#[]⟩)) w14.heap.size (schB i3) (mapB hs) ⟨mp.toArray⟩ (mapB fr) ⟨#[]⟩) := HE2.out.raw
                                have HB3 : Hid (Below w14.heap.size w14 (x2.setCell ⟨w14.heap.size, 7, none⟩ (.string ⟨#[]⟩))) := HB2.out.setCell (p := ⟨w14.heap.size, 7, none⟩) (Nat.le_refl _) _
                                clear HE2 HB2 fz
                                go_upto_region 59 with (fail)
                                clear c7 f7
                                generalize x2.setCell ⟨w14.heap.size, 7, none⟩ (.string ⟨#[]⟩) = x3 at HE3 HB3 ⊢
                                obtain ⟨_, c6, _, fz⟩ := HE3.out.cells
                                have f6 := fz 6
                                have HE4 : Hid (UrlAt (x3.setCell ⟨w14.heap.size, 6, none⟩ (.string ⟨rqE.toArray⟩)) w14.heap.size (schB i3) (mapB hs) ⟨mp.toArray⟩ (mapB fr) ⟨rqE.toArray⟩) := HE3.out.query _
                                have HB4 : Hid (Below w14.heap.size w14 (x3.setCell ⟨w14.heap.size, 6, none⟩ (.string ⟨rqE.toArray⟩))) := HB3.out.setCell (p := ⟨w14.heap.size, 6, none⟩) (Nat.le_refl _) _
                                have hcv := (HO.out.below HB3.out).conv
                                clear HE3 HB3 fz
                                go_upto_region 60 with (fail)
                                clear c6 f6 hcv
                                generalize x3.setCell ⟨w14.heap.size, 6, none⟩ (.string ⟨rqE.toArray⟩) = x4 at HE4 HB4 ⊢
                                have HU5 : Hid (UrlAt x4 b2 (schB i3) (mapB hs) ⟨mp.toArray⟩ (mapB fr) ⟨rqE.toArray⟩) := HU14.out.below HB4.out
                                have HB5 : Hid (Below w.heap.size w x4) := HBw14.out.trans (HB4.out.mono HBw14.out.size)
                                refine wp_region_held (S := fun W => Below x4.heap.size x4 W) (by kernel_rfl) ?_
                                have hS0 : Below x4.heap.size x4 { x4 with drawn := x4.drawn + 1 } := (Below.refl _ _).drew
                                generalize { x4 with drawn := x4.drawn + 1 } = x5 at hS0 ⊢
                                refine wpAnyH_take (i := 0) (v := .pointer (some ⟨b2, 0, none⟩)) rfl (by kernel_rfl) (by kernel_rfl) (by kernel_rfl) (fun _ _ _ h => h) (Or.inl ⟨by rfl, fun w' hSw => ?_⟩) hS0 ?_
                                · go_simp
                                try simp only [Act.put, List.getElem_toArray, List.getElem_cons_zero, List.getElem_cons_succ, List.setIfInBounds_toArray, List.set_cons_zero, List.set_cons_succ]
                                refine wpAnyH_take (i := 1) (v := .pointer (some ⟨b2, 0, none⟩)) rfl (by kernel_rfl) (by kernel_rfl) (by kernel_rfl) (fun _ _ _ h => h) (Or.inl ⟨by rfl, fun w' hSw => ?_⟩) hS0 ?_
                                · go_simp
                                try simp only [Act.put, List.getElem_toArray, List.getElem_cons_zero, List.getElem_cons_succ, List.setIfInBounds_toArray, List.set_cons_zero, List.set_cons_succ]
                                refine wpAnyH_take (i := 2) (v := .agg (urlC (schB i3) (mapB hs) ⟨mp.toArray⟩ (mapB fr) ⟨rqE.toArray⟩)) rfl (by kernel_rfl) (by kernel_rfl) (by kernel_rfl) (fun _ _ _ h => h) (Or.inl ⟨by rfl, fun w' hSw => ?_⟩) hS0 ?_
                                · exact exec_load_row _ _ 32 (.tmp 248) rfl w' b2 rfl 32 _ (0, 0) _ (HU5.out.below hSw) und32 rfl info32
                                try simp only [Act.put, List.getElem_toArray, List.getElem_cons_zero, List.getElem_cons_succ, List.setIfInBounds_toArray, List.set_cons_zero, List.set_cons_succ]
                                refine wpAnyH_take (i := 3) (v := .agg (urlC (schB i3) (mapB hs) ⟨mp.toArray⟩ (mapB fr) ⟨rqE.toArray⟩)) rfl (by kernel_rfl) (by kernel_rfl) (by kernel_rfl) (fun _ _ _ h => h) (Or.inl ⟨by rfl, fun w' hSw => ?_⟩) hS0 ?_
                                · exact exec_load_row _ _ 32 (.tmp 43) rfl w' w14.heap.size rfl 32 _ (0, 0) _ (HE4.out.below hSw) und32 rfl info32
                                try simp only [Act.put, List.getElem_toArray, List.getElem_cons_zero, List.getElem_cons_succ, List.setIfInBounds_toArray, List.set_cons_zero, List.set_cons_succ]
                                refine wpAnyH_take (i := 4) (v := .bool true) rfl (by kernel_rfl) (by kernel_rfl) (by kernel_rfl) (fun _ _ _ h => h) (Or.inl ⟨by rfl, fun w' hSw => ?_⟩) hS0 ?_
                                · exact exec_bin _ _ .eql 32 _ (.tmp 249) (.tmp 250) rfl w' rfl rfl (run_eqGuard_agg _ _ _ _ _ _ _ guard32) (url_eql w' _ _ _ _ _)
                                try simp only [Act.put, List.getElem_toArray, List.getElem_cons_zero, List.getElem_cons_succ, List.setIfInBounds_toArray, List.set_cons_zero, List.set_cons_succ]
                                refine wpAnyH_one 5 (by kernel_rfl) (wpOp_run rfl rfl ?_)
                                go_simp
                                refine ⟨by kernel_rfl, ?_⟩
                                go_wp2_with fail
                                go_ret
                                exact ⟨rfl, HB5.out.trans (hS0.mono HB5.out.size)⟩
                                --END H
end Go.Proofs.YbulkdvnaDoor
