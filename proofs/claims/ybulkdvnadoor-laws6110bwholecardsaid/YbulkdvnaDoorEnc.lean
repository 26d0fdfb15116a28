import Derived.Test.YbulkdvnaDoorEncS
namespace Go.Proofs.YbulkdvnaDoor
open Go Go.RowKit Go.Maps Go.Sort

set_option maxHeartbeats 2000000 in
set_option maxRecDepth 100000 in
theorem enc_any (w : World) (base mb n : Nat) (D : DataW Unit) (V : Nat → Value) (Q : Nat → List (List UInt8)) (hq : QM w base mb n D V Q) (hT : TabIn w) (hn : Maps.size D ≤ 1000000) (hv : ∀ i, i < 3 → ∀ x ∈ Q i, Ok0 x ∧ x.length ≤ 100000000) (hlen : (encL Q).length ≤ 50000000000) (hcnt : ∀ i, i < 3 → (Q i).length ≤ 1000000) :
    Calls Ybad.prog 12 #[.map (some mb)] w fun e w' => e = .returned (.string ⟨(encL Q).toArray⟩) ∧ Below w.heap.size w w' := by
  have HQ : Hid (QM w base mb n D V Q) := hq
  have HT : Hid (TabIn w) := hT
  have HV : Hid (∀ i, i < 3 → ∀ x ∈ Q i, Ok0 x ∧ x.length ≤ 100000000) := hv
  have HL : Hid ((encL Q).length ≤ 50000000000) := hlen
  have HCn : Hid (∀ i, i < 3 → (Q i).length ≤ 1000000) := hcnt
  clear hv hlen hcnt
  have hbl := hq.own.lt
  have HOwn : Hid (w.ownsMap Ybad.prog 9 tokR mb n D) := hq.own
  have hmlen := hq.own.len Ybad.underlying34 3
  by_cases h0 : Maps.size D = 0
  · have he := encL_nil (size_of hq h0)
    rw [he]
    rw [h0] at hmlen
    clear hq hT
    go_enter Ybad.func12, Ybad.ntmps12
    go_wp2_with fail
    go_ret
    exact ⟨rfl, Below.refl _ _⟩
  · obtain ⟨i9v, hi9, hz9, hs9, hby9⟩ := i9'
    have Hby : Hid (i9v.bytes = 16) := hby9
    clear hq hT hby9
    have hne0 : ¬ ((Maps.size D : Int) = 0) := by omega
    have HOwn2 : Hid (((w.alloc (.cells #[.pointer none, .slice none 0 0] 45)).alloc (.cells (madeCells #[.string ⟨#[]⟩] (Maps.size D)) 9)).ownsMap Ybad.prog 9 tokR mb n D) := (HOwn.out.alloc _).alloc _
    have hlen2 := fun o => (HOwn.out.alloc o).len Ybad.underlying34 3
    go_enter Ybad.func12, Ybad.ntmps12
    go_wp2_with (first
      | (refine wpList_make_row _ rfl (.tmp 17) (.tmp 17) 22 rfl 9 i9v (.string ⟨#[]⟩) Ybad.underlying22 hi9 hz9 hs9 rfl .i64 .i64 (Maps.size D) rfl rfl (by rw [Hby.out]; omega) (by omega) ?_)
      | (at_range; refine wpList_range_own _ rfl (.tmp 19) 34 rfl 9 22 keyed9 Ybad.underlying34 tokR mb n D rfl HOwn2.out ?_; intro w0 hrg0 hg0 hs0))
    go_frame
    have e2 : ((w.alloc (.cells #[.pointer none, .slice none 0 0] 45)).alloc (.cells (madeCells #[.string ⟨#[]⟩] (Maps.size D)) 9)).heap.size = w.heap.size + 2 := by simp
    rw [e2] at hrg0 ⊢
    have hB0 : Below w.heap.size w w0 := (((Below.refl _ w).alloc (Nat.le_refl _) _).alloc (by simp) _).grown hg0 (by simp; omega) (fun j hj => by cases hj)
    have hk0 : KRow w0 (w.heap.size + 1) (Maps.size D) [] := by
      have := KRow.start (w.alloc (.cells #[.pointer none, .slice none 0 0] 45)) (Maps.size D)
      rw [World.size_alloc] at this
      exact this.kept (hg0.block _ (by rw [e2]; omega) (by simp))
    have hbd0 : w0.heap[w.heap.size]? = some (.cells #[.pointer none, .slice none 0 0] 45 (0, 0)) := (hg0.block _ (by rw [e2]; omega) (by simp)).trans (heap_alloc2_old w _ _)
    have HRg0 : Hid (w0.ranges Ybad.prog 9 tokR mb (w.heap.size + 2) n D (Maps.has D) (Maps.size D)) := hrg0
    have HB0 : Hid (Below w.heap.size w w0) := hB0
    have HK0 : Hid (KRow w0 (w.heap.size + 1) (Maps.size D) []) := hk0
    have HBd0 : Hid (w0.heap[w.heap.size]? = some (.cells #[.pointer none, .slice none 0 0] 45 (0, 0))) := hbd0
    clear hrg0 hB0 hk0 hbd0 hg0 hs0 e2 hlen2 hi9 hz9 hs9 hmlen
    go_loopw [5, 6] (fun iv _ wr => ∃ (left : Lit → Bool) (cnt : Nat) (ss : List (List UInt8)), iv = .int .i64 (ss.length : Int) ∧ ss.length + cnt ≤ Maps.size D ∧ Hid (wr.ranges Ybad.prog 9 tokR mb (w.heap.size + 2) n D left cnt) ∧ Hid (KRow wr (w.heap.size + 1) (Maps.size D) ss) ∧ Hid (Collected D left ss) ∧
        Hid (Below w.heap.size w wr) ∧ Hid (wr.heap[w.heap.size]? = some (.cells #[.pointer none, .slice none 0 0] 45 (0, 0)))) (fun _ _ wr => wr.rangeLeft mb (w.heap.size + 2))
    case atStart => exact ⟨_, _, [], rfl, by simp, HRg0, HK0, Collected.start D, HB0, HBd0⟩
    case round =>
      obtain ⟨left, cnt, ss, rfl, hcs, HRg, HK, HC, HB, HBd⟩ := hrel
      go_wp2_with (at_next; refine wpList_next_ranges _ rfl (.tmp 20) rfl 9 keyed9 tokR encStr (fun v : Value => v) (fun key kl hk => by obtain ⟨x, hx, _⟩ := Maps.keyOf_str Ybad.underlying9 hk; exact ⟨x, hx⟩) (fun v y _ => ⟨v, rfl⟩) mb (w.heap.size + 2) n D left cnt rfl HRg.out ?_ ?_)
      · intro hc0 hl0
        have hsz : ss.length = Maps.size D := by
          obtain ⟨es, hD⟩ := HOwn.out.isMap
          have := (HC.out.perm HOwn.out keyed9 Ybad.underlying9 hl0).length_eq
          rw [this, hD]
          simp [strKeys, Maps.size]
        have hsrt : ss.mergeSort leB = (idxs Q).map keyU := sorted_keys HQ.out HC.out hl0
        obtain ⟨cs, hkb, hkn, hkc⟩ := HK.out
        have hkl : w.heap.size + 1 < wr.heap.size := (Array.getElem?_eq_some_iff.1 hkb).1
        have HSort := Ybad.slices_Sort_string (w.heap.size + 1) 0 (Maps.size D) ss wr (holds_of_block hkb hkc) hkl (by omega)
        rw [hsz] at HSort
        have hki : ((idxs Q).map keyU).length = Maps.size D := by rw [← hsrt, List.length_mergeSort, hsz]
        have hil : (idxs Q).length = Maps.size D := by rw [← hki, List.length_map]
        have HS0 : Hid (∀ k os, ESt w (grow (putRow encStr (Sort.ahead wr k) (w.heap.size + 1) 0 (ss.mergeSort fun x y => decide (x ≤ y)).toArray) os) ((idxs Q).map keyU) []) := fun k os => by
          refine ⟨HB.out.grown (grownBy_sorted _) (by omega) (fun j hj => by cases hj; omega), ?_, ?_⟩
          · rw [show (ss.mergeSort fun x y => decide (x ≤ y)) = (idxs Q).map keyU from hsrt]
            refine ⟨_, heap_sorted _ hkb, by simp [putCells, hkn, hki], take_putCells cs _ (by rw [hkn, hki]; omega)⟩
          · refine .inl (Lib.BuilderAtF.of ⟨Nat.le_refl _, .slice none 0 0, ?_, World.ownsRow_nil _ _ _ _, by simp [Value.ownBlock]⟩)
            exact (grownBy_sorted _).block _ (by omega) (by simp) |>.trans HBd.out
        clear hc0 hl0 hsrt hkb hkc HRg HK HC HBd hsz
        go_wp2_with fail
        go_at_call 19
        refine Calls.mono HSort ?_
        rintro e w4 ⟨rfl, k4, os4, rfl⟩
        have HS := HS0.out k4 os4
        generalize grow (putRow encStr (Sort.ahead wr k4) (w.heap.size + 1) 0 (ss.mergeSort fun x y => decide (x ≤ y)).toArray) os4 = w4 at HS
        have HS : Hid (ESt w w4 ((idxs Q).map keyU) []) := HS
        clear HSort HS0 HB
        go_wp2_with fail
        go_loopw [8, 9, 10, 12, 35] (fun _ _ _ _ iv wz => ∃ j : Nat, j ≤ Maps.size D ∧ iv = .int .i64 (j : Int) ∧ Hid (ESt w wz ((idxs Q).map keyU) (accAt Q j 0 0))) (fun _ _ _ _ iv _ => Maps.size D - (intOf iv).toNat)
        case atStart => exact ⟨0, by omega, by simp, HS⟩
        case round =>
          obtain ⟨j, hj, rfl, HE⟩ := hrel
          by_cases hjn : j < Maps.size D
          · have hjn' : (j : Int) < (Maps.size D : Int) := by omega
            obtain ⟨i, hi⟩ : ∃ i, (idxs Q)[j]? = some i := ⟨_, List.getElem?_eq_getElem (by omega)⟩
            have hi3 := idxs_mem.1 (List.mem_of_getElem? hi)
            have hkc := HE.out.cell j (keyU i) (by rw [List.getElem?_map, hi]; rfl)
            rw [show (.string ⟨(keyU i).toArray⟩ : Value) = .string (keyB i) by unfold keyU; simp] at hkc
            have hlk := (HQ.out.below HE.out.bel).look i hi3.1
            obtain ⟨g, cap, hVi⟩ : ∃ g cap, V i = .slice (some ⟨g, 0, none⟩) (Q i).length cap := by
              rcases (HQ.out.rows i hi3.1).2 with ⟨_, h0⟩ | ⟨g, cap, cur, h1, _⟩
              · exact absurd (List.eq_nil_of_length_eq_zero h0) hi3.2
              · exact ⟨g, cap, h1⟩
            have hVi0 := hVi
            rw [hVi] at hlk
            have HQy := HE.out.query HT.out (keyU i) (key_safe i) (by unfold keyU keyB; split <;> decide)
            rw [show (.string ⟨(keyU i).toArray⟩ : Value) = .string (keyB i) by unfold keyU; simp] at HQy
            go_wp2_with (go_at_call 20; refine Calls.mono HQy ?_; rintro e w5 ⟨rfl, HE5⟩)
            have HE5 : Hid (ESt w w5 ((idxs Q).map keyU) (accAt Q j i 0)) := by
              have e0 : accAt Q j 0 0 = accAt Q j i 0 := rfl
              rw [e0] at HE5
              exact HE5
            clear HE HQy hlk hkc hVi
            have hVi0 : Hid (V i = .slice (some ⟨g, 0, none⟩) (Q i).length cap) := hVi0
            have HRow : Hid (OwnS w base (.slice (some ⟨g, 0, none⟩) (Q i).length cap) (Q i)) := by
              have := HQ.out.rows i hi3.1
              rwa [hVi0.out] at this
            have hci := HCn.out i hi3.1
            go_loopw [12, 46] (fun _ iv wz => ∃ k : Nat, k ≤ (Q i).length ∧ iv = .int .i64 (k : Int) ∧ Hid (ESt w wz ((idxs Q).map keyU) (accAt Q j i k))) (fun _ iv _ => (Q i).length - (intOf iv).toNat)
            case atStart => exact ⟨0, by omega, by simp, HE5⟩
            case round =>
              obtain ⟨k, hk, rfl, HE⟩ := hrel
              by_cases hkn : k < (Q i).length
              · have hkn' : (k : Int) < ((Q i).length : Int) := by omega
                have hcell := (HRow.out.below HE.out.bel).cell k (Q i)[k] (List.getElem?_eq_getElem hkn)
                unfold strV at hcell
                have hvx := HV.out i hi3.1 (Q i)[k] (List.getElem_mem hkn)
                have HNx : Hid (accAt Q j i (k + 1) = stepE (accAt Q j i k) (i, (Q i)[k])) := accAt_step Q j i k hkn
                have HBig : Hid ((accAt Q j i (k + 1)).length ≤ 50000000000) := Nat.le_trans (accAt_le Q j i (k + 1) hi) HL.out
                have hkl9 : (keyU i).length ≤ 10 := by unfold keyU keyB; split <;> decide
                have HSf : Hid (Safe 32 (Q i)[k]) := ok_safe32 _ hvx.1
                have hxl := hvx.2
                generalize (Q i)[k] = x at hcell hvx HNx HSf hxl
                clear hvx
                generalize hac : accAt Q j i k = acc at HE HNx
                generalize hac2 : accAt Q j i (k + 1) = acc2 at HNx HBig
                have hal : acc.length + x.length + 9 ≤ 60000000000 := by
                  have h1 := HNx.out
                  have h2 := HBig.out
                  rw [h1] at h2
                  unfold stepE at h2
                  simp only [List.length_append] at h2
                  omega
                by_cases hz : acc = []
                · have hLn := HE.out.len
                  rw [hz] at hLn
                  have hA1 := HE.out.str (keyU i) (by omega)
                  rw [show (.string ⟨(keyU i).toArray⟩ : Value) = .string (keyB i) by unfold keyU; simp] at hA1
                  go_wp2_with (go_at_call 21; refine Calls.mono hLn ?_; rintro e w8 ⟨rfl, rfl⟩)
                  go_at_call 14
                  refine Calls.mono hA1 ?_
                  rintro e w8 ⟨rfl, HEc⟩
                  clear hA1
                  go_wp2_with fail
                  go_at_call 22
                  refine Calls.mono (HEc.eqs (by simp only [List.length_append]; omega)) ?_
                  rintro e w9 ⟨rfl, HEd⟩
                  go_wp2_with fail
                  go_at_call 20
                  refine Calls.mono (HEd.query HT.out x HSf.out hxl) ?_
                  rintro e w10 ⟨rfl, HEe⟩
                  go_wp2_with fail
                  go_at_call 14
                  refine Calls.mono (HEe.str x (by simp only [List.length_append, List.length_singleton]; omega)) ?_
                  rintro e w11 ⟨rfl, HEf⟩
                  have HEf : Hid (ESt w w11 ((idxs Q).map keyU) acc2) := by
                    have h1 := HNx.out
                    unfold stepE at h1
                    rw [if_pos hz, List.append_nil] at h1
                    rw [h1]
                    exact HEf
                  clear hcell HEc HEd HEe hLn
                  go_wp2_with fail
                  go_roundw
                  case rel => exact ⟨k + 1, by omega, by simp, by rw [hac2]; exact HEf⟩
                  case measure => simp [intOf]; omega
                · have hLn := HE.out.len
                  have hap : (acc.length : Int) > 0 := by have := List.length_pos_iff.2 hz; omega
                  have hal0 : acc.length ≤ 100000000000 := by omega
                  go_wp2_with (go_at_call 21; refine Calls.mono hLn ?_; rintro e w8 ⟨rfl, rfl⟩)
                  go_at_call 22
                  refine Calls.mono (HE.out.amp hal0) ?_
                  rintro e w7 ⟨rfl, HEb⟩
                  have hA1 := HEb.str (keyU i) (by simp only [List.length_append, List.length_singleton]; omega)
                  rw [show (.string ⟨(keyU i).toArray⟩ : Value) = .string (keyB i) by unfold keyU; simp] at hA1
                  go_wp2_with fail
                  go_at_call 14
                  refine Calls.mono hA1 ?_
                  rintro e w8 ⟨rfl, HEc⟩
                  clear hA1
                  go_wp2_with fail
                  go_at_call 22
                  refine Calls.mono (HEc.eqs (by simp only [List.length_append, List.length_singleton]; omega)) ?_
                  rintro e w9 ⟨rfl, HEd⟩
                  go_wp2_with fail
                  go_at_call 20
                  refine Calls.mono (HEd.query HT.out x HSf.out hxl) ?_
                  rintro e w10 ⟨rfl, HEe⟩
                  go_wp2_with fail
                  go_at_call 14
                  refine Calls.mono (HEe.str x (by simp only [List.length_append, List.length_singleton]; omega)) ?_
                  rintro e w11 ⟨rfl, HEf⟩
                  have HEf : Hid (ESt w w11 ((idxs Q).map keyU) acc2) := by
                    have h1 := HNx.out
                    unfold stepE at h1
                    rw [if_neg hz] at h1
                    rw [h1]
                    exact HEf
                  clear hcell HEc HEd HEe hLn HEb
                  go_wp2_with fail
                  go_roundw
                  case rel => exact ⟨k + 1, by omega, by simp, by rw [hac2]; exact HEf⟩
                  case measure => simp [intOf]; omega
              · have ek : k = (Q i).length := by omega
                have hkn' : ¬ (k : Int) < ((Q i).length : Int) := by omega
                have e6 : accAt Q j i k = accAt Q (j + 1) 0 0 := by rw [accAt_next Q j i 0 hi, ← ek]
                rw [e6] at HE
                go_wp2_with fail
                go_roundw
                case rel => exact ⟨j + 1, by omega, by simp, HE⟩
                case measure => simp [intOf]; omega
          · have hjn' : ¬ (j : Int) < (Maps.size D : Int) := by omega
            have ej : j = (idxs Q).length := by omega
            rw [ej, accAt_end] at HE
            go_wp2_with fail
            go_at_call 15
            refine Calls.mono HE.out.fin ?_
            rintro e w6 ⟨rfl, hb6⟩
            go_wp2_with fail
            go_ret
            exact ⟨rfl, hb6⟩
      · intro x c kl yd yp w2 cnt2 hkey hlk hv hat hrg2 hlt hg2 hs2 hen
        obtain ⟨x', ex, rfl, _⟩ := Maps.keyOf_str Ybad.underlying9 hkey
        obtain rfl : x = x' := encStr_inj ex
        have hkk : KRow w2 (w.heap.size + 1) (Maps.size D) ss := HK.out.kept (hg2.block _ (by obtain ⟨cs, hb, _⟩ := HK.out; exact (Array.getElem?_eq_some_iff.1 hb).1) (by simp))
        obtain ⟨⟨vv, hvv⟩, hfz⟩ := hkk.cell ss.length (by omega)
        have hsl : (ss.length : Int) < (Maps.size D : Int) := by omega
        have HRg3 : Hid ((w2.setCell ⟨w.heap.size + 1, ss.length, none⟩ (encStr x)).ranges Ybad.prog 9 tokR mb (w.heap.size + 2) n D (fun z => left z && !z.sameKey (.string x)) cnt2) := hrg2.kept (grown_setCell w2 (w.heap.size + 1) ss.length (encStr x)) (by simp; omega) (by simp)
        have HK3 : Hid (KRow (w2.setCell ⟨w.heap.size + 1, ss.length, none⟩ (encStr x)) (w.heap.size + 1) (Maps.size D) (ss ++ [x])) := hkk.set x (by omega)
        have HC3 : Hid (Collected D (fun z => left z && !z.sameKey (.string x)) (ss ++ [x])) := HC.out.step hlk hat
        have HB3 : Hid (Below w.heap.size w (w2.setCell ⟨w.heap.size + 1, ss.length, none⟩ (encStr x))) := (HB.out.grown hg2 HB.out.size (fun j hj => by cases hj; omega)).setCell (by show w.heap.size ≤ w.heap.size + 1; omega) _
        have HBd3 : Hid ((w2.setCell ⟨w.heap.size + 1, ss.length, none⟩ (encStr x)).heap[w.heap.size]? = some (.cells #[.pointer none, .slice none 0 0] 45 (0, 0))) :=
          (heap_setCell_other w2 ⟨w.heap.size + 1, ss.length, none⟩ w.heap.size _ (by show w.heap.size ≠ w.heap.size + 1; omega)).trans ((hg2.block _ (Array.getElem?_eq_some_iff.1 HBd.out).1 (by simp)).trans HBd.out)
        have HLt : Hid (cnt2 < cnt) := hlt
        have hen' : (Instr.entry (.pointer (some ⟨w.heap.size + 2, 0, none⟩))).run Ybad.prog w2 = .ok (.tuple #[encStr x, c]) w2 := hen
        clear hs2 hen hkey hlk hv hat hrg2 hlt hg2 hkk
        unfold encStr at *
        go_wp2_with fail
        go_roundw
        case rel => exact ⟨_, cnt2, ss ++ [x], by simp, by simp; have := HLt.out; omega, HRg3, HK3, HC3, HB3, HBd3⟩
        case measure => rw [HRg3.out.left_eq, HRg.out.left_eq]; exact HLt.out
end Go.Proofs.YbulkdvnaDoor
