import Derived.Test.YbulkdvnaApp
import Derived.Lib.Builder
namespace Go.Proofs.Ybulkdvna
open Go Go.RowKit

def sumS (l : List ByteArray) : Nat := (l.map ByteArray.size).sum
theorem sumS_take (l : List ByteArray) (k : Nat) (h : k < l.length) : sumS (l.take (k + 1)) = sumS (l.take k) + l[k].size := by
  unfold sumS
  rw [List.take_succ_eq_append_getElem h, List.map_append, List.sum_append]
  simp
/-- the names handed in before -/
def PriIn (w : World) (p : Option Addr) (ss : List ByteArray) : Prop :=
  0 < ss.length → ∃ b o, p = some ⟨b, o, none⟩ ∧ ∀ j (h : j < ss.length), ∃ v, w.cell? ⟨b, o + j, none⟩ = some v ∧ BStr w v ss[j]
def distinct (ss : List ByteArray) : List ByteArray := ss.foldl addD []

theorem nes_nil (w : World) : (binOp .neq 23 (.slice none 0 0) (.slice none 0 0)).run Yba.prog w = .ok (.bool false) w := by kernel_rfl
theorem distinct_take (ss : List ByteArray) (k : Nat) (h : k < ss.length) : distinct (ss.take (k + 1)) = addD (distinct (ss.take k)) ss[k] := by
  unfold distinct
  rw [List.take_succ_eq_append_getElem h, List.foldl_append]
  rfl
theorem addD_len (D : List ByteArray) (s : ByteArray) : (addD D s).length ≤ D.length + 1 := by
  unfold addD
  split
  · omega
  · simp
theorem distinct_len (ss : List ByteArray) : ∀ k, k ≤ ss.length → (distinct (ss.take k)).length ≤ k
  | 0, _ => by simp [distinct]
  | k + 1, h => by
    rw [distinct_take ss k (by omega)]
    have h1 := addD_len (distinct (ss.take k)) (ss[k]'(by omega))
    have h2 := distinct_len ss k (by omega)
    omega
theorem addD_mem {D : List ByteArray} {s x : ByteArray} (h : x ∈ addD D s) : x ∈ D ∨ x = s := by
  unfold addD at h
  split at h
  · exact .inl h
  · simpa using h
theorem distinct_mem (ss : List ByteArray) : ∀ k, k ≤ ss.length → ∀ x ∈ distinct (ss.take k), x ∈ ss
  | 0, _, x, hx => by simp [distinct] at hx
  | k + 1, h, x, hx => by
    rw [distinct_take ss k (by omega)] at hx
    rcases addD_mem hx with h1 | h1
    · exact distinct_mem ss k (by omega) x h1
    · rw [h1]
      exact List.getElem_mem _

theorem tidy_setD (D : List ByteArray) : Maps.Tidy (setD D) := Maps.tidy_setOf _ _ (fun y hy => by obtain ⟨_, _, rfl⟩ := List.mem_map.1 hy; trivial)
theorem size_addD {D : List ByteArray} (h : Maps.size (setD D) = D.length) (s : ByteArray) : Maps.size (setD (addD D s)) = (addD D s).length := by
  cases hb : hasB D s with
  | true => rw [addD_old hb]; exact h
  | false =>
    rw [addD_new hb, setD_snoc, Maps.size_put (tidy_setD D), has_setD, hb, List.length_append, List.length_singleton, h]
    rfl
theorem size_distinct (ss : List ByteArray) : ∀ k, k ≤ ss.length → Maps.size (setD (distinct (ss.take k))) = (distinct (ss.take k)).length
  | 0, _ => rfl
  | k + 1, h => by
    rw [distinct_take ss k (by omega)]
    exact size_addD (size_distinct ss k (by omega)) _
theorem hasB_self (D : List ByteArray) (k : Nat) (h : k < D.length) : hasB D D[k] = true := hasB_at D k h _ (by simp)

theorem StrsIn.below {w w' : World} {p : Option Addr} {l : List ByteArray} (h : StrsIn w p l) (hb : Below w.heap.size w w') : StrsIn w' p l := fun hn => by
  obtain ⟨b, o, rfl, hc⟩ := h hn
  exact ⟨b, o, rfl, fun j hj => by rw [hb.cell (World.block_lt_of_cell? _ _ (hc j hj))]; exact hc j hj⟩

theorem LW.start (w : World) : LW w (w.alloc (.cells #[.slice none 0 0, .slice none 0 0, .slice none 0 0, .slice none 0 0, .slice none 0 0, .slice none 0 0, .slice none 0 0, .slice none 0 0, .slice none 0 0, .slice none 0 0, .slice none 0 0, .slice none 0 0, .slice none 0 0, .slice none 0 0, .slice none 0 0, .slice none 0 0, .int .i64 0, .map none] 27)) [] (List.replicate 16 (.slice none 0 0)) (.map none) (.slice none 0 0) where
  mn := { blk := ⟨27, by rw [heap_alloc_new]; rfl⟩, len := by simp, rows := fun j h => by simp at h, nils := fun j _ h => by rw [List.getElem?_replicate, if_pos h], small := fun _ => rfl, big := fun h => by simp at h }
  row := World.ownsRow_nil _ _ _ _
  bel := (Below.refl _ w).alloc (Nat.le_refl _) _
  lt := by simp
  sep := fun j a n c e => by
    rw [List.getElem?_replicate] at e
    split at e
    · cases e
    · cases e

set_option maxHeartbeats 16000000 in
set_option maxRecDepth 100000 in
theorem law_any (p0 : Option Addr) (c0 : Nat) (ss : List ByteArray) (pn : Option Addr) (nn cn : Nat) (nm : ByteArray) (w : World) (hP : PriIn w p0 ss) (hN : BStr w (.slice pn nn cn) nm)
    (hss : ∀ x ∈ ss, x.size ≤ 140737488355328) (hnm : nm.size ≤ 140737488355328) :
    Calls Yba.prog 3 #[.slice p0 ss.length c0, .slice pn nn cn] w fun e w' => e = .returned (.bool true) ∧ Below w.heap.size w w' := by
  have HP : Hid (PriIn w p0 ss) := hP
  obtain ⟨_, _, e, _⟩ := id hN
  obtain rfl : nn = nm.size := by cases e; rfl
  clear e
  have HN : Hid (BStr w (.slice pn nm.size cn) nm) := hN
  have HSS : Hid (∀ x ∈ ss, x.size ≤ 140737488355328) := hss
  clear hP hN hss
  rcases Nat.lt_or_ge 2048 ss.length with hn | hn
  · go_enter Yba.func3, Yba.ntmps3
    go_wp2_with fail
    go_ret
    exact ⟨rfl, Below.refl _ _⟩
  · go_enter Yba.func3, Yba.ntmps3
    go_wp2_with fail
    go_loop [5, 7, 31] (fun t _ i => ∃ k : Nat, k ≤ ss.length ∧ i = .int .i64 k ∧ t = .int .i64 ((nm.size : Int) + (sumS (ss.take k) : Int)) ∧ (0 < k → nm.size + sumS (ss.take k) ≤ 1048576)) (fun _ _ i => ss.length - (intOf i).toNat)
    case atStart => exact ⟨0, Nat.zero_le _, rfl, by rw [show sumS (ss.take 0) = 0 from rfl]; go_num, fun h => by omega⟩
    case round =>
      obtain ⟨k, hk, rfl, rfl, hsm⟩ := hrel
      by_cases hlt : k < ss.length
      · obtain ⟨b, o, rfl, hc⟩ := HP.out (by omega)
        obtain ⟨v, hv, q, c, rfl, hb⟩ := hc k hlt
        have hle := HSS.out ss[k] (List.getElem_mem hlt)
        have HT : Hid (sumS (ss.take (k + 1)) = sumS (ss.take k) + ss[k].size) := sumS_take ss k hlt
        generalize hz : ss[k].size = z at *
        have hs0 : sumS (ss.take k) ≤ 1048576 := by
          rcases Nat.eq_zero_or_pos k with h0 | h0
          · subst h0
            show (0 : Nat) ≤ _
            omega
          · have := hsm h0
            omega
        generalize sumS (ss.take k) = sk at *
        clear hc hb hz
        by_cases hbig : nm.size + sk + z ≤ 1048576
        · go_wp2_with fail
          go_round
          case rel => exact ⟨k + 1, by omega, by go_num, by rw [HT.out]; go_num, fun _ => by rw [HT.out]; omega⟩
          case measure => simp [intOf]; omega
        · go_wp2_with fail
          go_ret
          exact ⟨rfl, Below.refl _ _⟩
      · obtain rfl : k = ss.length := by omega
        rw [List.take_length] at hsm
        have HL0 : Hid (LW w _ [] _ _ _) := LW.start w
        go_upto_region 14 with (fail)
        go_loopw [4, 9, 11, 12, 13, 44] (fun _ dv _ _ _ i wr => ∃ k : Nat, k ≤ ss.length ∧ i = .int .i64 k ∧ ∃ few mv p c, dv = .slice p (distinct (ss.take k)).length c ∧ Hid (LW w wr (distinct (ss.take k)) few mv (.slice p (distinct (ss.take k)).length c))) (fun _ _ _ _ _ i _ => ss.length - (intOf i).toNat)
        case atStart => exact ⟨0, Nat.zero_le _, rfl, _, _, Option.none, 0, rfl, HL0⟩
        case round =>
          obtain ⟨k, hk, rfl, few, mv, pd, cd, rfl, HL⟩ := hrel
          by_cases hlt : k < ss.length
          · --BEGIN L2
            obtain ⟨b, o, rfl, hc⟩ := HP.out (by omega)
            obtain ⟨v, hv, hbs⟩ := hc k hlt
            have hbl : b < w.heap.size := World.block_lt_of_cell? _ _ hv
            have hv' : wr.cell? ⟨b, o + k, .none⟩ = some v := (HL.out.bel.cell (by exact hbl)).trans hv
            have hbr : BStr wr v ss[k] := hbs.below HL.out.bel
            obtain ⟨pv, cv, rfl, _⟩ := id hbr
            obtain ⟨qa, ca, w1, hap, hrow, hB1, hfr⟩ := app_nil wr w.heap.size pv ss[k].size cv ss[k] hbr (HSS.out _ (List.getElem_mem hlt)) HL.out.lt
            have hL1 := HL.out.below hB1
            have hcv := (hbr.below hB1).conv
            have hdl := distinct_len ss k hk
            have hdt := distinct_take ss k hlt
            have hdm := distinct_mem ss k hk
            obtain ⟨pd', cd', e, hst⟩ := hL1.shape
            injection e with e1 _ e2
            subst e1
            subst e2
            have HIx : Hid (Calls Yba.prog 4 #[.slice pd (distinct (ss.take k)).length cd, .string ss[k]] w1 fun e w' => (∃ i : Int, e = .returned (.int .i64 i) ∧ decide (0 ≤ i) = hasB (distinct (ss.take k)) ss[k]) ∧ w' = w1) := index_any pd cd _ ss[k] w1 (by omega) hst
            have HAd := add_any w.heap.size w.heap.size _ few mv qa ss[k].size ca ss[k] w1 hL1.mn hrow (Nat.le_refl _) (by omega) (fun x hx => HSS.out x (hdm x hx)) (HSS.out _ (List.getElem_mem hlt))
            have HA : Hid (Calls Yba.prog 5 #[.pointer (some ⟨w.heap.size, 0, .none⟩), .slice qa ss[k].size ca] w1 fun e w' => e = .returned (.bool (!hasB (distinct (ss.take k)) ss[k])) ∧ AddPost w1 w.heap.size w.heap.size (distinct (ss.take k)) few (.slice qa ss[k].size ca) ss[k] w') := HAd
            have HAP : Hid ((Builtin.append_ #[23, 23] 23 #[.slice .none 0 0, .slice pv ss[k].size cv]).run Yba.prog wr = .ok (.slice qa ss[k].size ca) w1) := hap
            have HL1 : Hid (LW w w1 (distinct (ss.take k)) few mv (.slice pd (distinct (ss.take k)).length cd)) := hL1
            have HFR : Hid (∀ a, qa = some a → wr.heap.size ≤ a.block ∧ a.block < w1.heap.size) := hfr
            have HBW : Hid (BStr w (.slice pv ss[k].size cv) ss[k]) := hbs
            have HDT : Hid (distinct (ss.take (k + 1)) = addD (distinct (ss.take k)) ss[k]) := hdt
            have HLL : Hid (LW w wr (distinct (ss.take k)) few mv (.slice pd (distinct (ss.take k)).length cd)) := HL
            generalize hDk : distinct (ss.take k) = D at *
            generalize hsk : ss[k] = s at *
            clear hDk hsk hap HAd hL1 hrow hB1 hfr hdt hdm hst hbs hbr hc hv HL
            go_wp2_with (at_builtin; refine wpList_app rfl (.const (.slice .none 0 0)) (.tmp 48) 23 23 rfl rfl rfl rfl HAP.out ?_)
            go_at_call 4
            refine Calls.mono HIx.out ?_
            rintro e w2 ⟨⟨i, rfl, hi⟩, hw2⟩
            replace hw2 := hw2.symm
            subst hw2
            have hvv : Hid (∀ a n c, Value.slice qa s.size ca = .slice (some a) n c → (Value.slice pd D.length cd).ownBlock ≠ some a.block ∧ a.block < w1.heap.size) := fun a n c e => by
              injection e with e1 _ _
              have h1 := HFR.out a e1
              refine ⟨fun hh => ?_, h1.2⟩
              have := (HLL.out.row.lt _ hh).2
              omega
            cases hb : hasB D s with
            | true =>
              rw [hb] at hi HA
              have hi0 : 0 ≤ i := of_decide_eq_true hi
              go_wp2_with fail
              go_at_call 5
              refine Calls.mono HA.out ?_
              rintro e w3 ⟨rfl, hpost⟩
              have HPo : Hid (AddPost w1 w.heap.size w.heap.size D few (.slice qa s.size ca) s w3) := hpost
              clear hpost
              go_wp2_with fail
              all_goals
                obtain ⟨few', mv', h1, h2, h3, h4, h5, _⟩ := HL1.out.added HPo.out hvv.out
                rw [addD_old hb] at h1
                have e1 : distinct (ss.take (k + 1)) = D := by rw [HDT.out, addD_old hb]
                exact ⟨⟨k + 1, by omega, by go_num, few', mv', pd, cd, by rw [e1], by rw [e1]; exact ⟨h1, h2, h3, h4, h5⟩⟩, by simp [intOf]; omega⟩
            | false =>
              rw [hb] at hi HA
              have hi0 : i < 0 := by have := of_decide_eq_false hi; omega
              go_wp2_with fail
              go_at_call 5
              refine Calls.mono HA.out ?_
              rintro e w3 ⟨rfl, hpost⟩
              obtain ⟨few', mv', h1, h2, h3, h4, h5, _⟩ := HL1.out.added hpost hvv.out
              rw [addD_new hb] at h1
              obtain ⟨g, cap, w4, hr, hL4, -⟩ := LW.pushed h1 h2 h3 h4 h5 (by omega)
              have HAP2 : Hid ((Builtin.append_ #[28, 28] 28 #[.slice pd D.length cd, .slice (some ⟨w3.heap.size, 0, .none⟩) 1 1]).run Yba.prog (w3.alloc (.cells #[.string s] 9)) = .ok (.slice (some ⟨g, 0, .none⟩) (D.length + 1) cap) w4) := hr
              have hcv3 : (convert 23 9 (.slice pv s.size cv)).run Yba.prog w3 = .ok (.string s) w3 := (HBW.out.below h3).conv
              have HL4 : Hid (LW w w4 (D ++ [s]) few' mv' (.slice (some ⟨g, 0, .none⟩) (D.length + 1) cap)) := hL4
              clear hpost h1 h2 h3 h4 h5 hr hL4
              go_wp2_with (at_builtin; refine wpList_app rfl (.tmp 61) (.tmp 64) 28 28 rfl rfl rfl rfl HAP2.out ?_)
              have e1 : distinct (ss.take (k + 1)) = D ++ [s] := by rw [HDT.out, addD_new hb]
              have e2 : (D ++ [s]).length = D.length + 1 := by simp
              exact ⟨⟨k + 1, by omega, by go_num, few', mv', some ⟨g, 0, .none⟩, cap, by rw [e1, e2], by rw [e1, e2]; exact HL4.out⟩, by simp [intOf]; omega⟩
            --END L2
          · --BEGIN X2
            obtain rfl : k = ss.length := by omega
            rw [List.take_length] at HL
            have hdl := distinct_len ss ss.length (Nat.le_refl _)
            have hdm := distinct_mem ss ss.length (Nat.le_refl _)
            rw [List.take_length] at hdl hdm
            have hbr : BStr wr (.slice pn nm.size cn) nm := HN.out.below HL.out.bel
            obtain ⟨qa, ca, w1, hap, hrow, hB1, hfr⟩ := app_nil wr w.heap.size pn nm.size cn nm hbr hnm HL.out.lt
            have hL1 := HL.out.below hB1
            have hcv := (hbr.below hB1).conv
            obtain ⟨pd', cd', e, hst⟩ := hL1.shape
            rw [List.take_length]
            injection e with e1 _ e2
            subst e1
            subst e2
            have HIx : Hid (Calls Yba.prog 4 #[.slice pd (distinct ss).length cd, .string nm] w1 fun e w' => (∃ i : Int, e = .returned (.int .i64 i) ∧ decide (0 ≤ i) = hasB (distinct ss) nm) ∧ w' = w1) := index_any pd cd _ nm w1 (by omega) hst
            have HA : Hid (Calls Yba.prog 5 #[.pointer (some ⟨w.heap.size, 0, .none⟩), .slice qa nm.size ca] w1 fun e w' => e = .returned (.bool (!hasB (distinct ss) nm)) ∧ AddPost w1 w.heap.size w.heap.size (distinct ss) few (.slice qa nm.size ca) nm w') := add_any w.heap.size w.heap.size _ few mv qa nm.size ca nm w1 hL1.mn hrow (Nat.le_refl _) (by omega) (fun x hx => HSS.out x (hdm x hx)) hnm
            have HAP : Hid ((Builtin.append_ #[23, 23] 23 #[.slice .none 0 0, .slice pn nm.size cn]).run Yba.prog wr = .ok (.slice qa nm.size ca) w1) := hap
            have HL1 : Hid (LW w w1 (distinct ss) few mv (.slice pd (distinct ss).length cd)) := hL1
            have HRw : Hid (RowOf w1 w.heap.size (.slice qa nm.size ca) nm) := hrow
            have hvv : Hid (∀ a n c, Value.slice qa nm.size ca = .slice (some a) n c → (Value.slice pd (distinct ss).length cd).ownBlock ≠ some a.block ∧ a.block < w1.heap.size) := fun a n c e => by
              injection e with e1 _ _
              have h1 := hfr a e1
              refine ⟨fun hh => ?_, h1.2⟩
              have := (HL.out.row.lt _ hh).2
              omega
            have HDs : Hid (∀ x ∈ distinct ss, x.size ≤ 140737488355328) := fun x hx => HSS.out x (hdm x hx)
            have HSz : Hid (Maps.size (setD (distinct ss)) = (distinct ss).length) := by
              have := size_distinct ss ss.length (Nat.le_refl _)
              rwa [List.take_length] at this
            generalize hDk : distinct ss = D at *
            clear hDk hap hL1 hrow hB1 hfr hdm hst hbr HL
            go_wp2_with (at_builtin; refine wpList_app rfl (.const (.slice .none 0 0)) (.tmp 67) 23 23 rfl rfl rfl rfl HAP.out ?_)
            go_at_call 4
            refine Calls.mono HIx.out ?_
            rintro e w2 ⟨⟨i, rfl, hi⟩, hw2⟩
            replace hw2 := hw2.symm
            subst hw2
            cases hb : hasB D nm with
            | true =>
              rw [hb] at hi HA
              have hi0 : 0 ≤ i := of_decide_eq_true hi
              go_wp2_with fail
              go_at_call 5
              refine Calls.mono HA.out ?_
              rintro e w3 ⟨rfl, hpost⟩
              obtain ⟨few', mv', h1, h2, h3, h4, h5, _⟩ := HL1.out.added hpost hvv.out
              rw [addD_old hb] at h1
              have HL3 : Hid (LW w w3 D few' mv' (.slice pd D.length cd)) := ⟨h1, h2, h3, h4, h5⟩
              have HR3 : Hid (RowOf w3 w.heap.size (.slice qa nm.size ca) nm) := by
                obtain ⟨_, _, _, _, hS, _⟩ := hpost
                exact HRw.out.keep hS.cell
              have hcvA := HR3.out.conv
              have hcvN := (HN.out.below h3).conv
              clear h1 h2 h3 h4 h5 hpost
              go_upto_region 32 with (fail)
              --BEGIN T
              by_cases h16 : D.length ≤ 16
              · have hmv := HL3.out.mn.small h16
                subst hmv
                have c17 := HL3.out.mn.cellM
                have c16 := HL3.out.mn.cellN
                rw [Nat.min_eq_left h16] at c16
                have q25 := nem_nil
                obtain ⟨_, _, e, hst⟩ := HL3.out.shape
                injection e with e1 _ e2
                subst e1
                subst e2
                have HST : Hid (StrsIn w3 pd D) := hst
                clear hst
                go_wp2_with fail
                go_loopw [4, 17] (fun _ i wx => ∃ k : Nat, k ≤ D.length ∧ i = .int .i64 k ∧ ∃ q, wx = w3.drewN q) (fun _ i _ => D.length - (intOf i).toNat)
                case atStart => exact ⟨0, Nat.zero_le _, rfl, 0, rfl⟩
                case round =>
                  obtain ⟨k, hk, rfl, q, hwx⟩ := hrel
                  have hh : wr.heap = w3.heap := by rw [hwx]; rfl
                  have HWx : Hid (wr = w3.drewN q) := hwx
                  clear hwx
                  by_cases hlt : k < D.length
                  · obtain ⟨v, hv, hrv⟩ := HL3.out.mn.rows k hlt (by omega)
                    have hcell := (HL3.out.mn.heap hh).cellF k (by omega)
                    rw [hv] at hcell
                    obtain ⟨pv, cv, rfl, hrr⟩ := hrv.heap hh
                    have hcv2 : ∀ n, (convert 23 9 (.slice pv D[k].size cv)).run Yba.prog (wr.drewN n) = .ok (.string D[k]) (wr.drewN n) := fun n => RowOf.conv (b := w.heap.size) (RowOf.heap (w := wr) ⟨pv, cv, rfl, hrr⟩ rfl)
                    obtain ⟨gd, od, rfl, hsc⟩ := HST.out (by omega)
                    have hsk : wr.cell? ⟨gd, od + k, .none⟩ = some (.string D[k]) := (World.cell?_of_block (a := ⟨gd, od + k, .none⟩) (by rw [hh])).trans (hsc k hlt)
                    clear hrr hrv hv hsc hh
                    have hk16 : (k : Int) < 16 := by omega
                    have hkD : (k : Int) < (D.length : Int) := by omega
                    go_wp2_with fail
                    go_quiet (fail)
                    go_wp2_with fail
                    exact ⟨⟨k + 1, by omega, by go_num, q + nq, by rw [HWx.out, World.drewN_drewN]⟩, by simp [intOf]; omega⟩
                  · obtain rfl : k = D.length := by omega
                    have HMw : Hid (MN wr w.heap.size w.heap.size D few' (.map .none)) := HL3.out.mn.heap hh
                    have HBw : Hid (Below w.heap.size w wr) := by rw [HWx.out]; exact below_drewN HL3.out.bel _
                    have q23 := nes_nil
                    clear hh c16 c17 q25
                    go_wp2_with fail
                    go_loop [4, 18] (fun _ i => ∃ j : Nat, D.length ≤ j ∧ j ≤ 16 ∧ i = .int .i64 j) (fun _ i => 16 - (intOf i).toNat)
                    case atStart => exact ⟨D.length, Nat.le_refl _, h16, rfl⟩
                    case round =>
                      obtain ⟨j, hj0, hj16, rfl⟩ := hrel
                      by_cases hj : j < 16
                      · have hcell := HMw.out.cellF j hj
                        rw [HMw.out.nils j hj0 hj] at hcell
                        have hj' : (j : Int) < 16 := by omega
                        go_wp2_with fail
                        exact ⟨⟨j + 1, by omega, by omega, by go_num⟩, by simp [intOf]; omega⟩
                      · obtain rfl : j = 16 := by omega
                        go_wp2_with fail
                        go_ret
                        exact ⟨rfl, HBw.out⟩
              · have hbig : 16 < D.length := by omega
                obtain ⟨mb, hmv, _⟩ := HL3.out.mn.big hbig
                subst hmv
                have HMB : Hid (MB w3 w.heap.size w.heap.size D few' mb D) := MB.of_MN HL3.out.mn
                have c17 := HL3.out.mn.cellM
                have c16 := HL3.out.mn.cellN
                rw [Nat.min_eq_right (by omega)] at c16
                have q25 := eqm_some
                obtain ⟨_, _, e, hst⟩ := HL3.out.shape
                injection e with e1 _ e2
                subst e1
                subst e2
                have HST : Hid (StrsIn w3 pd D) := hst
                clear hst
                have hgt : (16 : Int) < (D.length : Int) := by omega
                go_wp2_with fail
                go_loopw [4, 20] (fun _ i wx => ∃ k : Nat, k ≤ 16 ∧ i = .int .i64 k ∧ ∃ q, wx = w3.drewN q) (fun _ i _ => 16 - (intOf i).toNat)
                case atStart => exact ⟨0, Nat.zero_le _, rfl, 0, rfl⟩
                case round =>
                  obtain ⟨k, hk, rfl, q, hwx⟩ := hrel
                  have hh : wr.heap = w3.heap := by rw [hwx]; rfl
                  have HWx : Hid (wr = w3.drewN q) := hwx
                  clear hwx
                  by_cases hlt : k < 16
                  · obtain ⟨v, hv, hrv⟩ := HL3.out.mn.rows k (by omega) hlt
                    have hcell := (HL3.out.mn.heap hh).cellF k hlt
                    rw [hv] at hcell
                    obtain ⟨pv, cv, rfl, hrr⟩ := hrv.heap hh
                    have hcv2 : ∀ n, (convert 23 9 (.slice pv D[k].size cv)).run Yba.prog (wr.drewN n) = .ok (.string D[k]) (wr.drewN n) := fun n => RowOf.conv (b := w.heap.size) (RowOf.heap (w := wr) ⟨pv, cv, rfl, hrr⟩ rfl)
                    obtain ⟨gd, od, rfl, hsc⟩ := HST.out (by omega)
                    have hsk : wr.cell? ⟨gd, od + k, .none⟩ = some (.string D[k]) := (World.cell?_of_block (a := ⟨gd, od + k, .none⟩) (by rw [hh])).trans (hsc k (by omega))
                    clear hrr hrv hv hsc hh
                    have hk16 : (k : Int) < 16 := by omega
                    have hkD : (k : Int) < (D.length : Int) := by omega
                    go_wp2_with fail
                    go_quiet (fail)
                    go_wp2_with fail
                    exact ⟨⟨k + 1, by omega, by go_num, q + nq, by rw [HWx.out, World.drewN_drewN]⟩, by simp [intOf]; omega⟩
                  · obtain rfl : k = 16 := by omega
                    have HMw : Hid (MB wr w.heap.size w.heap.size D few' mb D) := HMB.out.heap hh
                    have HBw : Hid (Below w.heap.size w wr) := by rw [HWx.out]; exact below_drewN HL3.out.bel _
                    have HSw : Hid (StrsIn wr pd D) := by rw [HWx.out]; exact HST.out.below (below_drewN (Below.refl _ _) _)
                    have c17w := HMw.out.cellM
                    have hlen := HMw.out.map.len Yba.underlying25 3
                    rw [HSz.out] at hlen
                    clear hh c16 c17 q25
                    go_wp2_with fail
                    clear hlen c17w HWx
                    go_loopw [4, 21, 22, 23] (fun _ i _ _ wx => ∃ k : Nat, k ≤ D.length ∧ i = .int .i64 k ∧ Hid (MB wx w.heap.size w.heap.size D few' mb D) ∧ Hid (Below w.heap.size w wx) ∧ Hid (StrsIn wx pd D)) (fun _ i _ _ _ => D.length - (intOf i).toNat)
                    case atStart => exact ⟨0, Nat.zero_le _, rfl, HMw, HBw, HSw⟩
                    case round =>
                      obtain ⟨k, hk, rfl, HMk, HBk, HSk⟩ := hrel
                      by_cases hlt : k < D.length
                      · have c17k := HMk.out.cellM
                        have c17a : (wr.alloc (.cells #[] 32)).cell? ⟨w.heap.size, 17, .none⟩ = some (.map (some mb)) := (HMk.out.alloc _).cellM
                        have hsz := HDs.out D[k] (List.getElem_mem hlt)
                        have hlk := (HMk.out.heap (w' := wr.drew) rfl).look D[k] hsz
                        have hlk2 := ((HMk.out.alloc (.cells #[] 32)).heap (w' := (wr.alloc (.cells #[] 32)).drew) rfl).look D[k] hsz
                        rw [hasB_self D k hlt] at hlk hlk2
                        have hba : Below wr.heap.size wr (wr.alloc (.cells #[] 32)) := (Below.refl _ wr).alloc (Nat.le_refl _) _
                        obtain ⟨gd, od, rfl, hsc⟩ := HSk.out (by omega)
                        have hsk := hsc k hlt
                        have hska : (wr.alloc (.cells #[] 32)).cell? ⟨gd, od + k, .none⟩ = some (.string D[k]) := (hba.cell (World.block_lt_of_cell? _ _ hsk)).trans hsk
                        have HMn : Hid (MB (wr.alloc (.cells #[] 32)).drew w.heap.size w.heap.size D few' mb D) := (HMk.out.alloc (.cells #[] 32)).heap rfl
                        have HBn : Hid (Below w.heap.size w (wr.alloc (.cells #[] 32)).drew) := (HBk.out.alloc HBk.out.size _).drew
                        have HSn : Hid (StrsIn (wr.alloc (.cells #[] 32)).drew (some ⟨gd, od, .none⟩) D) := HSk.out.below hba.drew
                        have hkD : (k : Int) < (D.length : Int) := by omega
                        clear hsc hsz hba
                        go_wp2_with fail
                        go_region
                        go_wp2_with fail
                        all_goals exact ⟨⟨k + 1, by omega, by go_num, HMn, HBn, HSn⟩, by simp [intOf]; omega⟩
                      · obtain rfl : k = D.length := by omega
                        go_wp2_with fail
                        go_ret
                        exact ⟨rfl, HBk.out⟩
              --END T
            | false =>
              rw [hb] at hi HA
              have hi0 : i < 0 := by have := of_decide_eq_false hi; omega
              go_wp2_with fail
              go_at_call 5
              refine Calls.mono HA.out ?_
              rintro e w3 ⟨rfl, hpost⟩
              obtain ⟨few', mv', h1, h2, h3, h4, h5, h6⟩ := HL1.out.added hpost hvv.out
              rw [addD_new hb] at h1
              obtain ⟨g, cap, w4, hr, hL4, hK4⟩ := LW.pushed h1 h2 h3 h4 h5 (by omega)
              have HR4 : Hid (RowOf w4 w.heap.size (.slice qa nm.size ca) nm) := by
                obtain ⟨_, _, _, _, hS, _⟩ := hpost
                exact hK4 _ _ (HRw.out.keep hS.cell) (fun a n c e => (hvv.out a n c e).1)
              have hcvA := HR4.out.conv
              have HAP2 : Hid ((Builtin.append_ #[28, 28] 28 #[.slice pd D.length cd, .slice (some ⟨w3.heap.size, 0, .none⟩) 1 1]).run Yba.prog (w3.alloc (.cells #[.string nm] 9)) = .ok (.slice (some ⟨g, 0, .none⟩) (D.length + 1) cap) w4) := hr
              have hcv3 : (convert 23 9 (.slice pn nm.size cn)).run Yba.prog w3 = .ok (.string nm) w3 := (HN.out.below h3).conv
              have HL4 : Hid (LW w w4 (D ++ [nm]) few' mv' (.slice (some ⟨g, 0, .none⟩) (D.length + 1) cap)) := hL4
              have HF : Hid (D.length < 16 → few'[D.length]? = some (.slice qa nm.size ca)) := h6 hb
              have hcvN : (convert 23 9 (.slice pn nm.size cn)).run Yba.prog w4 = .ok (.string nm) w4 := (HN.out.below hL4.bel).conv
              clear h1 h2 h3 h4 h5 h6 hpost hr hL4 hK4
              go_upto_region 32 with (at_builtin; refine wpList_app rfl (.tmp 80) (.tmp 83) 28 28 rfl rfl rfl rfl HAP2.out ?_)
              have e2 : (D ++ [nm]).length = D.length + 1 := by simp
              have HSz2 : Hid (Maps.size (setD (D ++ [nm])) = (D ++ [nm]).length) := by
                have := size_addD HSz.out nm
                rwa [addD_new hb] at this
              have HDs2 : Hid (∀ x ∈ D ++ [nm], x.size ≤ 140737488355328) := fun x hx => by
                rcases List.mem_append.1 hx with hx | hx
                · exact HDs.out x hx
                · rw [List.mem_singleton] at hx
                  rw [hx]
                  exact hnm
              rw [← e2] at HL4
              rw [← e2, show ((D.length : Int) + 1) = ((D ++ [nm]).length : Int) by simp]
              generalize D ++ [nm] = D2 at *
              generalize (some ⟨g, 0, .none⟩ : Option Addr) = px at *
              have HE2 : Hid (D2.length = D.length + 1) := e2
              have hD2u : D2.length ≤ 2049 := by omega
              clear e2
              by_cases h16 : D2.length ≤ 16
              · have hmv := HL4.out.mn.small h16
                subst hmv
                have c17 := HL4.out.mn.cellM
                have c16 := HL4.out.mn.cellN
                rw [Nat.min_eq_left h16] at c16
                have q25 := nem_nil
                obtain ⟨_, _, e, hst⟩ := HL4.out.shape
                injection e with e1 _ e2
                subst e1
                subst e2
                have HST : Hid (StrsIn w4 px D2) := hst
                clear hst
                go_wp2_with fail
                go_loopw [4, 17] (fun _ i wx => ∃ k : Nat, k ≤ D2.length ∧ i = .int .i64 k ∧ ∃ q, wx = w4.drewN q) (fun _ i _ => D2.length - (intOf i).toNat)
                case atStart => exact ⟨0, Nat.zero_le _, rfl, 0, rfl⟩
                case round =>
                  obtain ⟨k, hk, rfl, q, hwx⟩ := hrel
                  have hh : wr.heap = w4.heap := by rw [hwx]; rfl
                  have HWx : Hid (wr = w4.drewN q) := hwx
                  clear hwx
                  by_cases hlt : k < D2.length
                  · obtain ⟨v, hv, hrv⟩ := HL4.out.mn.rows k hlt (by omega)
                    have hcell := (HL4.out.mn.heap hh).cellF k (by omega)
                    rw [hv] at hcell
                    obtain ⟨pv, cv, rfl, hrr⟩ := hrv.heap hh
                    have hcv2 : ∀ n, (convert 23 9 (.slice pv D2[k].size cv)).run Yba.prog (wr.drewN n) = .ok (.string D2[k]) (wr.drewN n) := fun n => RowOf.conv (b := w.heap.size) (RowOf.heap (w := wr) ⟨pv, cv, rfl, hrr⟩ rfl)
                    obtain ⟨gd, od, rfl, hsc⟩ := HST.out (by omega)
                    have hsk : wr.cell? ⟨gd, od + k, .none⟩ = some (.string D2[k]) := (World.cell?_of_block (a := ⟨gd, od + k, .none⟩) (by rw [hh])).trans (hsc k hlt)
                    clear hrr hrv hv hsc hh
                    have hk16 : (k : Int) < 16 := by omega
                    have hkD : (k : Int) < (D2.length : Int) := by omega
                    go_wp2_with fail
                    go_quiet (fail)
                    go_wp2_with fail
                    exact ⟨⟨k + 1, by omega, by go_num, q + nq, by rw [HWx.out, World.drewN_drewN]⟩, by simp [intOf]; omega⟩
                  · obtain rfl : k = D2.length := by omega
                    have HMw : Hid (MN wr w.heap.size w.heap.size D2 few' (.map .none)) := HL4.out.mn.heap hh
                    have HBw : Hid (Below w.heap.size w wr) := by rw [HWx.out]; exact below_drewN HL4.out.bel _
                    have q23 := nes_nil
                    clear hh c16 c17 q25
                    go_wp2_with fail
                    go_loop [4, 18] (fun _ i => ∃ j : Nat, D2.length ≤ j ∧ j ≤ 16 ∧ i = .int .i64 j) (fun _ i => 16 - (intOf i).toNat)
                    case atStart => exact ⟨D2.length, Nat.le_refl _, h16, rfl⟩
                    case round =>
                      obtain ⟨j, hj0, hj16, rfl⟩ := hrel
                      by_cases hj : j < 16
                      · have hcell := HMw.out.cellF j hj
                        rw [HMw.out.nils j hj0 hj] at hcell
                        have hj' : (j : Int) < 16 := by omega
                        go_wp2_with fail
                        exact ⟨⟨j + 1, by omega, by omega, by go_num⟩, by simp [intOf]; omega⟩
                      · obtain rfl : j = 16 := by omega
                        rcases Nat.eq_zero_or_pos nm.size with hz | hz
                        · rw [hz]
                          go_wp2_with fail
                          go_ret
                          exact ⟨rfl, HBw.out⟩
                        · have hz' : (0 : Int) < (nm.size : Int) := by omega
                          have hlt2 : D.length < 16 := by have := HE2.out; omega
                          have hcA := HMw.out.cellF D.length hlt2
                          rw [HF.out hlt2] at hcA
                          obtain ⟨qa', ca', e3, hrr⟩ := HR4.out
                          injection e3 with e4 _ e5
                          subst e4
                          subst e5
                          obtain ⟨g2, o2, rfl, _⟩ := hrr hz
                          have hkm : (D2.length : Int) - 1 = (D.length : Int) := by have := HE2.out; omega
                          have hkl : (D.length : Int) < 16 := by omega
                          obtain ⟨i5, hi5, _⟩ := i5'
                          have hpp : ∀ n, (binOp .neq 31 (.pointer (some ⟨g2, o2, .none⟩)) (.pointer (some ⟨g2, o2, .none⟩))).run Yba.prog (wr.drewN n) = .ok (.bool false) (wr.drewN n) := fun n => Lib.run_neq_ptr_same (wr.drewN n) _ Yba.underlying31 hi5
                          go_upto_region 47 with (fail)
                          go_quiet (fail)
                          go_wp2_with fail
                          go_ret
                          exact ⟨rfl, below_drewN HBw.out _⟩
              · have hbig : 16 < D2.length := by omega
                obtain ⟨mb, hmv, _⟩ := HL4.out.mn.big hbig
                subst hmv
                have HMB : Hid (MB w4 w.heap.size w.heap.size D2 few' mb D2) := MB.of_MN HL4.out.mn
                have c17 := HL4.out.mn.cellM
                have c16 := HL4.out.mn.cellN
                rw [Nat.min_eq_right (by omega)] at c16
                have q25 := eqm_some
                obtain ⟨_, _, e, hst⟩ := HL4.out.shape
                injection e with e1 _ e2
                subst e1
                subst e2
                have HST : Hid (StrsIn w4 px D2) := hst
                clear hst
                have hgt : (16 : Int) < (D2.length : Int) := by omega
                go_wp2_with fail
                go_loopw [4, 20] (fun _ i wx => ∃ k : Nat, k ≤ 16 ∧ i = .int .i64 k ∧ ∃ q, wx = w4.drewN q) (fun _ i _ => 16 - (intOf i).toNat)
                case atStart => exact ⟨0, Nat.zero_le _, rfl, 0, rfl⟩
                case round =>
                  obtain ⟨k, hk, rfl, q, hwx⟩ := hrel
                  have hh : wr.heap = w4.heap := by rw [hwx]; rfl
                  have HWx : Hid (wr = w4.drewN q) := hwx
                  clear hwx
                  by_cases hlt : k < 16
                  · obtain ⟨v, hv, hrv⟩ := HL4.out.mn.rows k (by omega) hlt
                    have hcell := (HL4.out.mn.heap hh).cellF k hlt
                    rw [hv] at hcell
                    obtain ⟨pv, cv, rfl, hrr⟩ := hrv.heap hh
                    have hcv2 : ∀ n, (convert 23 9 (.slice pv D2[k].size cv)).run Yba.prog (wr.drewN n) = .ok (.string D2[k]) (wr.drewN n) := fun n => RowOf.conv (b := w.heap.size) (RowOf.heap (w := wr) ⟨pv, cv, rfl, hrr⟩ rfl)
                    obtain ⟨gd, od, rfl, hsc⟩ := HST.out (by omega)
                    have hsk : wr.cell? ⟨gd, od + k, .none⟩ = some (.string D2[k]) := (World.cell?_of_block (a := ⟨gd, od + k, .none⟩) (by rw [hh])).trans (hsc k (by omega))
                    clear hrr hrv hv hsc hh
                    have hk16 : (k : Int) < 16 := by omega
                    have hkD : (k : Int) < (D2.length : Int) := by omega
                    go_wp2_with fail
                    go_quiet (fail)
                    go_wp2_with fail
                    exact ⟨⟨k + 1, by omega, by go_num, q + nq, by rw [HWx.out, World.drewN_drewN]⟩, by simp [intOf]; omega⟩
                  · obtain rfl : k = 16 := by omega
                    have HMw : Hid (MB wr w.heap.size w.heap.size D2 few' mb D2) := HMB.out.heap hh
                    have HBw : Hid (Below w.heap.size w wr) := by rw [HWx.out]; exact below_drewN HL4.out.bel _
                    have HSw : Hid (StrsIn wr px D2) := by rw [HWx.out]; exact HST.out.below (below_drewN (Below.refl _ _) _)
                    have c17w := HMw.out.cellM
                    have hlen := HMw.out.map.len Yba.underlying25 3
                    rw [HSz2.out] at hlen
                    clear hh c16 c17 q25
                    go_wp2_with fail
                    clear hlen c17w HWx
                    go_loopw [4, 21, 22, 23] (fun _ i _ _ wx => ∃ k : Nat, k ≤ D2.length ∧ i = .int .i64 k ∧ Hid (MB wx w.heap.size w.heap.size D2 few' mb D2) ∧ Hid (Below w.heap.size w wx) ∧ Hid (StrsIn wx px D2)) (fun _ i _ _ _ => D2.length - (intOf i).toNat)
                    case atStart => exact ⟨0, Nat.zero_le _, rfl, HMw, HBw, HSw⟩
                    case round =>
                      obtain ⟨k, hk, rfl, HMk, HBk, HSk⟩ := hrel
                      by_cases hlt : k < D2.length
                      · have c17k := HMk.out.cellM
                        have c17a : (wr.alloc (.cells #[] 32)).cell? ⟨w.heap.size, 17, .none⟩ = some (.map (some mb)) := (HMk.out.alloc _).cellM
                        have hsz := HDs2.out D2[k] (List.getElem_mem hlt)
                        have hlk := (HMk.out.heap (w' := wr.drew) rfl).look D2[k] hsz
                        have hlk2 := ((HMk.out.alloc (.cells #[] 32)).heap (w' := (wr.alloc (.cells #[] 32)).drew) rfl).look D2[k] hsz
                        rw [hasB_self D2 k hlt] at hlk hlk2
                        have hba : Below wr.heap.size wr (wr.alloc (.cells #[] 32)) := (Below.refl _ wr).alloc (Nat.le_refl _) _
                        obtain ⟨gd, od, rfl, hsc⟩ := HSk.out (by omega)
                        have hsk := hsc k hlt
                        have hska : (wr.alloc (.cells #[] 32)).cell? ⟨gd, od + k, .none⟩ = some (.string D2[k]) := (hba.cell (World.block_lt_of_cell? _ _ hsk)).trans hsk
                        have HMn : Hid (MB (wr.alloc (.cells #[] 32)).drew w.heap.size w.heap.size D2 few' mb D2) := (HMk.out.alloc (.cells #[] 32)).heap rfl
                        have HBn : Hid (Below w.heap.size w (wr.alloc (.cells #[] 32)).drew) := (HBk.out.alloc HBk.out.size _).drew
                        have HSn : Hid (StrsIn (wr.alloc (.cells #[] 32)).drew (some ⟨gd, od, .none⟩) D2) := HSk.out.below hba.drew
                        have hkD : (k : Int) < (D2.length : Int) := by omega
                        clear hsc hsz hba
                        go_wp2_with fail
                        go_region
                        go_wp2_with fail
                        all_goals exact ⟨⟨k + 1, by omega, by go_num, HMn, HBn, HSn⟩, by simp [intOf]; omega⟩
                      · obtain rfl : k = D2.length := by omega
                        go_wp2_with fail
                        go_ret
                        exact ⟨rfl, HBk.out⟩
            --END X2
end Go.Proofs.Ybulkdvna
