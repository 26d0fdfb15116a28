import Derived.Test.YbulkdvnaDoorBuild
import Derived.Lib.CleanFns
namespace Go.Proofs.YbulkdvnaDoor
open Go Go.RowKit

/-- the pieces between slashes that are not empty -/
def pcs (l : List UInt8) : List (List UInt8) := (Lib.Pa.els l).filter (· ≠ [])
def one (c : List UInt8) : List (List UInt8) := if c = [] then [] else [c]
/-- as the loop goes: cur: the piece that is open -/
def scan : List UInt8 → List UInt8 → List (List UInt8)
  | cur, [] => one cur
  | cur, c :: t => if c = 47 then one cur ++ scan [] t else scan (cur ++ [c]) t
theorem els_ne (l : List UInt8) : Lib.Pa.els l ≠ [] := by
  cases l with
  | nil => simp [Lib.Pa.els]
  | cons c t =>
    unfold Lib.Pa.els
    split
    · simp
    · split <;> simp
theorem scan_els : ∀ (l cur : List UInt8), ∃ e r, Lib.Pa.els l = e :: r ∧ scan cur l = one (cur ++ e) ++ r.filter (· ≠ [])
  | [], cur => ⟨[], [], rfl, by simp [scan]⟩
  | c :: t, cur => by
    by_cases hc : c = 47
    · obtain ⟨e, r, he, hs⟩ := scan_els t []
      refine ⟨[], Lib.Pa.els t, by rw [Lib.Pa.els, if_pos hc], ?_⟩
      rw [scan, if_pos hc, hs, he, List.append_nil, List.nil_append]
      congr 1
      unfold one
      by_cases h0 : e = []
      · simp [h0]
      · simp [h0]
    · obtain ⟨e, r, he, hs⟩ := scan_els t (cur ++ [c])
      refine ⟨c :: e, r, by rw [Lib.Pa.els, if_neg hc, he], ?_⟩
      rw [scan, if_neg hc, hs, List.append_assoc]
      rfl
theorem scan_pcs (l : List UInt8) : scan [] l = pcs l := by
  obtain ⟨e, r, he, hs⟩ := scan_els l []
  unfold pcs
  rw [hs, he, List.nil_append]
  unfold one
  by_cases h0 : e = []
  · simp [h0]
  · simp [h0]

theorem i9 : (Ybad.prog.info? 9).map (fun i => (i.zero, i.size, i.bytes)) = some (some (.string ⟨#[]⟩), 1, 16) := by kernel_rfl
theorem i9' : ∃ i, Ybad.prog.info? 9 = some i ∧ i.zero = some (.string ⟨#[]⟩) ∧ i.size = 1 ∧ i.bytes = 16 := by
  obtain ⟨i, hi, hh⟩ := Option.map_eq_some_iff.1 i9
  simp only [Prod.mk.injEq] at hh
  exact ⟨i, hi, hh⟩
def strV (l : List UInt8) : Value := .string ⟨l.toArray⟩
/-- a []string of the call's own -/
def OwnS (w : World) (base : Nat) (v : Value) (ps : List (List UInt8)) : Prop := w.ownsRow base 9 1 v ps.length (ps.map strV)
theorem OwnS.nil (w : World) (base : Nat) : OwnS w base (.slice none 0 0) [] := World.ownsRow_nil _ _ _ _
theorem ownsRow_below {W W' : World} {base : Nat} {e : TypeId} {v : Value} {n : Nat} {xs : List Value} (h : W.ownsRow base e 1 v n xs) (hb : Below W.heap.size W W') : W'.ownsRow base e 1 v n xs := by
  refine ⟨h.1, ?_⟩
  rcases h.2 with h1 | ⟨g', cap', cur, h1, h2, h3, h4⟩
  · exact .inl h1
  · refine .inr ⟨g', cap', cur, h1, h2, ?_, h4⟩
    rw [hb.block g' ?_]
    · exact h3
    · rcases Nat.lt_or_ge g' W.heap.size with h' | h'
      · exact h'
      · rw [Array.getElem?_eq_none h'] at h3; cases h3
theorem OwnS.below {W W' : World} {base : Nat} {v : Value} {ps : List (List UInt8)} (h : OwnS W base v ps) (hb : Below W.heap.size W W') : OwnS W' base v ps := ownsRow_below h hb
theorem OwnS.push (W : World) (base : Nat) (v : Value) (ps : List (List UInt8)) (h : OwnS W base v ps) (x : ByteArray) (hb : base ≤ W.heap.size) (hl : ps.length ≤ 1000000) :
    ∃ v' W', (Builtin.append_ #[22, 22] 22 #[v, .slice (some ⟨W.heap.size, 0, none⟩) 1 1]).run Ybad.prog (W.alloc (.cells #[.string x] 9)) = .ok v' W' ∧ OwnS W' base v' (ps ++ [x.data.toList]) ∧ Below base W W' := by
  obtain ⟨i, hi, hz, hs, hby⟩ := i9'
  have hba : Below W.heap.size W (W.alloc (.cells #[.string x] 9)) := (Below.refl _ W).alloc (Nat.le_refl _) _
  have ha := h.below hba
  obtain ⟨g', cap', W', hr, ho, hg, -, -⟩ := run_append_lies (P := Ybad.prog) (W.alloc (.cells #[.string x] 9)) 22 22 base 9 i (.string ⟨#[]⟩) 1 16 Ybad.underlying22 hi hz hs hby rfl (by decide) v ps.length (ps.map strV) ha ⟨W.heap.size, 0, none⟩ 1 1 [.string x] rfl (fun j u hj => by
      have hj0 : j = 0 := by
        have := (List.getElem?_eq_some_iff.1 hj).1
        simp at this
        exact this
      subst hj0
      have e : u = .string x := by simpa using hj.symm
      rw [e]
      exact (cell_of_row _ _ _ _ 9 (0, 0) (heap_alloc_new W _)).trans rfl) (fun u hu => by
      rw [List.mem_singleton.1 hu]
      rfl) (by decide) (by unfold maxLen; omega) (by omega) (Nat.le_trans hb hba.size) _ rfl
  refine ⟨_, W', hr, ?_, (hba.mono hb).trans ((Below.refl base _).grown hg (Nat.le_trans hb hba.size) (fun k hk => (World.ownsRow.lt ha k hk).1))⟩
  unfold OwnS
  rw [List.length_append, List.length_singleton, List.map_append]
  exact ho

theorem take_snoc (l : List UInt8) (st k : Nat) (hk : k < l.length) (hs : st ≤ k) : (l.drop st).take (k + 1 - st) = (l.drop st).take (k - st) ++ [l[k]] := by
  rw [show k + 1 - st = (k - st) + 1 by omega, List.take_succ_eq_append_getElem (by rw [List.length_drop]; omega)]
  congr 1
  simp [List.getElem_drop, show st + (k - st) = k by omega]

set_option maxHeartbeats 2000000 in
set_option maxRecDepth 100000 in
theorem pieces_any (s : ByteArray) (w : World) (hs : s.size ≤ 1000000) :
    Calls Ybad.prog 7 #[.string s] w fun e w' => ∃ v, e = .returned v ∧ OwnS w' w.heap.size v (pcs s.data.toList) ∧ Below w.heap.size w w' := by
  have hl : s.data.toList.length = s.size := by rw [Array.length_toList]; rfl
  have HL : Hid (s.data.toList.length = s.size) := hl
  clear hl
  go_enter Ybad.func7, Ybad.ntmps7
  go_wp2_with fail
  go_loopw [3, 4, 5] (fun v stv iv wr => ∃ (k st : Nat) (out : List (List UInt8)), k ≤ s.size + 1 ∧ iv = .int .i64 (k : Int) ∧ stv = .int .i64 (st : Int) ∧ out.length ≤ k ∧ st ≤ s.size + 1 ∧ Hid (OwnS wr w.heap.size v out) ∧ Hid (Below w.heap.size w wr) ∧
      Hid (k ≤ s.size → st ≤ k ∧ out ++ scan ((s.data.toList.drop st).take (k - st)) (s.data.toList.drop k) = pcs s.data.toList) ∧ Hid (k = s.size + 1 → out = pcs s.data.toList)) (fun _ _ iv _ => s.size + 1 - (intOf iv).toNat)
  case atStart => exact ⟨0, 0, [], by omega, rfl, rfl, by simp, by omega, OwnS.nil _ _, Below.refl _ _, fun _ => ⟨Nat.le_refl _, by simp [scan_pcs]⟩, fun h => by omega⟩
  case round =>
    obtain ⟨k, st, out, hk, rfl, rfl, hol, hst, HO, HB, HI, HE⟩ := hrel
    by_cases hlt : k ≤ s.size
    · obtain ⟨hsk, hinv⟩ := HI.out hlt
      have HInv : Hid (out ++ scan ((s.data.toList.drop st).take (k - st)) (s.data.toList.drop k) = pcs s.data.toList) := hinv
      clear hinv
      have HX : Hid ((s.extract st k).data.toList = (s.data.toList.drop st).take (k - st)) := by
        show (s.extract st k).data.toList = _
        rw [ByteArray.data_extract, Array.toList_extract, List.extract_eq_take_drop]
      have HXl : Hid (st < k → (s.data.toList.drop st).take (k - st) ≠ []) := fun hh e => by
        have := congrArg List.length e
        rw [List.length_take, List.length_drop, HL.out] at this
        simp at this
        omega
      have HX0 : Hid (¬ st < k → (s.data.toList.drop st).take (k - st) = []) := fun hh => by
        rw [show k - st = 0 by omega, List.take_zero]
      by_cases hend : k = s.size
      · subst hend
        have HN : Hid (out ++ one ((s.data.toList.drop st).take (s.size - st)) = pcs s.data.toList) := by
          have := HInv.out
          have e : s.data.toList.drop s.size = [] := List.drop_of_length_le (by rw [HL.out]; exact Nat.le_refl _)
          rw [e] at this
          exact this
        by_cases hgt : st < s.size
        · obtain ⟨v1, W1, hap, ho, hb⟩ := OwnS.push wr w.heap.size u3 out HO.out (s.extract st s.size) HB.out.size (by omega)
          have HAP : Hid (_ = _) := hap
          have HO1 : Hid (OwnS W1 w.heap.size v1 (pcs s.data.toList)) := by
            rw [← HN.out]
            unfold one
            rw [if_neg (HXl.out hgt), ← HX.out]
            exact ho
          have HB1 : Hid (Below w.heap.size w W1) := HB.out.trans hb
          have HPl : Hid ((pcs s.data.toList).length ≤ s.size + 1) := by
            rw [← HN.out]
            show _ ≤ _
            rw [List.length_append]
            unfold one
            split
            · simp; omega
            · simp; omega
          clear hap ho hb
          go_wp2_with (at_builtin; refine wpList_app rfl (.tmp 25) (.tmp 30) 22 22 22 rfl rfl rfl rfl HAP.out ?_)
          all_goals exact ⟨⟨s.size + 1, s.size + 1, _, by omega, by go_num, by go_num, HPl.out, by omega, HO1, HB1, fun h => by omega, fun _ => rfl⟩, by simp [intOf]⟩
        · have hst2 : st = s.size := by omega
          subst hst2
          have HO1 : Hid (OwnS wr w.heap.size u3 (pcs s.data.toList)) := by
            rw [← HN.out, HX0.out hgt]
            unfold one
            rw [if_pos rfl, List.append_nil]
            exact HO.out
          have HPl : Hid ((pcs s.data.toList).length ≤ s.size + 1) := by
            rw [← HN.out, HX0.out hgt]
            unfold one
            rw [if_pos rfl, List.append_nil]
            show _ ≤ _
            omega
          go_wp2_with fail
          all_goals exact ⟨⟨s.size + 1, s.size + 1, _, by omega, by go_num, by go_num, HPl.out, by omega, HO1, HB, fun h => by omega, fun _ => rfl⟩, by simp [intOf]⟩
      · have hlt2 : k < s.size := by omega
        have hne : ((k : Int) == (s.size : Int)) = false := by rw [beq_eq_false_iff_ne]; omega
        have HD : Hid (s.data.toList.drop k = s[k] :: s.data.toList.drop (k + 1)) := by
          have := List.drop_eq_getElem_cons (l := s.data.toList) (i := k) (by rw [HL.out]; exact hlt2)
          rw [this]
          rfl
        by_cases h47 : s[k] = 47
        · have h47' : ((s[k].toNat : Int) == 47) = true := by rw [h47]; rfl
          have HN : Hid (out ++ one ((s.data.toList.drop st).take (k - st)) ++ scan [] (s.data.toList.drop (k + 1)) = pcs s.data.toList) := by
            have := HInv.out
            rw [HD.out, scan, if_pos h47, ← List.append_assoc] at this
            exact this
          have HE2 : Hid (k + 1 = s.size + 1 → False) := fun h => by omega
          by_cases hgt : st < k
          · obtain ⟨v1, W1, hap, ho, hb⟩ := OwnS.push wr w.heap.size u3 out HO.out (s.extract st k) HB.out.size (by omega)
            have HAP : Hid (_ = _) := hap
            have HO1 : Hid (OwnS W1 w.heap.size v1 (out ++ [(s.extract st k).data.toList])) := ho
            have HN1 : Hid (out ++ [(s.extract st k).data.toList] ++ scan [] (s.data.toList.drop (k + 1)) = pcs s.data.toList) := by
              have := HN.out
              unfold one at this
              rw [if_neg (HXl.out hgt), ← HX.out] at this
              exact this
            have HB1 : Hid (Below w.heap.size w W1) := HB.out.trans hb
            clear hap ho hb h47
            go_wp2_with (at_builtin; refine wpList_app rfl (.tmp 25) (.tmp 30) 22 22 22 rfl rfl rfl rfl HAP.out ?_)
            all_goals exact ⟨⟨k + 1, k + 1, _, by omega, by go_num, by go_num, by simp; omega, by omega, HO1, HB1, fun _ => ⟨Nat.le_refl _, by rw [Nat.sub_self, List.take_zero]; exact HN1.out⟩, fun h => (HE2.out h).elim⟩, by simp [intOf]; omega⟩
          · have HN1 : Hid (out ++ scan [] (s.data.toList.drop (k + 1)) = pcs s.data.toList) := by
              have := HN.out
              rw [HX0.out hgt] at this
              unfold one at this
              rw [if_pos rfl, List.append_nil] at this
              exact this
            clear h47
            go_wp2_with fail
            all_goals exact ⟨⟨k + 1, k + 1, _, by omega, by go_num, by go_num, by omega, by omega, HO, HB, fun _ => ⟨Nat.le_refl _, by rw [Nat.sub_self, List.take_zero]; exact HN1.out⟩, fun h => (HE2.out h).elim⟩, by simp [intOf]; omega⟩
        · have h47' : ((s[k].toNat : Int) == 47) = false := by
            rw [beq_eq_false_iff_ne]
            intro h
            exact h47 (UInt8.toNat_inj.1 (by have : s[k].toNat = 47 := by omega
                                             exact this))
          have HN1 : Hid (out ++ scan ((s.data.toList.drop st).take (k + 1 - st)) (s.data.toList.drop (k + 1)) = pcs s.data.toList) := by
            have := HInv.out
            rw [HD.out, scan, if_neg h47] at this
            rw [take_snoc s.data.toList st k (by rw [HL.out]; exact hlt2) hsk]
            exact this
          clear h47
          go_wp2_with fail
          all_goals exact ⟨⟨k + 1, st, _, by omega, by go_num, rfl, by omega, by omega, HO, HB, fun _ => ⟨by omega, HN1.out⟩, fun h => by omega⟩, by simp [intOf]; omega⟩
    · obtain rfl : k = s.size + 1 := by omega
      have hfin := HE.out rfl
      subst hfin
      go_wp2_with fail
      go_ret
      exact ⟨_, rfl, HO.out, HB.out⟩
end Go.Proofs.YbulkdvnaDoor
