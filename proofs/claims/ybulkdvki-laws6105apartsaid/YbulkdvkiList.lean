import Derived.Test.YbulkdvkiCmp
namespace Go.Proofs.Ybulkdvki
open Go Go.RowKit

/-- what sortedTeams leaves -/
def SortedSaid (sb : Nat) (ts : List Tm) (u n : ByteArray) (loc : Bool) (w : World) : Prop :=
  Calls Yba.prog 11 #[.pointer (some ⟨sb, 0, none⟩), .agg #[.string u, .string n, .bool loc]] w fun e w' => ∃ (v : Value) (vs : List Tm), e = .returned v ∧ vs.Perm (visT (unresB ts u n loc) n ts) ∧ SortedB (vs.map Tm.nm) ∧ PV (fun k => k < w.heap.size) w' v (vs.map Tm.b) ∧ Below w.heap.size w w'

theorem set_take (l m : List ByteArray) (k : Nat) (h : k < l.length) (h' : k < m.length) (e : l.take k = m.take k) : (l.set k m[k]).take (k + 1) = m.take (k + 1) := by
  rw [List.take_succ_eq_append_getElem (by simpa using h), List.take_succ_eq_append_getElem h', List.take_set_of_le (Nat.le_refl _), e]
  simp

theorem rowS_made {w : World} {base g n cap : Nat} (h : w.ownsRow base 9 1 (.slice (some ⟨g, 0, none⟩) n cap) n (madeCells #[Value.string ⟨#[]⟩] n).toList) : RowS w g 0 (List.replicate n ⟨#[]⟩) := by
  rw [toList_madeCells_one] at h
  intro j hj
  rw [List.length_replicate] at hj
  refine ⟨?_, by rw [Nat.zero_add]; exact h.frozenAt j⟩
  rw [Nat.zero_add, h.cellAt j (by omega)]
  simp [List.getD, hj]

theorem SV.of_rowS {bad : Nat → Prop} {w : World} {g c : Nat} {l : List ByteArray} (h : RowS w g 0 l) (hg : ¬ bad g) : SV bad w (.slice (some ⟨g, 0, none⟩) l.length c) l :=
  ⟨_, c, rfl, Or.inr ⟨g, 0, rfl, hg, fun j hj => (h j hj).1⟩⟩

set_option maxHeartbeats 1000000 in
set_option maxRecDepth 100000 in
theorem list_any {bad : Nat → Prop} (sb : Nat) (ts : List Tm) (u n : ByteArray) (loc : Bool) (w : World) (hl : ts.length ≤ 8192) (h : StateAt bad w sb ts)
    (hS : SortedSaid sb ts u n loc (w.alloc (.cells #[.string u, .string n, .bool loc] 37))) :
    Calls Yba.prog 7 #[.pointer (some ⟨sb, 0, none⟩), .agg #[.string u, .string n, .bool loc], .slice none 0 0] w fun e w' =>
      ∃ (g m : Nat) (l : List ByteArray), e = .returned (.tuple #[.iface 44 (.slice (some ⟨g, 0, none⟩) m m), .nilIface]) ∧ l.Perm ((visT (unresB ts u n loc) n ts).map Tm.nm) ∧ SortedB l ∧ w.heap.size ≤ g ∧ m = l.length ∧ RowS w' g 0 l ∧ Below w.heap.size w w' := by
  obtain ⟨i0, hi, hz0, hz1, hz2⟩ := info_parts i9
  have HT : Hid (∀ t ∈ ts, TeamAt bad w t) := h.2
  clear h
  unfold SortedSaid at hS
  generalize unresB ts u n loc = all at hS
  go_enter Yba.func7, Yba.ntmps7
  go_wp2_with fail
  refine hS.mono ?_
  rintro e w1 ⟨v, vs, rfl, hperm, hsort, hpv, hb⟩
  have hb2 : Below w.heap.size w w1 := ((Below.refl _ _).alloc (Nat.le_refl _) _).trans (hb.mono (by simp))
  have hvl : vs.length ≤ ts.length := by
    rw [hperm.length_eq]
    unfold visT
    exact List.length_filter_le _ _
  have HV : Hid (∀ t ∈ vs, TeamAt bad w1 t) := fun t ht => (HT.out t (List.mem_filter.1 (hperm.mem_iff.1 ht)).1).below hb2
  have HPm : Hid ((vs.map Tm.nm).Perm ((visT all n ts).map Tm.nm)) := hperm.map _
  have HSo : Hid (SortedB (vs.map Tm.nm)) := hsort
  have HB : Hid (Below w.heap.size w w1) := hb2
  have hsz : w.heap.size ≤ w1.heap.size := hb2.size
  clear hperm hsort hb hb2 hS HT
  obtain ⟨p, c, rfl, hrow⟩ := hpv.at
  clear hpv
  go_wp2_with (at_make; refine wpList_make_full _ rfl _ _ 44 rfl w1.heap.size 9 i0 (.string ⟨#[]⟩) 1 Yba.underlying44 hi hz0 hz1 .i64 .i64 _ _ vs.length rfl rfl rfl rfl (by rw [hz2]; omega) (by unfold maxLen; omega) (Nat.le_refl _) ?_)
  intro w2 hown hgrow
  have HR : Hid (RowS w2 w1.heap.size 0 (List.replicate vs.length ⟨#[]⟩)) := rowS_made hown
  have HB3 : Hid (Below w1.heap.size w1 w2) := (Below.refl _ _).grown hgrow (Nat.le_refl _) (by intro k hk; cases hk)
  clear hown hgrow
  go_wp2
  go_loopw [20] (fun i wr => ∃ k : Nat, k ≤ vs.length ∧ i = .int .i64 k ∧ ∃ l : List ByteArray, l.length = vs.length ∧ l.take k = (vs.map Tm.nm).take k ∧ RowS wr w1.heap.size 0 l ∧ Below w1.heap.size w1 wr) (fun i _ => vs.length - (intOf i).toNat)
  case atStart => exact ⟨0, Nat.zero_le _, rfl, List.replicate vs.length ⟨#[]⟩, by simp, rfl, HR.out, HB3.out⟩
  case round =>
    obtain ⟨k, hk, rfl, l, hll, htk, hrs, hbel⟩ := hrel
    by_cases hlt : k < vs.length
    · rcases hrow with rfl | ⟨b, off, rfl, hbd, hcl⟩
      · simp at hlt
      · have hcp : wr.cell? ⟨b, off + k, none⟩ = some (.pointer (some ⟨vs[k].b, 0, none⟩)) := (hbel.cell (cell_lt (hcl k hlt))).trans (hcl k hlt)
        have htn := (HV.out _ (List.getElem_mem hlt)).2.1
        have hcn : wr.cell? ⟨vs[k].b, 0, none⟩ = some (.string vs[k].nm) := (hbel.cell (cell_lt htn)).trans htn
        have hkl : k < l.length := by omega
        have hc0 := (hrs k hkl).1
        have hf0 := (hrs k hkl).2
        rw [Nat.zero_add] at hc0 hf0
        have HR1 := hrs.set hkl vs[k].nm
        rw [Nat.zero_add] at HR1
        have HB1 : Below w1.heap.size w1 (wr.setCell ⟨w1.heap.size, k, none⟩ (.string vs[k].nm)) := hbel.setCell (Nat.le_refl _) _
        have HL1 : Hid ((l.set k vs[k].nm).length = vs.length) := by rw [List.length_set]; exact hll
        have HK1 : Hid ((l.set k vs[k].nm).take (k + 1) = (vs.map Tm.nm).take (k + 1)) := by
          have := set_take l (vs.map Tm.nm) k hkl (by simpa using hlt) htk
          have h2 : (l.set k vs[k].nm).take (k + 1) = (vs.map Tm.nm).take (k + 1) := by simpa using this
          exact h2
        have hRR : Hid (RowS (wr.setCell ⟨w1.heap.size, k, none⟩ (.string vs[k].nm)) w1.heap.size 0 (l.set k vs[k].nm)) := HR1
        have hBB : Hid (Below w1.heap.size w1 (wr.setCell ⟨w1.heap.size, k, none⟩ (.string vs[k].nm))) := HB1
        clear HR1 HB1 hrs hbel hll htk htn hcl
        go_wp2
        go_roundw
        case rel => exact ⟨k + 1, by omega, by go_num, _, HL1.out, HK1.out, hRR.out, hBB.out⟩
        case measure => simp [intOf]; omega
    · have HL : Hid (l = vs.map Tm.nm) := by
        rw [List.take_of_length_le (by omega), List.take_of_length_le (by simp; omega)] at htk
        exact htk
      have HRs : Hid (RowS wr w1.heap.size 0 l) := hrs
      have HBe : Hid (Below w.heap.size w wr) := HB.out.trans (hbel.mono hsz)
      clear htk hrs hbel hll hrow
      go_wp2
      go_ret2
      refine ⟨_, _, l, rfl, ?_, ?_, hsz, ?_, HRs.out, HBe.out⟩
      · rw [HL.out]; exact HPm.out
      · rw [HL.out]; exact HSo.out
      · rw [HL.out, List.length_map]
end Go.Proofs.Ybulkdvki
