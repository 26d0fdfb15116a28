import Derived.Test.YbulkdvkiSort
import Derived.WalkSpells
import Derived.Deep.AppendLies
import Derived.WalkLawsBesides
import Derived.Lib.SliceRun
namespace Go.Proofs.Ybulkdvki
open Go Go.RowKit

theorem cell_lt {w : World} {a : Addr} {v : Value} (h : w.cell? a = some v) : a.block < w.heap.size := by
  rcases Nat.lt_or_ge a.block w.heap.size with hlt | hge
  · exact hlt
  · simp [World.cell?, Array.getElem?_eq_none hge] at h

/-- all blocks that are not 'bad' are as they were -/
def Keeps (bad : Nat → Prop) (w w' : World) : Prop := ∀ k, k < w.heap.size → ¬ bad k → w'.heap[k]? = w.heap[k]?

theorem Keeps.cell {bad : Nat → Prop} {w w' : World} (h : Keeps bad w w') {b o : Nat} {v : Value} (hb : ¬ bad b) (hc : w.cell? ⟨b, o, none⟩ = some v) : w'.cell? ⟨b, o, none⟩ = some v := by
  rw [← hc]
  exact World.cell?_of_block (h b (cell_lt hc) hb)
theorem Keeps.of_below {bad : Nat → Prop} {w w' : World} (h : Below w.heap.size w w') : Keeps bad w w' := fun k hk _ => h.block k hk
theorem Keeps.of_turn {bad : Nat → Prop} {w w' : World} {b : Nat} (h : Turn b w w') (hb : bad b) : Keeps bad w w' := fun k _ hn => h.block k (fun e => hn (e ▸ hb))

/-- the value v is a slice of the strings l, in blocks that are not bad -/
def SV (bad : Nat → Prop) (w : World) (v : Value) (l : List ByteArray) : Prop :=
  ∃ p c, v = .slice p l.length c ∧ (l = [] ∨ ∃ b off, p = some ⟨b, off, none⟩ ∧ ¬ bad b ∧ ∀ j, j < l.length → w.cell? ⟨b, off + j, none⟩ = some (.string (l.getD j ByteArray.empty)))

theorem SV.keeps {bad : Nat → Prop} {w w' : World} {v : Value} {l : List ByteArray} (h : SV bad w v l) (k : Keeps bad w w') : SV bad w' v l := by
  obtain ⟨p, c, rfl, h | ⟨b, off, rfl, hb, hc⟩⟩ := h
  · exact ⟨p, c, rfl, Or.inl h⟩
  · exact ⟨_, c, rfl, Or.inr ⟨b, off, rfl, hb, fun j hj => k.cell hb (hc j hj)⟩⟩
theorem SV.below {bad : Nat → Prop} {w w' : World} {v : Value} {l : List ByteArray} (h : SV bad w v l) (k : Below w.heap.size w w') : SV bad w' v l := h.keeps (.of_below k)
theorem SV.weaken {bad bad' : Nat → Prop} {w : World} {v : Value} {l : List ByteArray} (h : SV bad w v l) (k : ∀ i, i < w.heap.size → bad' i → bad i) : SV bad' w v l := by
  obtain ⟨p, c, rfl, h | ⟨b, off, rfl, hb, hc⟩⟩ := h
  · exact ⟨p, c, rfl, Or.inl h⟩
  · by_cases hl : l = []
    · exact ⟨_, c, rfl, Or.inl hl⟩
    · have hlt := cell_lt (hc 0 (List.length_pos_iff.2 hl))
      exact ⟨_, c, rfl, Or.inr ⟨b, off, rfl, fun x => hb (k b hlt x), hc⟩⟩
theorem SV.nil (bad : Nat → Prop) (w : World) : SV bad w (.slice none 0 0) [] := ⟨none, 0, rfl, Or.inl rfl⟩

theorem has_SV {bad : Nat → Prop} {v : Value} {l : List ByteArray} (x : ByteArray) (w : World) (hl : l.length ≤ 4096) (h : SV bad w v l) :
    Calls Yba.prog 9 #[v, .string x] w fun e w' => e = .returned (.bool (hasB l x)) ∧ w' = w := by
  obtain ⟨p, c, rfl, rfl | ⟨b, off, rfl, hb, hc⟩⟩ := h
  · exact has_empty _ _ _ _
  · exact has_some _ _ _ _ _ _ (by unfold maxLen; omega) hc
theorem contains_SV {bad : Nat → Prop} {v : Value} {l : List ByteArray} (x : ByteArray) (w : World) (hl : l.length ≤ 4096) (h : SV bad w v l) :
    Calls Yba.prog 23 #[v, .string x] w fun e w' => e = .returned (.bool (hasB l x)) ∧ w' = w := by
  obtain ⟨p, c, rfl, rfl | ⟨b, off, rfl, hb, hc⟩⟩ := h
  · exact contains_empty _ _ _ _
  · exact contains_some _ _ _ _ _ _ (by unfold maxLen; omega) hc
theorem eq_SV {bad bad' : Nat → Prop} {v v' : Value} {l m : List ByteArray} (w : World) (hl : l.length ≤ 8192) (h : SV bad w v l) (h' : SV bad' w v' m) :
    Calls Yba.prog 8 #[v, v'] w fun e w' => e = .returned (.bool (eqB l m)) ∧ ∃ n, w' = w.drewN n := by
  by_cases hlm : l.length = m.length
  · obtain ⟨p, c, rfl, rfl | ⟨b, off, rfl, hb, hc⟩⟩ := h
    · obtain ⟨p', c', rfl, _⟩ := h'
      have hm : m = [] := List.length_eq_zero_iff.1 hlm.symm
      subst hm
      exact (eq_empty _ _ _ _ _).mono fun e w' ⟨he, hw⟩ => ⟨by rw [he]; rfl, 0, hw⟩
    · obtain ⟨p', c', rfl, rfl | ⟨b', off', rfl, hb', hc'⟩⟩ := h'
      · have hm : l = [] := List.length_eq_zero_iff.1 hlm
        subst hm
        exact (eq_empty _ _ _ _ _).mono fun e w' ⟨he, hw⟩ => ⟨by rw [he]; rfl, 0, hw⟩
      · exact eq_some _ _ _ _ _ _ _ _ _ (by unfold maxLen; omega) hlm hc hc'
  · obtain ⟨p, c, rfl, _⟩ := h
    obtain ⟨p', c', rfl, _⟩ := h'
    refine (eq_len _ _ _ _ _ _ hlm _).mono fun e w' ⟨he, hw⟩ => ⟨?_, 0, hw⟩
    rw [he]
    congr 2
    symm
    unfold eqB
    rw [decide_eq_false_iff_not]
    rintro rfl
    exact hlm rfl

/-! ### slices.Clone -/
theorem i9 : (Yba.prog.info? 9).map (fun i => (i.zero, i.size, i.bytes)) = some (some (.string ⟨#[]⟩), 1, 16) := by kernel_rfl
theorem i30 : (Yba.prog.info? 30).map (fun i => (i.zero, i.size, i.bytes)) = some (some (.pointer none), 1, 8) := by kernel_rfl

/-- a slice that owns a row of strings -/
theorem SV.of_owns {w : World} {base : Nat} {v : Value} {l : List ByteArray} (h : w.ownsRow base 9 1 v l.length (l.map Value.string)) : SV (fun k => k < base) w v l := by
  obtain ⟨_, ⟨rfl, h0⟩ | ⟨g, cap, cur, rfl, hg, hh, hn, hm, hs, ht⟩⟩ := h
  · have : l = [] := List.length_eq_zero_iff.1 h0
    subst this
    exact SV.nil _ _
  · refine ⟨_, cap, rfl, Or.inr ⟨g, 0, rfl, by omega, fun j hj => ?_⟩⟩
    have hown : w.ownsRow base 9 1 (.slice (some ⟨g, 0, none⟩) l.length cap) l.length (l.map Value.string) := ⟨by simp, Or.inr ⟨g, cap, cur, rfl, hg, hh, hn, hm, hs, ht⟩⟩
    rw [Nat.zero_add, hown.cellAt j (by omega)]
    simp [List.getD, hj]

set_option maxHeartbeats 1000000 in
set_option maxRecDepth 100000 in
theorem clone_some (b off c : Nat) (l : List ByteArray) (w : World) (hl : l.length ≤ 4096) (hc : ∀ j, j < l.length → w.cell? ⟨b, off + j, none⟩ = some (.string (l.getD j ByteArray.empty))) :
    Calls Yba.prog 4 #[.slice (some ⟨b, off, none⟩) l.length c] w fun e w' => ∃ v', e = .returned v' ∧ w'.ownsRow w.heap.size 9 1 v' l.length (l.map Value.string) ∧ Below w.heap.size w w' := by
  obtain ⟨i0, hi, hz0, hz1, hz2⟩ := info_parts i9
  have q24 : ∀ (w : World) (a : Option Addr) (n c n' c' : Nat), (binOp .eql 23 (.slice a n c) (.slice none n' c')).run Yba.prog w = .ok (.bool a.isNone) w := fun w a n c n' c' => Lib.run_eql_slice_nil w _ _ a n c n' c' Yba.underlying23
  have HC : Hid (∀ j, j < l.length → w.cell? ⟨b, off + j, none⟩ = some (.string (l.getD j ByteArray.empty))) := hc
  clear hc
  go_enter Yba.func4, Yba.ntmps4
  go_wp2_with (at_builtin; refine wpList_append_own _ rfl _ _ 23 rfl w.heap.size 9 i0 (.string { data := #[] }) 1 16 Yba.underlying23 hi hz0 hz1 hz2 rfl (by decide) _ _ _ rfl (World.ownsRow_made w #[] 0 (Nat.le_refl _) (Nat.zero_le _) rfl) ⟨b, off, none⟩ l.length c (l.map Value.string) rfl ?qc1 ?qc2 ?qc3 ?qc4 ?qc5 ?qc6 ?_)
  case qc1 => simp
  case qc2 =>
    intro j u hj
    have hjn : j < l.length := by
      have := (List.getElem?_eq_some_iff.1 hj).1
      simpa using this
    rw [Addr.add_lit]
    refine Lib.cell?_alloc_some _ ?_
    rw [HC.out j hjn]
    have e : (l.map Value.string)[j]? = some (Value.string (l.getD j ByteArray.empty)) := by simp [List.getD, hjn]
    rw [e] at hj
    exact hj
  case qc3 => intro u hu; obtain ⟨x, _, rfl⟩ := List.mem_map.1 hu; rfl
  case qc4 => unfold maxLen; omega
  case qc5 => omega
  case qc6 => simp
  intro v' w1 hown hgrow hnil
  go_wp2
  go_ret
  refine ⟨v', rfl, by simpa using hown, ?_⟩
  exact ((Below.refl _ w).alloc (Nat.le_refl _) _).grown hgrow (by simp) (by intro k hk; simp [Value.ownBlock] at hk; omega)

set_option maxHeartbeats 1000000 in
theorem clone_nil (n c : Nat) (w : World) : Calls Yba.prog 4 #[.slice none n c] w fun e w' => e = .returned (.slice none 0 0) ∧ w' = w := by
  have q24 : ∀ (w : World) (a : Option Addr) (n c n' c' : Nat), (binOp .eql 23 (.slice a n c) (.slice none n' c')).run Yba.prog w = .ok (.bool a.isNone) w := fun w a n c n' c' => Lib.run_eql_slice_nil w _ _ a n c n' c' Yba.underlying23
  go_enter Yba.func4, Yba.ntmps4
  go_wp2
  go_ret
  exact ⟨rfl, rfl⟩

set_option maxHeartbeats 1000000 in
set_option maxRecDepth 100000 in
theorem clone_zero (a : Addr) (c : Nat) (w : World) :
    Calls Yba.prog 4 #[.slice (some a) 0 c] w fun e w' => ∃ v', e = .returned v' ∧ w'.ownsRow w.heap.size 9 1 v' 0 [] ∧ Below w.heap.size w w' := by
  obtain ⟨i0, hi, hz0, hz1, hz2⟩ := info_parts i9
  have q24 : ∀ (w : World) (a : Option Addr) (n c n' c' : Nat), (binOp .eql 23 (.slice a n c) (.slice none n' c')).run Yba.prog w = .ok (.bool a.isNone) w := fun w a n c n' c' => Lib.run_eql_slice_nil w _ _ a n c n' c' Yba.underlying23
  go_enter Yba.func4, Yba.ntmps4
  go_wp2_with (at_builtin; refine wpList_append_own _ rfl _ _ 23 rfl w.heap.size 9 i0 (.string { data := #[] }) 1 16 Yba.underlying23 hi hz0 hz1 hz2 rfl (by decide) _ _ _ rfl (World.ownsRow_made w #[] 0 (Nat.le_refl _) (Nat.zero_le _) rfl) a 0 c [] rfl rfl (by intro j u hj; simp at hj) (by intro u hu; cases hu) (by unfold maxLen; omega) (by omega) (by simp) ?_)
  intro v' w1 hown hgrow hnil
  go_wp2
  go_ret
  refine ⟨v', rfl, by simpa using hown, ?_⟩
  exact ((Below.refl _ w).alloc (Nat.le_refl _) _).grown hgrow (by simp) (by intro k hk; simp [Value.ownBlock] at hk; omega)

/-- slices.Clone at []string: a copy in new memory -/
theorem clone_SV {bad : Nat → Prop} {v : Value} {l : List ByteArray} (w : World) (hl : l.length ≤ 4096) (h : SV bad w v l) :
    Calls Yba.prog 4 #[v] w fun e w' => ∃ v', e = .returned v' ∧ SV (fun k => k < w.heap.size) w' v' l ∧ Below w.heap.size w w' := by
  obtain ⟨p, c, rfl, rfl | ⟨b, off, rfl, hb, hc⟩⟩ := h
  · cases p with
    | none => exact (clone_nil _ _ _).mono fun e w' ⟨he, hw⟩ => ⟨_, he, SV.nil _ _, by rw [hw]; exact Below.refl _ _⟩
    | some a => exact (clone_zero _ _ _).mono fun e w' ⟨v', he, ho, hw⟩ => ⟨_, he, SV.of_owns (l := []) ho, hw⟩
  · exact (clone_some _ _ _ _ _ hl hc).mono fun e w' ⟨v', he, ho, hw⟩ => ⟨_, he, SV.of_owns ho, hw⟩

/-! ### rows of pointers to teams -/
/-- the value v is a slice of pointers to the blocks ts, in blocks that are not bad -/
def PV (bad : Nat → Prop) (w : World) (v : Value) (ts : List Nat) : Prop :=
  ∃ p c, v = .slice p ts.length c ∧ (ts = [] ∨ ∃ b off, p = some ⟨b, off, none⟩ ∧ ¬ bad b ∧ ∀ j, j < ts.length → w.cell? ⟨b, off + j, none⟩ = some (.pointer (some ⟨ts.getD j 0, 0, none⟩)))

theorem PV.keeps {bad : Nat → Prop} {w w' : World} {v : Value} {l : List Nat} (h : PV bad w v l) (k : Keeps bad w w') : PV bad w' v l := by
  obtain ⟨p, c, rfl, h | ⟨b, off, rfl, hb, hc⟩⟩ := h
  · exact ⟨p, c, rfl, Or.inl h⟩
  · exact ⟨_, c, rfl, Or.inr ⟨b, off, rfl, hb, fun j hj => k.cell hb (hc j hj)⟩⟩
theorem PV.below {bad : Nat → Prop} {w w' : World} {v : Value} {l : List Nat} (h : PV bad w v l) (k : Below w.heap.size w w') : PV bad w' v l := h.keeps (.of_below k)
theorem PV.nil (bad : Nat → Prop) (w : World) : PV bad w (.slice none 0 0) [] := ⟨none, 0, rfl, Or.inl rfl⟩

def ptrV (b : Nat) : Value := .pointer (some ⟨b, 0, none⟩)
theorem PV.of_owns {w : World} {base : Nat} {v : Value} {l : List Nat} (h : w.ownsRow base 30 1 v l.length (l.map ptrV)) : PV (fun k => k < base) w v l := by
  obtain ⟨_, ⟨rfl, h0⟩ | ⟨g, cap, cur, rfl, hg, hh, hn, hm, hs, ht⟩⟩ := h
  · have : l = [] := List.length_eq_zero_iff.1 h0
    subst this
    exact PV.nil _ _
  · refine ⟨_, cap, rfl, Or.inr ⟨g, 0, rfl, by omega, fun j hj => ?_⟩⟩
    have hown : w.ownsRow base 30 1 (.slice (some ⟨g, 0, none⟩) l.length cap) l.length (l.map ptrV) := ⟨by simp, Or.inr ⟨g, cap, cur, rfl, hg, hh, hn, hm, hs, ht⟩⟩
    rw [Nat.zero_add, hown.cellAt j (by omega)]
    simp [List.getD, hj, ptrV]

set_option maxHeartbeats 1000000 in
set_option maxRecDepth 100000 in
theorem clonep_some (b off c : Nat) (l : List Nat) (w : World) (hl : l.length ≤ 8192) (hc : ∀ j, j < l.length → w.cell? ⟨b, off + j, none⟩ = some (.pointer (some ⟨l.getD j 0, 0, none⟩))) :
    Calls Yba.prog 6 #[.slice (some ⟨b, off, none⟩) l.length c] w fun e w' => ∃ v', e = .returned v' ∧ w'.ownsRow w.heap.size 30 1 v' l.length (l.map ptrV) ∧ Below w.heap.size w w' := by
  obtain ⟨i0, hi, hz0, hz1, hz2⟩ := info_parts i30
  have q24 : ∀ (w : World) (a : Option Addr) (n c n' c' : Nat), (binOp .eql 27 (.slice a n c) (.slice none n' c')).run Yba.prog w = .ok (.bool a.isNone) w := fun w a n c n' c' => Lib.run_eql_slice_nil w _ _ a n c n' c' Yba.underlying27
  have HC : Hid (∀ j, j < l.length → w.cell? ⟨b, off + j, none⟩ = some (.pointer (some ⟨l.getD j 0, 0, none⟩))) := hc
  clear hc
  go_enter Yba.func6, Yba.ntmps6
  go_wp2_with (at_builtin; refine wpList_append_own _ rfl _ _ 27 rfl w.heap.size 30 i0 (.pointer none) 1 8 Yba.underlying27 hi hz0 hz1 hz2 rfl (by decide) _ _ _ rfl (World.ownsRow_made w #[] 0 (Nat.le_refl _) (Nat.zero_le _) rfl) ⟨b, off, none⟩ l.length c (l.map ptrV) rfl ?qc1 ?qc2 ?qc3 ?qc4 ?qc5 ?qc6 ?_)
  case qc1 => simp
  case qc2 =>
    intro j u hj
    have hjn : j < l.length := by
      have := (List.getElem?_eq_some_iff.1 hj).1
      simpa using this
    rw [Addr.add_lit]
    refine Lib.cell?_alloc_some _ ?_
    rw [HC.out j hjn]
    have e : (l.map ptrV)[j]? = some (.pointer (some ⟨l.getD j 0, 0, none⟩)) := by simp [List.getD, hjn, ptrV]
    rw [e] at hj
    exact hj
  case qc3 => intro u hu; obtain ⟨x, _, rfl⟩ := List.mem_map.1 hu; rfl
  case qc4 => unfold maxLen; omega
  case qc5 => omega
  case qc6 => simp
  intro v' w1 hown hgrow hnil
  go_wp2
  go_ret
  refine ⟨v', rfl, by simpa using hown, ?_⟩
  exact ((Below.refl _ w).alloc (Nat.le_refl _) _).grown hgrow (by simp) (by intro k hk; simp [Value.ownBlock] at hk; omega)

set_option maxHeartbeats 1000000 in
theorem clonep_nil (n c : Nat) (w : World) : Calls Yba.prog 6 #[.slice none n c] w fun e w' => e = .returned (.slice none 0 0) ∧ w' = w := by
  have q24 : ∀ (w : World) (a : Option Addr) (n c n' c' : Nat), (binOp .eql 27 (.slice a n c) (.slice none n' c')).run Yba.prog w = .ok (.bool a.isNone) w := fun w a n c n' c' => Lib.run_eql_slice_nil w _ _ a n c n' c' Yba.underlying27
  go_enter Yba.func6, Yba.ntmps6
  go_wp2
  go_ret
  exact ⟨rfl, rfl⟩

/-! ### teams -/
structure Tm where
  b : Nat
  nm : ByteArray
  mem : List ByteArray
  adm : List ByteArray
def Tm.zero : Tm := ⟨0, ⟨#[]⟩, [], []⟩

/-- the block t.b holds the team t; none of its blocks is bad -/
def TeamAt (bad : Nat → Prop) (w : World) (t : Tm) : Prop :=
  ¬ bad t.b ∧ w.cell? ⟨t.b, 0, none⟩ = some (.string t.nm) ∧
  (∃ v, w.cell? ⟨t.b, 1, none⟩ = some v ∧ SV bad w v t.adm) ∧ (∃ v, w.cell? ⟨t.b, 2, none⟩ = some v ∧ SV bad w v t.mem) ∧
  w.cell? ⟨t.b, 3, none⟩ = some (.slice none 0 0) ∧ w.cell? ⟨t.b, 4, none⟩ = some (.slice none 0 0) ∧ w.cell? ⟨t.b, 5, none⟩ = some (.slice none 0 0)

theorem TeamAt.keeps {bad : Nat → Prop} {w w' : World} {t : Tm} (h : TeamAt bad w t) (k : Keeps bad w w') : TeamAt bad w' t := by
  obtain ⟨hb, h0, ⟨v1, h1, s1⟩, ⟨v2, h2, s2⟩, h3, h4, h5⟩ := h
  exact ⟨hb, k.cell hb h0, ⟨v1, k.cell hb h1, s1.keeps k⟩, ⟨v2, k.cell hb h2, s2.keeps k⟩, k.cell hb h3, k.cell hb h4, k.cell hb h5⟩
theorem TeamAt.below {bad : Nat → Prop} {w w' : World} {t : Tm} (h : TeamAt bad w t) (k : Below w.heap.size w w') : TeamAt bad w' t := h.keeps (.of_below k)
theorem TeamAt.weaken {bad bad' : Nat → Prop} {w : World} {t : Tm} (h : TeamAt bad w t) (k : ∀ i, i < w.heap.size → bad' i → bad i) : TeamAt bad' w t := by
  obtain ⟨hb, h0, ⟨v1, h1, s1⟩, ⟨v2, h2, s2⟩, h3, h4, h5⟩ := h
  exact ⟨fun x => hb (k _ (cell_lt h0) x), h0, ⟨v1, h1, s1.weaken k⟩, ⟨v2, h2, s2.weaken k⟩, h3, h4, h5⟩
end Go.Proofs.Ybulkdvki
