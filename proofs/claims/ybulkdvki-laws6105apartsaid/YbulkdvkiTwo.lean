import Derived.Test.YbulkdvkiBuilt
namespace Go.Proofs.Ybulkdvki
open Go Go.RowKit

/-- the two lists of names that the law gathers: each in a row of its own, apart from one another, from block H on -/
def Two (H : Nat) (W : World) (a f : Value) (lA lF : List ByteArray) (wx : World) : Prop :=
  wx.ownsRow H 9 1 a lA.length (lA.map Value.string) ∧ wx.ownsRow H 9 1 f lF.length (lF.map Value.string) ∧ (∀ k, a.ownBlock = some k → f.ownBlock ≠ some k) ∧ Below H W wx ∧ H ≤ wx.heap.size

theorem Two.start (W : World) : Two W.heap.size W (.slice none 0 0) (.slice none 0 0) [] [] W :=
  ⟨World.ownsRow_nil _ _ _ _, World.ownsRow_nil _ _ _ _, fun k h => (by cases h), Below.refl _ _, Nat.le_refl _⟩
theorem Two.below {H : Nat} {W : World} {a f : Value} {lA lF : List ByteArray} {wx w4 : World} (h : Two H W a f lA lF wx) (hb : Below wx.heap.size wx w4) : Two H W a f lA lF w4 := by
  obtain ⟨h1, h2, h3, h4, h5⟩ := h
  exact ⟨owns_below h1 hb, owns_below h2 hb, h3, h4.trans (hb.mono h5), Nat.le_trans h5 hb.size⟩
theorem Two.all {H : Nat} {W : World} {a f : Value} {lA lF : List ByteArray} {w4 w5 : World} {g cap Hx : Nat} {s : ByteArray} (h : Two H W a f lA lF w4)
    (hown : w5.ownsRow H 9 1 (.slice (some ⟨g, 0, none⟩) (lA.length + 1) cap) (lA.length + 1) (lA.map Value.string ++ [.string s])) (hgrow : w4.grownBy w5 a.ownBlock) (hat : a.ownBlock = some g ∨ g = Hx) (hH : w4.heap.size = Hx) :
    Two H W (.slice (some ⟨g, 0, none⟩) (lA.length + 1) cap) f (lA ++ [s]) lF w5 := by
  obtain ⟨h1, h2, h3, h4, h5⟩ := h
  refine ⟨by simpa using hown, h2.kept hgrow ?_, fun k hk e => ?_, h4.grown hgrow h5 fun k hk => (h1.lt k hk).1, Nat.le_trans h5 hgrow.size⟩
  · rcases hf : f.ownBlock with _ | k
    · exact Or.inl rfl
    · refine Or.inr fun e => ?_
      exact h3 k e.symm hf
  · have hkg : g = k := by simpa [Value.ownBlock] using hk
    subst hkg
    rcases hat with e1 | e1
    · exact h3 g e1 e
    · have := (h2.lt g e).2
      omega
theorem Two.fil {H : Nat} {W : World} {a f : Value} {lA lF : List ByteArray} {w4 w5 : World} {g cap Hx : Nat} {s : ByteArray} (h : Two H W a f lA lF w4)
    (hown : w5.ownsRow H 9 1 (.slice (some ⟨g, 0, none⟩) (lF.length + 1) cap) (lF.length + 1) (lF.map Value.string ++ [.string s])) (hgrow : w4.grownBy w5 f.ownBlock) (hat : f.ownBlock = some g ∨ g = Hx) (hH : w4.heap.size = Hx) :
    Two H W a (.slice (some ⟨g, 0, none⟩) (lF.length + 1) cap) lA (lF ++ [s]) w5 := by
  obtain ⟨h1, h2, h3, h4, h5⟩ := h
  refine ⟨h1.kept hgrow ?_, by simpa using hown, fun k hk e => ?_, h4.grown hgrow h5 fun k hk => (h2.lt k hk).1, Nat.le_trans h5 hgrow.size⟩
  · rcases hf : a.ownBlock with _ | k
    · exact Or.inl rfl
    · refine Or.inr fun e => ?_
      exact h3 k hf e.symm
  · have hkg : g = k := by simpa [Value.ownBlock] using e
    subst hkg
    rcases hat with e1 | e1
    · exact h3 g hk e1
    · have := (h1.lt g hk).2
      omega

/-! ### the sort at a value -/
set_option maxHeartbeats 400000 in
theorem sort_empty (p : Option Addr) (c : Nat) (w : World) : Calls Yba.prog 10 #[.slice p 0 c] w fun e w' => e = .returned (.tuple #[]) ∧ w' = w := by
  go_enter Yba.func10, Yba.ntmps10
  go_wp2
  go_loop [2] (fun i => i = .int .i64 1) (fun _ => 0)
  case atStart => rfl
  case round =>
    subst hrel
    go_wp2
    go_end0
    exact ⟨rfl, rfl⟩

theorem rowS_owns {w : World} {base g cap : Nat} {l : List ByteArray} (h : w.ownsRow base 9 1 (.slice (some ⟨g, 0, none⟩) l.length cap) l.length (l.map Value.string)) : RowS w g 0 l := by
  intro j hj
  refine ⟨?_, by rw [Nat.zero_add]; exact h.frozenAt j⟩
  rw [Nat.zero_add, h.cellAt j (by omega)]
  simp [List.getD, hj]

/-- zzs6105asort on a row that the call owns: the strings, sorted, in the same place; nothing else turns -/
theorem sort_owned {base : Nat} {v : Value} {l : List ByteArray} (w : World) (hl : l.length ≤ 8192) (h : w.ownsRow base 9 1 v l.length (l.map Value.string)) :
    Calls Yba.prog 10 #[v] w fun e w' => e = .returned (.tuple #[]) ∧ ∃ m, m.Perm l ∧ SortedB m ∧ SV (fun k => k < base) w' v m ∧ Below base w w' ∧ ∀ k, v.ownBlock ≠ some k → w'.heap[k]? = w.heap[k]? := by
  have h0 := h
  obtain ⟨_, ⟨rfl, h1⟩ | ⟨g, cap, cur, rfl, hg, hh, hn, hm, hs, ht⟩⟩ := h0
  · have hl0 : l = [] := List.length_eq_zero_iff.1 h1
    subst hl0
    refine (sort_empty _ _ w).mono ?_
    rintro e w' ⟨rfl, rfl⟩
    exact ⟨rfl, [], List.Perm.refl _, List.Pairwise.nil, SV.nil _ _, Below.refl _ _, fun _ _ => rfl⟩
  · refine (sort_some g 0 cap l w (by unfold maxLen; omega) (rowS_owns h)).mono ?_
    rintro e w' ⟨rfl, ht, m, hp, hsrt, hrow⟩
    refine ⟨rfl, m, hp, hsrt, ?_, ⟨ht.os, ht.tape, ht.output, Nat.le_of_eq ht.size.symm, fun k hk => ht.block k (by omega)⟩, fun k hk => ht.block k (fun e => hk (by rw [e]; rfl))⟩
    rw [← hp.length_eq]
    exact SV.of_rowS hrow (by show ¬ g < base; omega)

theorem SV.apart {bad : Nat → Prop} {w : World} {v : Value} {l : List ByteArray} (h : SV bad w v l) (f : Value) (hd : ∀ k, v.ownBlock = some k → f.ownBlock ≠ some k) : SV (fun k => f.ownBlock = some k) w v l := by
  obtain ⟨p, c, rfl, h | ⟨b, off, rfl, _, hc⟩⟩ := h
  · exact ⟨p, c, rfl, Or.inl h⟩
  · exact ⟨_, c, rfl, Or.inr ⟨b, off, rfl, hd b rfl, hc⟩⟩
theorem SV.of_row {w : World} {g m : Nat} {l : List ByteArray} (h : RowS w g 0 l) (hm : m = l.length) : SV (fun k => w.heap.size ≤ k) w (.slice (some ⟨g, 0, none⟩) m m) l := by
  subst hm
  by_cases hl : l = []
  · exact ⟨_, _, rfl, Or.inl hl⟩
  · have hlt := cell_lt (h 0 (List.length_pos_iff.2 hl)).1
    exact ⟨_, _, rfl, Or.inr ⟨g, 0, rfl, by show ¬ w.heap.size ≤ g; exact Nat.not_le.2 hlt, fun j hj => (h j hj).1⟩⟩

/-! ### the plain law -/
def belA (t : Tm) (n : ByteArray) : Bool := hasB t.mem n || hasB t.adm n
theorem names_T {ts0 ts T ag : List Tm} (hT : ts0 ++ ts = T) (hl : ts.map (fun t => (t.nm, t.mem, t.adm)) = ag.map (fun t => (nameB t.nm, t.mem, t.adm))) (n : ByteArray) :
    T.map Tm.nm = ts0.map Tm.nm ++ ag.map (fun t => nameB t.nm) ∧ (visT false n T).map Tm.nm = (ts0.filter fun t => belA t n).map Tm.nm ++ (ag.filter fun t => belA t n).map (fun t => nameB t.nm) := by
  subst hT
  have key : ∀ (ts ag : List Tm), ts.map (fun t => (t.nm, t.mem, t.adm)) = ag.map (fun t => (nameB t.nm, t.mem, t.adm)) → ts.map Tm.nm = ag.map (fun t => nameB t.nm) ∧ (ts.filter fun t => belA t n).map Tm.nm = (ag.filter fun t => belA t n).map (fun t => nameB t.nm) := by
    intro ts
    induction ts with
    | nil =>
      intro ag h
      cases ag with
      | nil => exact ⟨rfl, rfl⟩
      | cons a r => simp at h
    | cons t r ih =>
      intro ag h
      cases ag with
      | nil => simp at h
      | cons a r' =>
        simp only [List.map_cons, List.cons.injEq, Prod.mk.injEq] at h
        obtain ⟨⟨h1, h2, h3⟩, h4⟩ := h
        obtain ⟨i1, i2⟩ := ih r' h4
        have hb : belA t n = belA a n := by unfold belA; rw [h2, h3]
        refine ⟨by simp [h1, i1], ?_⟩
        rcases hba : belA a n with _ | _
        · simp [hb, hba, i2]
        · simp [hb, hba, i2, h1]
  obtain ⟨k1, k2⟩ := key ts ag hl
  refine ⟨by rw [List.map_append, k1], ?_⟩
  have hv : visT false n (ts0 ++ ts) = (ts0 ++ ts).filter fun t => belA t n := rfl
  rw [hv, List.filter_append, List.map_append, k2]

theorem visT_true (n : ByteArray) (T : List Tm) : visT true n T = T := by
  unfold visT
  simp

/-- what the law asks at its end -/
theorem law_end {T : List Tm} {u n : ByteArray} {loc : Bool} {lg mA mF : List ByteArray} (hg : lg.Perm ((visT (unresB T u n loc) n T).map Tm.nm)) (hgs : SortedB lg)
    (hA : mA.Perm (T.map Tm.nm)) (hAs : SortedB mA) (hF : mF.Perm ((visT false n T).map Tm.nm)) (hFs : SortedB mF) :
    (unresB T u n loc = true → eqB lg mA = true) ∧ (eqB lg mF = true ∨ (eqB lg mF = false ∧ eqB lg mA = true)) := by
  rcases hu : unresB T u n loc with _ | _
  · rw [hu] at hg
    have : lg = mF := sorted_unique hgs hFs (hg.trans hF.symm)
    exact ⟨fun h => (by cases h), Or.inl (decide_eq_true this)⟩
  · rw [hu, visT_true] at hg
    have h1 : eqB lg mA = true := decide_eq_true (sorted_unique hgs hAs (hg.trans hA.symm))
    refine ⟨fun _ => h1, ?_⟩
    rcases h2 : eqB lg mF with _ | _
    · exact Or.inr ⟨rfl, h1⟩
    · exact Or.inl rfl

theorem unres_admin {ts : List Tm} {tb : Nat} {l2 l3 : List ByteArray} {u n : ByteArray} {loc : Bool} (h : hasB l2 n = true) : unresB (⟨tb, ⟨#[97, 100, 109, 105, 110]⟩, l2, l3⟩ :: ts) u n loc = true := by
  have hm : memberB (⟨tb, ⟨#[97, 100, 109, 105, 110]⟩, l2, l3⟩ :: ts) adminB n = true := by
    unfold memberB findT
    rw [List.find?_cons]
    have e : (((⟨#[97, 100, 109, 105, 110]⟩ : ByteArray).toList == adminB.toList)) = true := by rw [beq_iff_eq]; rfl
    simp only [e]
    exact h
  unfold unresB
  rw [hm, Bool.or_true]
end Go.Proofs.Ybulkdvki
