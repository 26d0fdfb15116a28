import Derived.Test.YbulkdvkiList
import Derived.Test.YbulkdvkiShelf
namespace Go.Proofs.Ybulkdvki
open Go Go.RowKit Go.Shelf Go.Lib Go.Sort

/-- a team that the sort may meet: its name's cell is known, and lies outside the row that is sorted -/
def TmOf (w : World) (g : Nat) : Type := { t : Tm // w.cell? ⟨t.b, 0, none⟩ = some (.string t.nm) ∧ t.b ≠ g }
def encT {w : World} {g : Nat} (t : TmOf w g) : Value := ptrV t.1.b
def cfT {w : World} {g : Nat} (x y : TmOf w g) : Int := Lib.compareBytes x.1.nm.data.toList y.1.nm.data.toList

theorem ltT {w : World} {g : Nat} (x y : TmOf w g) : ltOf cfT x y = ltB x.1.nm y.1.nm := by
  unfold ltOf cfT ltB
  rw [compare_neg, ByteArray.toList_eq, ByteArray.toList_eq]

theorem swoT {w : World} {g : Nat} : SWO (ltOf (cfT (w := w) (g := g))) := {
  irrefl := fun x => by rw [ltT]; exact ltB_irrefl _
  trans := fun x y z h1 h2 => by rw [ltT] at *; exact ltB_trans h1 h2
  ntrans := fun x y z h1 h2 => by rw [ltT] at *; exact ltB_ntrans h1 h2 }

theorem cell_sortWorld {α : Type} [Inhabited α] (enc : α → Value) (w : World) (blk off m : Nat) (dk : Array α) (os : Array Obj) (b : Nat) (hb : b ≠ blk) (hlt : b < w.heap.size) : (sortWorld enc w blk off m dk os).cell? ⟨b, 0, none⟩ = w.cell? ⟨b, 0, none⟩ := by
  unfold sortWorld
  rw [cell?_grow _ _ _ (by simpa using hlt), cell?_putRow_other _ _ _ _ _ _ (Or.inl hb)]
  rfl

theorem below_sortWorld {α : Type} [Inhabited α] (enc : α → Value) (w : World) (blk off m : Nat) (dk : Array α) (os : Array Obj) {B : Nat} (hB : B ≤ blk) (hB' : B ≤ w.heap.size) : Below B w (sortWorld enc w blk off m dk os) := by
  refine ⟨rfl, rfl, rfl, ?_, fun k hk => ?_⟩
  · unfold sortWorld
    rw [size_grow, size_putRow]
    show w.heap.size ≤ w.heap.size + _
    omega
  · unfold sortWorld
    rw [heap_grow_old _ _ (by rw [size_putRow]; show k < w.heap.size; omega)]
    unfold putRow mapBlock
    show (w.heap.modify blk _)[k]? = _
    rw [Array.getElem?_modify, if_neg (by omega)]

theorem cmpT (w : World) (g size : Nat) [Inhabited (TmOf w g)] : CmpLays1 Yba.prog 14 #[] encT (cfT (w := w) (g := g)) g 0 size w := by
  intro m os dk _ x y
  have h1 : (sortWorld encT w g 0 m dk os).cell? ⟨x.1.b, 0, none⟩ = some (.string x.1.nm) := (cell_sortWorld _ _ _ _ _ _ _ _ x.2.2 (cell_lt x.2.1)).trans x.2.1
  have h2 : (sortWorld encT w g 0 m dk os).cell? ⟨y.1.b, 0, none⟩ = some (.string y.1.nm) := (cell_sortWorld _ _ _ _ _ _ _ _ y.2.2 (cell_lt y.2.1)).trans y.2.1
  refine (closure_any x.1.b y.1.b x.1.nm y.1.nm _ h1 h2).mono ?_
  rintro e w' ⟨rfl, q, rfl⟩
  exact ⟨rfl, q, #[], by rw [grow_empty]⟩

theorem sort_ptrs (base g cap : Nat) (vs : List Tm) (w : World) (hne : vs ≠ []) (hl : vs.length ≤ 8192) (hrow : w.ownsRow base 30 1 (.slice (some ⟨g, 0, none⟩) vs.length cap) vs.length ((vs.map Tm.b).map ptrV))
    (hn : ∀ t ∈ vs, w.cell? ⟨t.b, 0, none⟩ = some (.string t.nm) ∧ t.b ≠ g) (hb : base ≤ w.heap.size) :
    Calls Yba.prog 13 #[.slice (some ⟨g, 0, none⟩) vs.length cap, .func (.func 14) #[] #[]] w fun e w' => e = .returned (.tuple #[]) ∧ ∃ vs' : List Tm, vs'.Perm vs ∧ SortedB (vs'.map Tm.nm) ∧ PV (fun k => k < base) w' (.slice (some ⟨g, 0, none⟩) vs.length cap) (vs'.map Tm.b) ∧ Below base w w' := by
  have hg := hrow.lt g rfl
  obtain ⟨t0, ht0⟩ := List.exists_mem_of_ne_nil vs hne
  have inh : Inhabited (TmOf w g) := ⟨⟨t0, hn t0 ht0⟩⟩
  obtain ⟨d, hd⟩ : ∃ d : Array (TmOf w g), d.toList.map (fun t => t.1) = vs := by
    refine ⟨(vs.attach.map fun t => ⟨t.1, hn t.1 t.2⟩).toArray, ?_⟩
    show List.map (fun t => t.1) (List.map (fun t => (⟨t.1, hn t.1 t.2⟩ : TmOf w g)) vs.attach) = vs
    rw [List.map_map]
    exact List.attach_map_subtype_val vs
  have hds : d.size = vs.length := by rw [← hd]; simp
  have hdj : ∀ j (hj : j < d.size), vs[j]'(by omega) = (d[j]'hj).1 := by
    intro j hj
    subst hd
    simp
  have hH : Holds encT w g 0 d := by
    intro j hj
    refine ⟨?_, by rw [Nat.zero_add]; exact hrow.frozenAt j⟩
    rw [Nat.zero_add, hrow.cellAt j (by omega), getElem!_pos d j hj]
    have hjv : j < vs.length := by omega
    simp only [List.getElem?_map, List.getElem?_eq_getElem hjv, Option.map_some, encT]
    rw [hdj j hj]
  have eg : ∀ args w, (callFunc 14 args).run Yba.prog w = .ok (.enter 14 args) w := enters_of Yba.func14 (by kernel_rfl) rfl
  have hcon := Any.slices_SortFunc Yba.sortL encT (fun _ => rfl) cfT swoT 14 #[] g 0 cap d w eg (cmpT w g d.size) hH hg.2 (by omega)
  change Calls Yba.prog 13 _ _ _ at hcon
  rw [hds] at hcon
  refine hcon.mono ?_
  rintro e w' ⟨rfl, d', n, os, ⟨hp1, _, hp2⟩, hs, rfl⟩
  refine ⟨rfl, d'.toList.map (fun t => t.1), ?_, ?_, ?_, ?_⟩
  · rw [← hd]
    refine List.Perm.map _ ?_
    rw [Array.toList_extract, Array.toList_extract] at hp2
    have hl1 : d'.toList.length = vs.length := by rw [Array.length_toList, hp1, hds]
    have hl2 : d.toList.length = vs.length := by rw [Array.length_toList, hds]
    simpa [List.extract, List.take_of_length_le (Nat.le_of_eq hl1), List.take_of_length_le (Nat.le_of_eq hl2)] using hp2
  · unfold SortedB
    rw [List.pairwise_iff_getElem]
    intro i j hi hj hij
    simp only [List.map_map, List.length_map, Array.length_toList] at hi hj
    have h := hs i j (Nat.zero_le _) hij (by omega)
    rw [ltT, getElem!_pos d' j hj, getElem!_pos d' i hi] at h
    simpa using h
  · have hH' : Holds encT (sortWorld encT w g 0 n d' os) g 0 d' := holds_sortWorld encT w g 0 n d d' os hg.2 hH hp1
    refine ⟨_, cap, by simp [hp1, hds], Or.inr ⟨g, 0, rfl, by omega, fun j hj => ?_⟩⟩
    simp only [List.map_map, List.length_map, Array.length_toList] at hj
    rw [(hH' j hj).1, getElem!_pos d' j hj]
    simp [List.getD, hj, encT, ptrV]
  · exact below_sortWorld _ _ _ _ _ _ _ hg.1 hb

theorem owns_mono {w : World} {base base' : Nat} {e : TypeId} {size : Nat} {v : Value} {n : Nat} {xs : List Value} (h : w.ownsRow base e size v n xs) (hb : base' ≤ base) : w.ownsRow base' e size v n xs := by
  obtain ⟨h1, h2 | ⟨g, cap, cur, hv, hg, hr⟩⟩ := h
  · exact ⟨h1, Or.inl h2⟩
  · exact ⟨h1, Or.inr ⟨g, cap, cur, hv, Nat.le_trans hb hg, hr⟩⟩

set_option maxHeartbeats 1000000 in
theorem sorted_any {bad : Nat → Prop} (sb : Nat) (ts : List Tm) (u n : ByteArray) (loc : Bool) (w : World) (hl : ts.length ≤ 8192) (hm : ∀ t ∈ ts, t.mem.length ≤ 4096) (ha : ∀ t ∈ ts, t.adm.length ≤ 4096) (h : StateAt bad w sb ts) :
    SortedSaid sb ts u n loc w := by
  have hal : ∀ o, Below w.heap.size w (w.alloc o) := fun o => (Below.refl _ _).alloc (Nat.le_refl _) _
  have hS0 : ∀ (p : Option Addr) (c : Nat) (W : World), Calls Yba.prog 13 #[.slice p 0 c, .func (.func 14) #[] #[]] W fun e w' => e = .returned (.tuple #[]) ∧ w' = W := fun p c W => AnyF.slices_SortFunc_none (P := Yba.prog) (ρ := Yba.sortL_ren) { Yba.sortL with } p c (.func (.func 14) #[] #[]) W
  have h' := h.below (hal (.cells #[.string u, .string n, .bool loc] 37))
  have hT : Calls Yba.prog 12 #[.pointer (some ⟨sb, 0, none⟩), .agg #[.string u, .string n, .bool loc]] (w.alloc (.cells #[.string u, .string n, .bool loc] 37)) fun e w' => ∃ v, e = .returned v ∧ w'.ownsRow (w.heap.size + 1) 30 1 v (visT (unresB ts u n loc) n ts).length (((visT (unresB ts u n loc) n ts).map Tm.b).map ptrV) ∧ Below (w.heap.size + 1) (w.alloc (.cells #[.string u, .string n, .bool loc] 37)) w' := by
    have h2 := h'
    obtain ⟨⟨v, hv, hp⟩, _⟩ := h2
    obtain ⟨p, c, rfl, rfl | ⟨b, off, rfl, hb, hc⟩⟩ := hp.at
    · refine (teams_empty sb _ _ u n loc _ hv h').mono ?_
      rintro e w' ⟨rfl, hb⟩
      exact ⟨_, rfl, World.ownsRow_nil _ _ _ _, by simpa using hb⟩
    · refine (teams_some sb b off c ts u n loc _ hl hm ha hv hc h').mono ?_
      rintro e w' ⟨v, rfl, ho, hb⟩
      refine ⟨_, rfl, ?_, by simpa using hb⟩
      have := owns_mono (base' := w.heap.size + 1) ho (by simp)
      simpa [visL] using this
  have hvl : (visT (unresB ts u n loc) n ts).length ≤ 8192 := Nat.le_trans (List.length_filter_le _ _) hl
  have hvt : ∀ t ∈ visT (unresB ts u n loc) n ts, TeamAt bad w t := fun t ht => h.2 t (List.mem_filter.1 ht).1
  unfold SortedSaid
  generalize visT (unresB ts u n loc) n ts = vs at *
  clear h' h hm ha
  by_cases hne : vs = []
  · subst hne
    go_enter Yba.func11, Yba.ntmps11
    go_wp2_with fail
    refine hT.mono ?_
    rintro e w1 ⟨v, rfl, ho, hb⟩
    have hbw : Below w.heap.size w w1 := (hal _).trans (hb.mono (by omega))
    obtain ⟨_, ⟨rfl, _⟩ | ⟨g, cap, _, rfl, hg, _⟩⟩ := ho
    · go_wp2_with (go_at_call 13; refine (hS0 _ _ _).mono ?_; rintro e w' ⟨rfl, rfl⟩)
      go_ret
      exact ⟨_, [], rfl, List.Perm.refl _, List.Pairwise.nil, PV.nil _ _, hbw⟩
    · go_wp2_with (go_at_call 13; refine (hS0 _ _ _).mono ?_; rintro e w' ⟨rfl, rfl⟩)
      go_ret
      exact ⟨_, [], rfl, List.Perm.refl _, List.Pairwise.nil, ⟨_, _, rfl, Or.inl rfl⟩, hbw⟩
  · go_enter Yba.func11, Yba.ntmps11
    go_wp2_with fail
    refine hT.mono ?_
    rintro e w1 ⟨v, rfl, ho, hb⟩
    have hbw : Below w.heap.size w w1 := (hal _).trans (hb.mono (by omega))
    have hpos : 0 < vs.length := List.length_pos_iff.2 hne
    obtain ⟨g, cap, rfl, hg, hlt⟩ := ho.form hpos
    have hsz : w.heap.size + 1 ≤ w1.heap.size := by have := hb.size; simpa using this
    have hS := sort_ptrs (w.heap.size + 1) g cap vs w1 hne hvl ho (fun t ht => by
      have hc := (hvt t ht).2.1
      have hlt := cell_lt hc
      exact ⟨(hbw.cell hlt).trans hc, by simp at hlt; omega⟩) hsz
    clear ho hb hvt hvl hal
    go_wp2_with (go_at_call 13; refine hS.mono ?_; rintro e w2 ⟨rfl, vs', hperm, hsort, hpv, hb2⟩)
    go_ret
    refine ⟨_, vs', rfl, hperm, hsort, ?_, hbw.trans (hb2.mono (by omega))⟩
    obtain ⟨p, c, hp, hrest⟩ := hpv
    refine ⟨p, c, hp, ?_⟩
    rcases hrest with hr | ⟨b, off, hp', hbb, hcc⟩
    · exact Or.inl hr
    · exact Or.inr ⟨b, off, hp', by omega, hcc⟩
end Go.Proofs.Ybulkdvki
