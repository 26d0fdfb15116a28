import Derived.Test.YbulkdvkiSorted
import Derived.Test.YbulkdvkiOrd
namespace Go.Proofs.Ybulkdvki
open Go Go.RowKit

/-- the teams ts have been built: the State lies in block B, the first that the law makes; its row of pointers, and all that the teams hold, in later ones -/
def BuiltAt (w : World) (ts : List Tm) (wr : World) : Prop :=
  ∃ v, wr.cell? ⟨w.heap.size, 0, none⟩ = some v ∧ wr.frozen? ⟨w.heap.size, 0, none⟩ = false ∧ wr.ownsRow (w.heap.size + 1) 30 1 v ts.length ((ts.map Tm.b).map ptrV) ∧
    (∀ t ∈ ts, TeamAt (fun k => k ≤ w.heap.size ∨ v.ownBlock = some k) wr t) ∧ Below w.heap.size w wr ∧ w.heap.size + 1 ≤ wr.heap.size

theorem BuiltAt.start (w : World) (q : Nat) : BuiltAt w [] ((w.alloc (.cells #[.slice none 0 0] 29)).drewN q) := by
  refine ⟨.slice none 0 0, ?_, ?_, World.ownsRow_nil _ _ _ _, fun t ht => (by cases ht), below_drewN ((Below.refl _ _).alloc (Nat.le_refl _) _) _, by simp⟩
  · rw [World.cell?_drewN]; simp
  · rw [World.frozen?_drewN]; simp

theorem built_step {w wr w4 w5 : World} {ts : List Tm} {v : Value} {t : Tm} {g cap H : Nat}
    (hc : wr.cell? ⟨w.heap.size, 0, none⟩ = some v) (hf : wr.frozen? ⟨w.heap.size, 0, none⟩ = false) (hown : wr.ownsRow (w.heap.size + 1) 30 1 v ts.length ((ts.map Tm.b).map ptrV))
    (hts : ∀ t ∈ ts, TeamAt (fun k => k ≤ w.heap.size ∨ v.ownBlock = some k) wr t) (hbel : Below w.heap.size w wr) (hsz : w.heap.size + 1 ≤ wr.heap.size)
    (hb4 : Below wr.heap.size wr w4) (hnew : TeamAt (fun k => k < wr.heap.size) w4 t)
    (hown5 : w5.ownsRow (w.heap.size + 1) 30 1 (.slice (some ⟨g, 0, none⟩) (ts.length + 1) cap) (ts.length + 1) ((ts.map Tm.b).map ptrV ++ [ptrV t.b])) (hgrow : w4.grownBy w5 v.ownBlock)
    (hat : v.ownBlock = some g ∨ g = H) (hH : w4.heap.size = H) :
    BuiltAt w (ts ++ [t]) (w5.setCell ⟨w.heap.size, 0, none⟩ (.slice (some ⟨g, 0, none⟩) (ts.length + 1) cap)) := by
  have hvl := hown.lt
  have hs4 := hb4.size
  have hs5 := hgrow.size
  have hg1 : w.heap.size + 1 ≤ g := (hown5.lt g rfl).1
  have hB5 : w5.heap[w.heap.size]? = w4.heap[w.heap.size]? := hgrow.block _ (by omega) (fun e => by have := (hvl _ e.symm).1; omega)
  have hB4 : w4.heap[w.heap.size]? = wr.heap[w.heap.size]? := hb4.block _ (by omega)
  have hc5 : w5.cell? ⟨w.heap.size, 0, none⟩ = some v := by
    rw [← hc]
    exact World.cell?_of_block (hB5.trans hB4)
  have hf5 : w5.frozen? ⟨w.heap.size, 0, none⟩ = false := by
    rw [← hf]
    exact World.frozen?_of_block (hB5.trans hB4)
  -- all that is neither the State nor a row of pointers stays
  have hk : Keeps (fun k => k ≤ w.heap.size ∨ v.ownBlock = some k ∨ g = k) w4 (w5.setCell ⟨w.heap.size, 0, none⟩ (.slice (some ⟨g, 0, none⟩) (ts.length + 1) cap)) := by
    intro k hk hn
    rw [Below.heap_setCell _ _ _ _ (by show k ≠ w.heap.size; omega)]
    exact hgrow.block k hk (fun e => hn (Or.inr (Or.inl e.symm)))
  have hall : ∀ t' ∈ ts ++ [t], TeamAt (fun k => k ≤ w.heap.size ∨ v.ownBlock = some k ∨ g = k) w4 t' := by
    intro t' ht'
    rcases List.mem_append.1 ht' with h | h
    · have h1 := (hts t' h)
      refine (h1.weaken (bad' := fun k => k ≤ w.heap.size ∨ v.ownBlock = some k ∨ g = k) ?_).below hb4
      intro i hi hbad
      rcases hbad with h | h | h
      · exact Or.inl h
      · exact Or.inr h
      · rcases hat with e | e
        · exact Or.inr (by rw [e, h])
        · omega
    · rw [List.mem_singleton] at h
      subst h
      refine hnew.weaken ?_
      intro i hi hbad
      rcases hbad with h | h | h
      · show i < wr.heap.size
        omega
      · exact (hvl i h).2
      · rcases hat with e | e
        · have := (hvl g e).2
          show i < wr.heap.size
          omega
        · omega
  refine ⟨_, World.cell?_setCell_same _ _ _ hc5, by rw [World.frozen?_setCell]; exact hf5, ?_, fun t' ht' => ?_, ?_, ?_⟩
  · have h := ownsRow_setCell_below hown5 (a := ⟨w.heap.size, 0, none⟩) (by show w.heap.size < w.heap.size + 1; omega) (.slice (some ⟨g, 0, none⟩) (ts.length + 1) cap)
    simpa using h
  · refine ((hall t' ht').keeps hk).weaken ?_
    intro i hi hbad
    rcases hbad with h | h
    · exact Or.inl h
    · exact Or.inr (Or.inr (by simpa [Value.ownBlock] using h))
  · refine ((hbel.trans (hb4.mono (by omega))).grown hgrow (by omega) (fun k hk => by have := (hvl k hk).1; omega)).setCell (Nat.le_refl _) _
  · simp [World.setCell]
    omega

/-- what the loads of the region that builds a team read; w: the world in which the law began -/
def RS (w : World) (v : Value) (b o : Nat) (nm : ByteArray) (va vm : Value) (w' : World) : Prop :=
  Below w.heap.size w w' ∧ w'.cell? ⟨w.heap.size, 0, none⟩ = some v ∧ w'.cell? ⟨b, o, none⟩ = some (.string nm) ∧ w'.cell? ⟨b, o + 1, none⟩ = some va ∧ w'.cell? ⟨b, o + 2, none⟩ = some vm
theorem RS.mk {w : World} {v : Value} {b o : Nat} {nm : ByteArray} {va vm : Value} {w' w'' : World} (h : RS w v b o nm va vm w') (hb : Below w'.heap.size w' w'') : RS w v b o nm va vm w'' :=
  ⟨h.1.trans (hb.mono h.1.size), (hb.cell (cell_lt h.2.1)).trans h.2.1, (hb.cell (cell_lt h.2.2.1)).trans h.2.2.1, (hb.cell (cell_lt h.2.2.2.1)).trans h.2.2.2.1, (hb.cell (cell_lt h.2.2.2.2)).trans h.2.2.2.2⟩
theorem RS.grown {w : World} {v : Value} {b o : Nat} {nm : ByteArray} {va vm : Value} {w' w'' : World} {row : Option Nat} (h : RS w v b o nm va vm w') (hg : w'.grownBy w'' row) (hr : ∀ k, row = some k → w.heap.size + 1 ≤ k) (hb : b < w.heap.size) : RS w v b o nm va vm w'' := by
  have far : ∀ k, k ≤ w.heap.size → some k ≠ row := fun k hk e => by have := hr k e.symm; omega
  exact ⟨h.1.grown hg h.1.size (fun k hk => by have := hr k hk; omega), (hg.cell_far _ (cell_lt h.2.1) (far _ (Nat.le_refl _))).trans h.2.1, (hg.cell_far _ (cell_lt h.2.2.1) (far _ (Nat.le_of_lt hb))).trans h.2.2.1,
    (hg.cell_far _ (cell_lt h.2.2.2.1) (far _ (Nat.le_of_lt hb))).trans h.2.2.2.1, (hg.cell_far _ (cell_lt h.2.2.2.2) (far _ (Nat.le_of_lt hb))).trans h.2.2.2.2⟩
/-- the same without a team that came in: the admin team -/
def RA (w : World) (v : Value) (w' : World) : Prop := Below w.heap.size w w' ∧ w'.cell? ⟨w.heap.size, 0, none⟩ = some v
theorem RA.mk {w : World} {v : Value} {w' w'' : World} (h : RA w v w') (hb : Below w'.heap.size w' w'') : RA w v w'' :=
  ⟨h.1.trans (hb.mono h.1.size), (hb.cell (cell_lt h.2)).trans h.2⟩
theorem RA.grown {w : World} {v : Value} {w' w'' : World} {row : Option Nat} (h : RA w v w') (hg : w'.grownBy w'' row) (hr : ∀ k, row = some k → w.heap.size + 1 ≤ k) : RA w v w'' :=
  ⟨h.1.grown hg h.1.size (fun k hk => by have := hr k hk; omega), (hg.cell_far _ (cell_lt h.2) (fun e => absurd (hr _ e.symm) (by show ¬ w.heap.size + 1 ≤ w.heap.size; omega))).trans h.2⟩
theorem below_alloc (w : World) (o : Obj) : Below w.heap.size w (w.alloc o) := (Below.refl _ _).alloc (Nat.le_refl _) _

/-- the new block of a team -/
theorem team_new {w : World} {nm : ByteArray} {va vm : Value} {adm mem : List ByteArray} {B : Nat} (hB : B ≤ w.heap.size) (ha : SV (fun k => k < B) w va adm) (hm : SV (fun k => k < B) w vm mem) :
    TeamAt (fun k => k < B) (w.alloc (.cells #[.string nm, va, vm, .slice none 0 0, .slice none 0 0, .slice none 0 0] 33)) ⟨w.heap.size, nm, mem, adm⟩ := by
  have hb : ∀ o, Below w.heap.size w (w.alloc o) := fun o => (Below.refl _ _).alloc (Nat.le_refl _) _
  refine ⟨by show ¬ w.heap.size < B; omega, by simp, ⟨va, by simp, ha.below (hb _)⟩, ⟨vm, by simp, hm.below (hb _)⟩, by simp, by simp, by simp⟩

theorem BuiltAt.state {w wr : World} {T : List Tm} (h : BuiltAt w T wr) : ∃ v, wr.cell? ⟨w.heap.size, 0, none⟩ = some v ∧ PV (fun _ => False) wr v (T.map Tm.b) ∧ StateAt (fun _ => False) wr w.heap.size T := by
  obtain ⟨v, hc, _, hown, hts, hbel, hsz⟩ := h
  have hp : PV (fun _ => False) wr v (T.map Tm.b) := by
    have h1 : wr.ownsRow (w.heap.size + 1) 30 1 v (T.map Tm.b).length ((T.map Tm.b).map ptrV) := by rw [List.length_map]; exact hown
    obtain ⟨p, c, rfl, h2 | ⟨b, off, rfl, _, hcc⟩⟩ := PV.of_owns h1
    · exact ⟨p, c, rfl, Or.inl h2⟩
    · exact ⟨_, c, rfl, Or.inr ⟨b, off, rfl, id, hcc⟩⟩
  exact ⟨v, hc, hp, ⟨v, hc, hp⟩, fun t ht => (hts t ht).weaken (fun _ _ h => h.elim)⟩

set_option maxHeartbeats 1000000 in
set_option maxRecDepth 100000 in
theorem clonep_zero (a : Addr) (c : Nat) (w : World) :
    Calls Yba.prog 6 #[.slice (some a) 0 c] w fun e w' => ∃ v', e = .returned v' ∧ w'.ownsRow w.heap.size 30 1 v' 0 [] ∧ Below w.heap.size w w' := by
  obtain ⟨i0, hi, hz0, hz1, hz2⟩ := info_parts i30
  have q24 : ∀ (w : World) (a : Option Addr) (n c n' c' : Nat), (binOp .eql 27 (.slice a n c) (.slice none n' c')).run Yba.prog w = .ok (.bool a.isNone) w := fun w a n c n' c' => Lib.run_eql_slice_nil w _ _ a n c n' c' Yba.underlying27
  go_enter Yba.func6, Yba.ntmps6
  go_wp2_with (at_builtin; refine wpList_append_own _ rfl _ _ 27 rfl w.heap.size 30 i0 (.pointer none) 1 8 Yba.underlying27 hi hz0 hz1 hz2 rfl (by decide) _ _ _ rfl (World.ownsRow_made w #[] 0 (Nat.le_refl _) (Nat.zero_le _) rfl) a 0 c [] rfl rfl (by intro j u hj; simp at hj) (by intro u hu; cases hu) (by unfold maxLen; omega) (by omega) (by simp) ?_)
  intro v' w1 hown hgrow hnil
  go_wp2
  go_ret
  refine ⟨v', rfl, by simpa using hown, ?_⟩
  exact ((Below.refl _ w).alloc (Nat.le_refl _) _).grown hgrow (by simp) (by intro k hk; simp [Value.ownBlock] at hk; omega)

theorem PV.any {bad : Nat → Prop} {w : World} {v : Value} {l : List Nat} (h : PV bad w v l) : PV (fun _ => False) w v l := by
  obtain ⟨p, c, rfl, h | ⟨b, off, rfl, _, hc⟩⟩ := h
  · exact ⟨p, c, rfl, Or.inl h⟩
  · exact ⟨_, c, rfl, Or.inr ⟨b, off, rfl, id, hc⟩⟩
theorem SV.any {bad : Nat → Prop} {w : World} {v : Value} {l : List ByteArray} (h : SV bad w v l) : SV (fun _ => False) w v l := by
  obtain ⟨p, c, rfl, h | ⟨b, off, rfl, _, hc⟩⟩ := h
  · exact ⟨p, c, rfl, Or.inl h⟩
  · exact ⟨_, c, rfl, Or.inr ⟨b, off, rfl, id, hc⟩⟩

theorem clone_PV {bad : Nat → Prop} {v : Value} {l : List Nat} (w : World) (hl : l.length ≤ 8192) (h : PV bad w v l) :
    Calls Yba.prog 6 #[v] w fun e w' => ∃ v', e = .returned v' ∧ PV (fun _ => False) w' v' l ∧ Below w.heap.size w w' := by
  obtain ⟨p, c, rfl, rfl | ⟨b, off, rfl, hb, hc⟩⟩ := h
  · cases p with
    | none => exact (clonep_nil _ _ _).mono fun e w' ⟨he, hw⟩ => ⟨_, he, PV.nil _ _, by rw [hw]; exact Below.refl _ _⟩
    | some a => exact (clonep_zero _ _ _).mono fun e w' ⟨v', he, ho, hw⟩ => ⟨_, he, (PV.of_owns (l := []) ho).any, hw⟩
  · exact (clonep_some _ _ _ _ _ hl hc).mono fun e w' ⟨v', he, ho, hw⟩ => ⟨_, he, (PV.of_owns ho).any, hw⟩

theorem list_all {bad : Nat → Prop} (sb : Nat) (ts : List Tm) (u n : ByteArray) (loc : Bool) (w : World) (hl : ts.length ≤ 8192) (hm : ∀ t ∈ ts, t.mem.length ≤ 4096) (ha : ∀ t ∈ ts, t.adm.length ≤ 4096) (h : StateAt bad w sb ts) :
    Calls Yba.prog 7 #[.pointer (some ⟨sb, 0, none⟩), .agg #[.string u, .string n, .bool loc], .slice none 0 0] w fun e w' =>
      ∃ (g m : Nat) (l : List ByteArray), e = .returned (.tuple #[.iface 44 (.slice (some ⟨g, 0, none⟩) m m), .nilIface]) ∧ l.Perm ((visT (unresB ts u n loc) n ts).map Tm.nm) ∧ SortedB l ∧ w.heap.size ≤ g ∧ m = l.length ∧ RowS w' g 0 l ∧ Below w.heap.size w w' :=
  list_any sb ts u n loc w hl h (sorted_any sb ts u n loc _ hl hm ha (h.below (below_alloc _ _)))
end Go.Proofs.Ybulkdvki
