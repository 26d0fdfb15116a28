import Derived.Test.YbulkdvnaDoorPcs
import Derived.Maps.OwnSet
import Derived.StringKeys
namespace Go.Proofs.YbulkdvnaDoor
open Go Go.RowKit

/-- the three keys -/
def keyB : Nat → ByteArray
  | 0 => ⟨#[99, 97]⟩
  | 1 => ⟨#[101, 110, 99, 111, 100, 105, 110, 103]⟩
  | _ => ⟨#[102, 109, 115, 112, 99]⟩
def keyL (i : Nat) : Lit := .string (keyB i).data.toList
/-- a slice as a token -/
def tokR : Value → Option (DataW Unit × List MemPlace)
  | .slice (some ⟨g, 0, none⟩) n c => some (.agg [.lit (.int .u64 g), .lit (.int .u64 n), .lit (.int .u64 c)], [])
  | .slice none 0 0 => some (.nil, [])
  | _ => none
theorem tokR_inj {v v' : Value} {z : DataW Unit} {p p' : List MemPlace} (h : tokR v = some (z, p)) (h' : tokR v' = some (z, p')) : v = v' := by
  unfold tokR at h h'
  split at h
  · split at h'
    · simp only [Option.some.injEq, Prod.mk.injEq] at h h'
      have e := h.1.trans h'.1.symm
      simp only [DataW.agg.injEq, List.cons.injEq, DataW.lit.injEq, Lit.int.injEq, true_and, and_true] at e
      obtain ⟨e1, e2, e3⟩ := e
      have e1 : _ := Int.ofNat.inj e1
      have e2 : _ := Int.ofNat.inj e2
      have e3 : _ := Int.ofNat.inj e3
      subst e1 e2 e3
      rfl
    · simp only [Option.some.injEq, Prod.mk.injEq] at h h'
      have e := h.1.trans h'.1.symm
      cases e
    · cases h'
  · split at h'
    · simp only [Option.some.injEq, Prod.mk.injEq] at h h'
      have e := h.1.trans h'.1.symm
      cases e
    · rfl
    · cases h'
  · cases h
theorem keyed9 : Maps.Keyed Ybad.prog 9 := Maps.string_keyed Ybad.underlying9
theorem zero22 (w : World) : (zeroValue 22).run Ybad.prog w = .ok (.slice none 0 0) w := Ybad.zeroValue22 w
theorem keyOf_at (i : Nat) : keyOf Ybad.prog 9 (.string (keyB i)) = some (keyL i) := Go.WideMaps.keyOf_string_mk (s := keyB i) Ybad.underlying9 (by unfold keyB maxLen; split <;> decide)
theorem key_lit (i : Nat) : WideAt.IsKeyLit (keyL i) := trivial
theorem key_ne {i j : Nat} (hi : i < 3) (hj : j < 3) (h : i ≠ j) : keyL i ≠ keyL j := by
  have h1 : i = 0 ∨ i = 1 ∨ i = 2 := by omega
  have h2 : j = 0 ∨ j = 1 ∨ j = 2 := by omega
  rcases h1 with rfl | rfl | rfl <;> rcases h2 with rfl | rfl | rfl <;> first | exact absurd rfl h | (intro e; unfold keyL at e; injection e with e; revert e; decide)
theorem tok_own {w : World} {base : Nat} {v : Value} {ps : List (List UInt8)} (h : OwnS w base v ps) : ∃ z, tokR v = some (z, []) := by
  rcases h.2 with ⟨rfl, _⟩ | ⟨g, cap, cur, rfl, _⟩
  · exact ⟨_, rfl⟩
  · exact ⟨_, rfl⟩

/-- the query: block mb is the map; V i is the slice at key i, holding Q i -/
structure QM (w : World) (base mb n : Nat) (D : DataW Unit) (V : Nat → Value) (Q : Nat → List (List UInt8)) : Prop where
  own : w.ownsMap Ybad.prog 9 tokR mb n D
  at_ : ∀ i, i < 3 → tokR (V i) = some (D.atKey (keyL i) .nil, [])
  has_ : ∀ i, i < 3 → Maps.has D (keyL i) = decide (Q i ≠ [])
  only : ∀ kl, WideAt.IsKeyLit kl → Maps.has D kl = true → ∃ i, i < 3 ∧ kl = keyL i
  rows : ∀ i, i < 3 → OwnS w base (V i) (Q i)
  apart : ∀ i j g, i < 3 → j < 3 → (V i).ownBlock = some g → (V j).ownBlock = some g → i = j
  hb : base ≤ mb

theorem QM.start (w : World) : QM (w.alloc (.map #[] 0)) w.heap.size w.heap.size 0 (.map []) (fun _ => .slice none 0 0) (fun _ => []) where
  own := World.ownsMap_made w Ybad.prog 9 tokR
  at_ := fun i _ => rfl
  has_ := fun i _ => rfl
  only := fun kl _ h => by cases h
  rows := fun i _ => OwnS.nil _ _
  apart := fun i j g _ _ h _ => by cases h
  hb := Nat.le_refl _
theorem QM.look {w : World} {base mb n : Nat} {D : DataW Unit} {V : Nat → Value} {Q : Nat → List (List UInt8)} (h : QM w base mb n D V Q) (i : Nat) (hi : i < 3) : (Instr.lookup 34 (.map (some mb)) (.string (keyB i)) false).run Ybad.prog w = .ok (V i) w := by
  obtain ⟨v, ps, hr, hv⟩ := h.own.lookup keyed9 Ybad.underlying34 (zero22 w) (zd := .nil) (zp := []) rfl (keyOf_at i)
  rw [tokR_inj (h.at_ i hi) hv]
  exact hr
theorem ownsMap_block {w w' : World} {mb n : Nat} {D : DataW Unit} (h : w.ownsMap Ybad.prog 9 tokR mb n D) (e : w'.heap[mb]? = w.heap[mb]?) : w'.ownsMap Ybad.prog 9 tokR mb n D := by
  obtain ⟨es, clock, hb, r⟩ := h
  exact ⟨es, clock, by rw [e]; exact hb, r⟩
theorem OwnS.kept {W W' : World} {base : Nat} {v : Value} {ps : List (List UInt8)} (h : OwnS W base v ps) (hb : ∀ g, v.ownBlock = some g → W'.heap[g]? = W.heap[g]?) : OwnS W' base v ps := by
  refine ⟨h.1, ?_⟩
  rcases h.2 with h1 | ⟨g', cap', cur, h1, h2, h3, h4⟩
  · exact .inl h1
  · refine .inr ⟨g', cap', cur, h1, h2, ?_, h4⟩
    rw [hb g' (by rw [h1]; rfl)]
    exact h3
theorem QM.below {w w' : World} {base mb n : Nat} {D : DataW Unit} {V : Nat → Value} {Q : Nat → List (List UInt8)} (h : QM w base mb n D V Q) (hb : Below w.heap.size w w') : QM w' base mb n D V Q where
  own := ownsMap_block h.own (hb.block mb h.own.lt)
  at_ := h.at_
  has_ := h.has_
  only := h.only
  rows := fun i hi => (h.rows i hi).below hb
  apart := h.apart
  hb := h.hb
theorem not_map {w : World} {base mb n : Nat} {D : DataW Unit} {v : Value} {ps : List (List UInt8)} (h : w.ownsMap Ybad.prog 9 tokR mb n D) (ho : OwnS w base v ps) : v.ownBlock ≠ some mb := fun e => by
  obtain ⟨es, clock, hb, _⟩ := h
  rcases ho.2 with ⟨rfl, _⟩ | ⟨g, cap, cur, rfl, _, h3, _⟩
  · cases e
  · have : g = mb := by simpa [Value.ownBlock] using e
    subst this
    rw [hb] at h3
    cases h3
def upd {α : Type} (f : Nat → α) (i : Nat) (x : α) : Nat → α := fun j => if j = i then x else f j

/-- q[k] = append(q[k], x) -/
theorem QM.add {w : World} {base mb n : Nat} {D : DataW Unit} {V : Nat → Value} {Q : Nat → List (List UInt8)} (h : QM w base mb n D V Q) (i : Nat) (hi : i < 3) (x : ByteArray) (hn : n ≤ 1000000) (hq : (Q i).length ≤ 1000000) :
    ∃ v' W2 W3, (Builtin.append_ #[22, 22] 22 #[V i, .slice (some ⟨w.heap.size, 0, none⟩) 1 1]).run Ybad.prog (w.alloc (.cells #[.string x] 9)) = .ok v' W2 ∧
      (Instr.mapUpdate 34 (.map (some mb)) (.string (keyB i)) v').run Ybad.prog W2 = .ok () W3 ∧ (∃ D', QM W3 base mb (n + 1) D' (upd V i v') (upd Q i (Q i ++ [x.data.toList]))) ∧ Below base w W3 ∧ (Instr.lookup 34 (.map (some mb)) (.string (keyB i)) false).run Ybad.prog W2 = .ok (V i) W2 ∧ Below base w W2 := by
  obtain ⟨i9v, hi9, hz, hs, hby⟩ := i9'
  have hba : Below w.heap.size w (w.alloc (.cells #[.string x] 9)) := (Below.refl _ w).alloc (Nat.le_refl _) _
  have hbs : base ≤ w.heap.size := Nat.le_trans h.hb (Nat.le_of_lt h.own.lt)
  have ha := h.below hba
  have hri := ha.rows i hi
  obtain ⟨g', cap', W2, hr, ho, hg, hloc, hgl⟩ := run_append_lies (P := Ybad.prog) (w.alloc (.cells #[.string x] 9)) 22 22 base 9 i9v (.string ⟨#[]⟩) 1 16 Ybad.underlying22 hi9 hz hs hby rfl (by decide) (V i) (Q i).length ((Q i).map strV) hri ⟨w.heap.size, 0, none⟩ 1 1 [.string x] rfl (fun j u hj => by
      have hj0 : j = 0 := by
        have := (List.getElem?_eq_some_iff.1 hj).1
        simp at this
        exact this
      subst hj0
      have e : u = .string x := by simpa using hj.symm
      rw [e]
      exact (cell_of_row _ _ _ _ 9 (0, 0) (heap_alloc_new w _)).trans rfl) (fun u hu => by
      rw [List.mem_singleton.1 hu]
      rfl) (by decide) (by unfold maxLen; omega) (by omega) (Nat.le_trans hbs hba.size) _ rfl
  have hO2 : OwnS W2 base (.slice (some ⟨g', 0, none⟩) ((Q i).length + 1) cap') (Q i ++ [x.data.toList]) := by
    unfold OwnS
    rw [List.length_append, List.length_singleton, List.map_append]
    exact ho
  have hm2 : W2.ownsMap Ybad.prog 9 tokR mb n D := ownsMap_block ha.own (hg.block mb ha.own.lt (fun e => not_map ha.own hri e.symm))
  obtain ⟨zt, hzt⟩ := tok_own hO2
  obtain ⟨W3, hst, hm3, hturn⟩ := hm2.store keyed9 Ybad.underlying34 (by unfold maxLen; omega) (keyOf_at i) hzt
  have hblk : ∀ k, k ≠ mb → W3.heap[k]? = W2.heap[k]? := fun k hk => by
    obtain ⟨es, clk, es', clk', hb, rfl⟩ := hturn
    exact Go.ChangeMaps.heap_setBlock_other hb _ hk
  have hsz3 : W2.heap.size ≤ W3.heap.size := hturn.grown.size
  have hnew : ∀ j g, j < 3 → j ≠ i → (V j).ownBlock = some g → g ≠ g' := fun j g hj hji hjg e => by
    subst e
    rcases hloc with h1 | h1
    · exact hji (h.apart j i g hj hi hjg h1)
    · have := (World.ownsRow.lt (h.rows j hj) g hjg).2
      rw [h1] at this
      simp at this
      omega
  have hlk2 : (Instr.lookup 34 (.map (some mb)) (.string (keyB i)) false).run Ybad.prog W2 = .ok (V i) W2 := by
    obtain ⟨v, qs, hr', hv⟩ := hm2.lookup keyed9 Ybad.underlying34 (zero22 W2) (zd := .nil) (zp := []) rfl (keyOf_at i)
    rw [tokR_inj (h.at_ i hi) hv]
    exact hr'
  refine ⟨_, W2, W3, hr, hst, ⟨D.put (keyL i) zt, ⟨hm3, fun j hj => ?_, fun j hj => ?_, fun kl hkl hh => ?_, fun j hj => ?_, fun j k g hj hk hjg hkg => ?_, h.hb⟩⟩, ?_⟩
  · by_cases hji : j = i
    · subst hji
      simp only [upd, if_true]
      rw [Maps.atKey_put_same hm2.isMap (key_lit j)]
      exact hzt
    · simp only [upd, if_neg hji]
      rw [Maps.atKey_put_other (key_ne hj hi hji)]
      exact h.at_ j hj
  · by_cases hji : j = i
    · subst hji
      simp only [upd, if_true]
      rw [Maps.has_put_same hm2.isMap (key_lit j)]
      simp
    · simp only [upd, if_neg hji]
      rw [Maps.has_put_other (key_ne hj hi hji)]
      exact h.has_ j hj
  · by_cases hki : kl = keyL i
    · exact ⟨i, hi, hki⟩
    · rw [Maps.has_put_other hki] at hh
      exact h.only kl hkl hh
  · by_cases hji : j = i
    · subst hji
      simp only [upd, if_true]
      exact hO2.kept fun g hgg => hblk g (fun e => not_map hm2 hO2 (by rw [hgg, e]))
    · simp only [upd, if_neg hji]
      have h1 : OwnS W2 base (V j) (Q j) := (ha.rows j hj).kept fun g hgg => hg.block g (World.ownsRow.lt (ha.rows j hj) g hgg).2 (fun e => hji (h.apart j i g hj hi hgg e.symm))
      exact h1.kept fun g hgg => hblk g (fun e => not_map hm2 h1 (by rw [hgg, e]))
  · by_cases hji : j = i
    · by_cases hki : k = i
      · rw [hji, hki]
      · exfalso
        simp only [upd, if_pos hji] at hjg
        simp only [upd, if_neg hki] at hkg
        have : g = g' := by simpa [Value.ownBlock] using hjg.symm
        exact hnew k g hk hki hkg this
    · by_cases hki : k = i
      · exfalso
        simp only [upd, if_pos hki] at hkg
        simp only [upd, if_neg hji] at hjg
        have : g = g' := by simpa [Value.ownBlock] using hkg.symm
        exact hnew j g hj hji hjg this
      · simp only [upd, if_neg hji] at hjg
        simp only [upd, if_neg hki] at hkg
        exact h.apart j k g hj hk hjg hkg
  · have b1 : Below base w W2 := (hba.mono hbs).trans ((Below.refl base _).grown hg (Nat.le_trans hbs hba.size) (fun k hk => (World.ownsRow.lt hri k hk).1))
    exact ⟨b1.grown hturn.grown (Nat.le_trans hbs b1.size) (fun k hk => by cases hk; exact h.hb), hlk2, b1⟩
end Go.Proofs.YbulkdvnaDoor
