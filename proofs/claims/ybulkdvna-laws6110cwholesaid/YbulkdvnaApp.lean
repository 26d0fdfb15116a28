import Derived.Test.YbulkdvnaAdd2
import Derived.Deep.AppendLies
import Derived.Deep.Upon
namespace Go.Proofs.Ybulkdvna
open Go Go.RowKit

/-- append, by the equation of the call -/
theorem wpList_app {P : Program} {w : World} {ops : Array Oper} {rest : List Oper} {o : Oper} {a : Act} {Q : Exit → Act → World → Prop} (hgd : o.guard = none) (s x : Operand) (t ty : TypeId)
    (ho : o.op = .call { callee := .builtin .append, args := #[s, x], argTypes := #[t, t] }) (hty : o.type = ty) {v vx v' : Value} {w' : World} (hs : a.eval s = v) (hx : a.eval x = vx)
    (hr : (Builtin.append_ #[t, t] ty #[v, vx]).run P w = .ok v' w') (h : wpList P ops Q rest (a.put o.dst v') w') : wpList P ops Q (o :: rest) a w :=
  wpList_plain hgd fun _ hK => by
    unfold Oper.wp execOp
    simp only [ho, hty, resolve, invoke, builtin, Sem.run_bind, Sem.run_pure, Result.andThen_ok, List.map_toArray, List.map_cons, List.map_nil, hs, hx, hr]
    exact hK _ _ h

def vals (xs : List Int) : List Value := xs.map (Value.int .u8)
theorem vals_get (xs : List Int) (j : Nat) (h : j < xs.length) : (vals xs)[j]? = some (.int .u8 (xs.getD j 0)) := by
  unfold vals
  rw [List.getElem?_map, List.getD_eq_getElem?_getD, List.getElem?_eq_getElem h]
  rfl
theorem vals_len (xs : List Int) : (vals xs).length = xs.length := List.length_map ..
theorem vals_one (xs : List Int) : ∀ u ∈ vals xs, u.oneCell' = true := fun u hu => by
  obtain ⟨_, _, rfl⟩ := List.mem_map.1 hu
  rfl
theorem i5 : (Yba.prog.info? 5).map (fun i => (i.zero, i.size, i.bytes)) = some (some (.int .u8 0), 1, 1) := by kernel_rfl
theorem i5' : ∃ i, Yba.prog.info? 5 = some i ∧ i.zero = some (.int .u8 0) ∧ i.size = 1 ∧ i.bytes = 1 := by
  obtain ⟨i, hi, hh⟩ := Option.map_eq_some_iff.1 i5
  simp only [Prod.mk.injEq] at hh
  exact ⟨i, hi, hh⟩
theorem i9 : (Yba.prog.info? 9).map (fun i => (i.zero, i.size, i.bytes)) = some (some (.string ⟨#[]⟩), 1, 16) := by kernel_rfl
theorem i9' : ∃ i, Yba.prog.info? 9 = some i ∧ i.zero = some (.string ⟨#[]⟩) ∧ i.size = 1 ∧ i.bytes = 16 := by
  obtain ⟨i, hi, hh⟩ := Option.map_eq_some_iff.1 i9
  simp only [Prod.mk.injEq] at hh
  exact ⟨i, hi, hh⟩

/-- the bytes of s, wherever they lie -/
def BStr (w : World) (v : Value) (s : ByteArray) : Prop := ∃ p c, v = .slice p s.size c ∧ Lib.BytesIn w p s.size (nums s)
theorem BStr.below {w w' : World} {v : Value} {s : ByteArray} (h : BStr w v s) (hb : Below w.heap.size w w') : BStr w' v s := by
  obtain ⟨p, c, rfl, h⟩ := h
  refine ⟨p, c, rfl, fun hn => ?_⟩
  obtain ⟨g, o, rfl, hc⟩ := h.at hn
  exact ⟨g, o, rfl, fun i hi => by rw [hb.cell (World.block_lt_of_cell? _ _ (hc i hi))]; exact hc i hi⟩
theorem BStr.conv {w : World} {p : Option Addr} {n c : Nat} {s : ByteArray} (h : BStr w (.slice p n c) s) : (convert 23 9 (.slice p n c)).run Yba.prog w = .ok (.string s) w := by
  obtain ⟨p', c', e, h⟩ := h
  cases e
  have := h.convert (P := Yba.prog) (nums_len s) c 23 5 9 Yba.underlying23 Yba.underlying5 Yba.underlying9
  rwa [str_nums] at this

/-- append([]byte(nil), p...) -/
theorem app_nil (w : World) (b : Nat) (p : Option Addr) (n c : Nat) (s : ByteArray) (h : BStr w (.slice p n c) s) (hs : s.size ≤ 140737488355328) (hb : b < w.heap.size) :
    ∃ q c' w1, (Builtin.append_ #[23, 23] 23 #[.slice none 0 0, .slice p n c]).run Yba.prog w = .ok (.slice q s.size c') w1 ∧ RowOf w1 b (.slice q s.size c') s ∧ Below w.heap.size w w1 ∧ (∀ a, q = some a → w.heap.size ≤ a.block ∧ a.block < w1.heap.size) := by
  obtain ⟨p', c'', e, h⟩ := h
  cases e
  obtain ⟨i, hi, hz, hsz, hby⟩ := i5'
  rcases Nat.eq_zero_or_pos s.size with h0 | h0
  · refine ⟨none, 0, w, ?_, ⟨none, 0, rfl, fun hh => by omega⟩, Below.refl _ _, fun _ e => by cases e⟩
    rw [h0]
    have hsrc : Src Yba.prog i.size 23 (.slice p 0 c) 0 [] w := by
      cases p with
      | none => exact Src.ofNil w Yba.underlying23 c
      | some a => exact Src.ofSlice w Yba.underlying23 a 0 c [] (by simp) (fun j u hj => by simp at hj) (fun u hu => by cases hu)
    exact run_append_nothing w 23 23 23 5 i Yba.underlying23 hi none 0 0 (Nat.le_refl _) (.slice p 0 c) hsrc
  · obtain ⟨g, o, rfl, hc⟩ := h.at h0
    have hln := nums_len s
    have hnew : ∀ j u, (vals (nums s))[j]? = some u → w.cell? ((⟨g, o, none⟩ : Addr).add j) = some u := fun j u hj => by
      have hjl : j < (nums s).length := by
        have := (List.getElem?_eq_some_iff.1 hj).1
        rwa [vals_len] at this
      rw [vals_get _ _ hjl] at hj
      cases hj
      rw [Go.WideShapes.add_plain]
      exact hc j (by omega)
    obtain ⟨g', cap', w1, hr, ho, hg, hat, hlt'⟩ := run_append_lies (P := Yba.prog) w 23 23 w.heap.size 5 i (.int .u8 0) 1 1 Yba.underlying23 hi hz hsz hby rfl (by decide) (.slice none 0 0) 0 [] (World.ownsRow_nil _ _ _ _) ⟨g, o, none⟩ s.size c (vals (nums s)) (by rw [vals_len, Nat.mul_one, hln]) hnew (vals_one _) h0 (by unfold maxLen; omega) (by omega) (Nat.le_refl _) w.heap.size rfl
    have hgg : g' = w.heap.size := by
      rcases hat with hat | hat
      · cases hat
      · exact hat
    rw [Nat.zero_add, List.nil_append] at ho
    rw [Nat.zero_add] at hr
    refine ⟨some ⟨g', 0, none⟩, cap', w1, hr, ⟨_, _, rfl, fun _ => ⟨g', 0, rfl, by omega, fun j hj => ?_⟩⟩, (Below.refl _ w).grown hg (Nat.le_refl _) (fun k hk => by cases hk), fun a e => by cases e; exact ⟨by show w.heap.size ≤ g'; omega, hlt'⟩⟩
    rw [Nat.zero_add, ho.cellAt j (by omega)]
    exact vals_get _ _ (by omega)

/-- distinct = append(distinct, string(p)): at a world whose last block is the one string -/
theorem app_str (w0 : World) (base : Nat) (dv : Value) (D : List ByteArray) (s : ByteArray) (hown : w0.ownsRow base 9 1 dv D.length (D.map Value.string)) (hb : base ≤ w0.heap.size) (hD : D.length ≤ 100000) :
    ∃ g cap w1, (Builtin.append_ #[28, 28] 28 #[dv, .slice (some ⟨w0.heap.size, 0, none⟩) 1 1]).run Yba.prog (w0.alloc (.cells #[.string s] 9)) = .ok (.slice (some ⟨g, 0, none⟩) (D.length + 1) cap) w1 ∧
      w1.ownsRow base 9 1 (.slice (some ⟨g, 0, none⟩) (D.length + 1) cap) (D ++ [s]).length ((D ++ [s]).map Value.string) ∧ (w0.alloc (.cells #[.string s] 9)).grownBy w1 dv.ownBlock ∧ (dv.ownBlock = some g ∨ g = w0.heap.size + 1) := by
  obtain ⟨i, hi, hz, hsz, hby⟩ := i9'
  obtain ⟨g, cap, w1, hr, ho, hg, hat, -⟩ := run_append_lies (P := Yba.prog) (w0.alloc (.cells #[.string s] 9)) 28 28 base 9 i (.string ⟨#[]⟩) 1 16 Yba.underlying28 hi hz hsz hby rfl (by decide) dv D.length (D.map Value.string) (hown.alloc _) ⟨w0.heap.size, 0, none⟩ 1 1 [.string s] rfl
    (fun j u hj => by
      match j with
      | 0 =>
        simp at hj
        subst hj
        rw [Go.WideShapes.add_plain]
        exact World.cell?_alloc_new w0 _ _ _
      | j + 1 => simp at hj) (by intro u hu; simp at hu; subst hu; rfl) (by decide) (by unfold maxLen; omega) (by omega) (by simp; omega) (w0.heap.size + 1) (by simp)
  refine ⟨g, cap, w1, hr, ?_, hg, hat⟩
  rw [List.map_append, List.length_append, List.length_singleton]
  exact ho

/-- the law's state: the names so far in the struct and in the slice of strings -/
structure LW (w wr : World) (D : List ByteArray) (few : List Value) (mv dv : Value) : Prop where
  mn : MN wr w.heap.size w.heap.size D few mv
  row : wr.ownsRow (w.heap.size + 1) 9 1 dv D.length (D.map Value.string)
  bel : Below w.heap.size w wr
  lt : w.heap.size < wr.heap.size
  sep : ∀ (j : Nat) a n c, few[j]? = some (.slice (some a) n c) → dv.ownBlock ≠ some a.block ∧ a.block < wr.heap.size

theorem MN.below {w w' : World} {base b : Nat} {D : List ByteArray} {few : List Value} {mv : Value} (h : MN w base b D few mv) (hb : Below w.heap.size w w') : MN w' base b D few mv :=
  h.seen (hb.block b (World.block_lt_of_cell? _ _ h.cellM)) (Still.below (b := b) hb).cell (fun mb es clk e => hb.block mb (by
    rcases Nat.lt_or_ge mb w.heap.size with h' | h'
    · exact h'
    · rw [Array.getElem?_eq_none h'] at e; cases e))
theorem ownsRow_still {w w' : World} {b base n : Nat} {dv : Value} {xs : List Value} (h : w.ownsRow base 9 1 dv n xs) (hs : Still b w w') (hb : b < base) : w'.ownsRow base 9 1 dv n xs := by
  refine ⟨h.1, h.2.imp id fun ⟨g, cap, cur, h1, h2, h3, r⟩ => ⟨g, cap, cur, h1, h2, ?_, r⟩⟩
  rw [hs g cur 9 (0, 0) (by omega) h3]
  exact h3
theorem LW.below {w wr w1 : World} {D : List ByteArray} {few : List Value} {mv dv : Value} (h : LW w wr D few mv dv) (hb : Below wr.heap.size wr w1) : LW w w1 D few mv dv where
  mn := h.mn.below hb
  row := ownsRow_still h.row (Still.below (b := w.heap.size) hb) (Nat.lt_succ_self _)
  bel := h.bel.trans (hb.mono (Nat.le_of_lt h.lt))
  lt := Nat.lt_of_lt_of_le h.lt hb.size
  sep := fun j a n c e => ⟨(h.sep j a n c e).1, Nat.lt_of_lt_of_le (h.sep j a n c e).2 hb.size⟩
theorem LW.shape {w wr : World} {D : List ByteArray} {few : List Value} {mv dv : Value} (h : LW w wr D few mv dv) : ∃ p c, dv = .slice p D.length c ∧ StrsIn wr p D := by
  have hrow := h.row
  rcases h.row.2 with ⟨h1, h2⟩ | ⟨g, cap, cur, h1, _⟩
  · exact ⟨none, 0, by rw [h1, h2], fun hh => by omega⟩
  · refine ⟨some ⟨g, 0, none⟩, cap, h1, fun _ => ⟨g, 0, rfl, fun j hj => ?_⟩⟩
    rw [h1] at hrow
    rw [Nat.zero_add, hrow.cellAt j (by omega), List.getElem?_map, List.getElem?_eq_getElem hj]
    rfl
/-- behind add -/
theorem LW.added {w w1 w2 : World} {D : List ByteArray} {few : List Value} {mv dv v : Value} {s : ByteArray} (h : LW w w1 D few mv dv) (hp : AddPost w1 w.heap.size w.heap.size D few v s w2) (hv : ∀ a n c, v = .slice (some a) n c → dv.ownBlock ≠ some a.block ∧ a.block < w1.heap.size) :
    ∃ few' mv', MN w2 w.heap.size w.heap.size (addD D s) few' mv' ∧ w2.ownsRow (w.heap.size + 1) 9 1 dv D.length (D.map Value.string) ∧ Below w.heap.size w w2 ∧ w.heap.size < w2.heap.size ∧
      (∀ (j : Nat) a n c, few'[j]? = some (.slice (some a) n c) → dv.ownBlock ≠ some a.block ∧ a.block < w2.heap.size) ∧ (hasB D s = false → D.length < 16 → few'[D.length]? = some v) := by
  obtain ⟨few', mv', h1, h2, h3, h4, h5⟩ := hp
  refine ⟨few', mv', h1, ownsRow_still h.row h3 (Nat.lt_succ_self _), h.bel.trans h2, Nat.lt_of_lt_of_le h.lt h2.size, fun j a n c e => ?_, h4⟩
  rcases h5 j _ e with h6 | h6
  · exact ⟨(h.sep j a n c h6).1, Nat.lt_of_lt_of_le (h.sep j a n c h6).2 h2.size⟩
  · exact ⟨(hv a n c h6.symm).1, Nat.lt_of_lt_of_le (hv a n c h6.symm).2 h2.size⟩

theorem RowOf.keepAt {w w' : World} {b : Nat} {v : Value} {s : ByteArray} (h : RowOf w b v s) (hk : ∀ a n c, v = .slice (some a) n c → (w.cell? a).isSome → w'.heap[a.block]? = w.heap[a.block]?) : RowOf w' b v s := by
  obtain ⟨p, c, rfl, h⟩ := h
  refine ⟨p, c, rfl, fun hn => ?_⟩
  obtain ⟨g, o, rfl, hg, hc⟩ := h hn
  have h0 := hc 0 hn
  rw [Nat.add_zero] at h0
  have e := hk ⟨g, o, none⟩ _ _ rfl (by rw [h0]; rfl)
  exact ⟨g, o, rfl, hg, fun i hi => by rw [World.cell?_of_block (a := ⟨g, o + i, none⟩) e]; exact hc i hi⟩

/-- behind distinct = append(distinct, string(p)) -/
theorem LW.pushed {w w2 : World} {D : List ByteArray} {few : List Value} {mv dv : Value} {s : ByteArray} (hmn : MN w2 w.heap.size w.heap.size (D ++ [s]) few mv) (hrow : w2.ownsRow (w.heap.size + 1) 9 1 dv D.length (D.map Value.string))
    (hbel : Below w.heap.size w w2) (hlt : w.heap.size < w2.heap.size) (hsep : ∀ (j : Nat) a n c, few[j]? = some (.slice (some a) n c) → dv.ownBlock ≠ some a.block ∧ a.block < w2.heap.size) (hD : D.length ≤ 100000) :
    ∃ g cap w3, (Builtin.append_ #[28, 28] 28 #[dv, .slice (some ⟨w2.heap.size, 0, none⟩) 1 1]).run Yba.prog (w2.alloc (.cells #[.string s] 9)) = .ok (.slice (some ⟨g, 0, none⟩) (D.length + 1) cap) w3 ∧
      LW w w3 (D ++ [s]) few mv (.slice (some ⟨g, 0, none⟩) (D.length + 1) cap) ∧
      ∀ v' s', RowOf w2 w.heap.size v' s' → (∀ a n c, v' = .slice (some a) n c → dv.ownBlock ≠ some a.block) → RowOf w3 w.heap.size v' s' := by
  obtain ⟨g, cap, w3, hr, ho, hg, hat⟩ := app_str w2 (w.heap.size + 1) dv D s hrow (by omega) hD
  have hown := (hrow.alloc (.cells #[.string s] 9)).lt
  have hsz : (w2.alloc (.cells #[.string s] 9)).heap.size = w2.heap.size + 1 := by simp
  -- a block that is not dv's own is as it was
  have keep : ∀ k, k < w2.heap.size → dv.ownBlock ≠ some k → w3.heap[k]? = w2.heap[k]? := fun k hk hne => by
    rw [hg.block k (by rw [hsz]; omega) (fun e => hne e.symm)]
    exact Below.heap_alloc w2 _ k hk
  have hB : dv.ownBlock ≠ some w.heap.size := fun e => by
    have := (hown _ e).1
    omega
  refine ⟨g, cap, w3, hr, ⟨⟨?_, hmn.len, fun j hj h16 => ?_, hmn.nils, hmn.small, fun h16 => ?_⟩, ?_, ?_, ?_, ?_⟩, fun v' s' hr' hs' => hr'.keepAt fun a n c ev hi => by
    obtain ⟨u, hu⟩ := Option.isSome_iff_exists.1 hi
    exact keep _ (World.block_lt_of_cell? _ _ hu) (hs' a n c ev)⟩
  · obtain ⟨t, e⟩ := hmn.blk
    exact ⟨t, by rw [keep _ hlt hB]; exact e⟩
  · obtain ⟨v, e, r⟩ := hmn.rows j hj h16
    refine ⟨v, e, r.keepAt fun a n c ev hi => ?_⟩
    subst ev
    obtain ⟨u, hu⟩ := Option.isSome_iff_exists.1 hi
    exact keep _ (World.block_lt_of_cell? _ _ hu) (hsep j a n c e).1
  · obtain ⟨mb, e, h1, h2, h3⟩ := hmn.big h16
    refine ⟨mb, e, h1, h2, ownsMap_heap h3 (keep mb h3.lt fun hh => ?_)⟩
    obtain ⟨es, clk, hm, _⟩ := h3
    rcases hrow.2 with ⟨hn, _⟩ | ⟨g', cap', cur, hn, _, hc, _⟩
    · rw [hn] at hh; cases hh
    · rw [hn] at hh
      cases hh
      rw [hm] at hc
      cases hc
  · rw [List.length_append, List.length_singleton] at ho ⊢
    exact ho
  · exact (hbel.alloc (by omega) _).grown hg (by rw [hsz]; omega) (fun k hk => by have := (hown k hk).1; omega)
  · have := hg.size
    rw [hsz] at this
    omega
  · intro j a n c e
    have h1 := hsep j a n c e
    refine ⟨fun hh => ?_, ?_⟩
    · have e1 : g = a.block := by simpa [Value.ownBlock] using hh
      rcases hat with hat | hat
      · rw [e1] at hat
        exact h1.1 hat
      · omega
    · have := hg.size
      rw [hsz] at this
      omega
end Go.Proofs.Ybulkdvna
