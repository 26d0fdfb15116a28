import Derived.Test.YbulkdvoqFmtState
import Derived.Deep.AppendLies
import Derived.Deep.Upon
import Derived.Deep.OwnRows
import Derived.OwnWalk
namespace Go.Proofs.YbulkdvoqFmt
open Go Go.RowKit

/-- append, by the equation of the call -/
theorem wpList_app {P : Program} {w : World} {ops : Array Oper} {rest : List Oper} {o : Oper} {a : Act} {Q : Exit → Act → World → Prop} (hgd : o.guard = none) (s x : Operand) (t ty : TypeId)
    (ho : o.op = .call { callee := .builtin .append, args := #[s, x], argTypes := #[t, t] }) (hty : o.type = ty) {v vx v' : Value} {w' : World} (hs : a.eval s = v) (hx : a.eval x = vx)
    (hr : (Builtin.append_ #[t, t] ty #[v, vx]).run P w = .ok v' w') (h : wpList P ops Q rest (a.put o.dst v') w') : wpList P ops Q (o :: rest) a w :=
  wpList_plain hgd fun _ hK => by
    unfold Oper.wp execOp
    simp only [ho, hty, resolve, invoke, builtin, Sem.run_bind, Sem.run_pure, Result.andThen_ok, List.map_toArray, List.map_cons, List.map_nil, hs, hx, hr]
    exact hK _ _ h

/-- the bytes of a slice -/
def In (w : World) (p : Option Addr) (n : Nat) (xs : List Int) : Prop := 0 < n → ∃ b o, p = some ⟨b, o, none⟩ ∧ ∀ i, i < n → w.cell? ⟨b, o + i, none⟩ = some (.int .u8 (xs.getD i 0))
theorem In.below {w w' : World} {p : Option Addr} {n : Nat} {xs : List Int} (h : In w p n xs) (hb : Below w.heap.size w w') : In w' p n xs := fun hn => by
  obtain ⟨b, o, rfl, hc⟩ := h hn
  exact ⟨b, o, rfl, fun i hi => by rw [hb.cell (World.block_lt_of_cell? _ _ (hc i hi))]; exact hc i hi⟩

def vals (xs : List Int) : List Value := xs.map (Value.int .u8)
theorem vals_get (xs : List Int) (j : Nat) (h : j < xs.length) : (vals xs)[j]? = some (.int .u8 (xs.getD j 0)) := by
  unfold vals
  rw [List.getElem?_map, List.getD_eq_getElem?_getD, List.getElem?_eq_getElem h]
  rfl
theorem vals_len (xs : List Int) : (vals xs).length = xs.length := List.length_map ..
theorem vals_one (xs : List Int) : ∀ u ∈ vals xs, u.oneCell' = true := fun u hu => by
  obtain ⟨_, _, rfl⟩ := List.mem_map.1 hu
  rfl
theorem vals_app (xs ys : List Int) : vals (xs ++ ys) = vals xs ++ vals ys := List.map_append ..

theorem i5 : (Ybaf.prog.info? 5).map (fun i => (i.zero, i.size, i.bytes)) = some (some (.int .u8 0), 1, 1) := by kernel_rfl
theorem i5' : ∃ i, Ybaf.prog.info? 5 = some i ∧ i.zero = some (.int .u8 0) ∧ i.size = 1 ∧ i.bytes = 1 := by
  obtain ⟨i, hi, hh⟩ := Option.map_eq_some_iff.1 i5
  simp only [Prod.mk.injEq] at hh
  exact ⟨i, hi, hh⟩

/-- the stream: a row of the call's own -/
def Own (W : World) (base : Nat) (g l cap : Nat) (pre : List Int) : Prop := W.ownsRow base 5 1 (.slice (some ⟨g, 0, none⟩) l cap) l (vals pre)
theorem Own.len {W : World} {base g l cap : Nat} {pre : List Int} (h : Own W base g l cap pre) : pre.length = l := by
  have := h.1
  rwa [vals_len, Nat.mul_one] at this
theorem Own.cap {W : World} {base g l cap : Nat} {pre : List Int} (h : Own W base g l cap pre) : l ≤ cap ∧ cap ≤ 9223372036854775807 ∧ base ≤ g ∧ g < W.heap.size := by
  have h0 := h.lt g rfl
  rcases h.2 with ⟨h1, _⟩ | ⟨g', cap', cur, h1, _, _, h2, h3, _⟩
  · cases h1
  · cases h1
    unfold maxLen at h3
    exact ⟨h2, by omega, h0⟩
theorem Own.cell {W : World} {base g l cap : Nat} {pre : List Int} (h : Own W base g l cap pre) (i : Nat) (hi : i < l) : W.cell? ⟨g, i, none⟩ = some (.int .u8 (pre.getD i 0)) := by
  have hl := h.len
  have := World.ownsRow.cellAt h i (by omega)
  rw [this]
  exact vals_get _ _ (by omega)
theorem Own.below {W W' : World} {base g l cap : Nat} {pre : List Int} (h : Own W base g l cap pre) (hb : Below W.heap.size W W') : Own W' base g l cap pre := by
  refine ⟨h.1, ?_⟩
  rcases h.2 with h1 | ⟨g', cap', cur, h1, h2, h3, h4⟩
  · exact .inl h1
  · refine .inr ⟨g', cap', cur, h1, h2, ?_, h4⟩
    rw [hb.block g' ?_]
    · exact h3
    · rcases Nat.lt_or_ge g' W.heap.size with h' | h'
      · exact h'
      · rw [Array.getElem?_eq_none h'] at h3; cases h3

theorem make_any (W : World) (base N : Nat) (h : N ≤ 4000000) (hb : base ≤ W.heap.size) :
    ∃ W', (Instr.makeSlice 22 (.int .i64 0) (.int .i64 (N : Int))).run Ybaf.prog W = .ok (.slice (some ⟨W.heap.size, 0, none⟩) 0 N) W' ∧ Own W' base W.heap.size 0 N [] ∧ Below W.heap.size W W' := by
  obtain ⟨i, hi, hz, hs, hby⟩ := i5'
  obtain ⟨W', hr, ho, hg⟩ := run_make_own (P := Ybaf.prog) W base 22 5 i (.int .u8 0) 1 Ybaf.underlying22 hi hz hs .i64 .i64 N (by rw [hby]; omega) (by unfold maxLen; omega) hb
  exact ⟨W', hr, ho, (Below.refl W.heap.size W).grown hg (Nat.le_refl _) (fun k hk => by cases hk)⟩

/-- append of the bytes of a slice, wherever it lies, onto the stream -/
theorem app_any (W : World) (base g l cap : Nat) (pre : List Int) (hown : Own W base g l cap pre) (p : Option Addr) (n c : Nat) (xs : List Int) (hx : xs.length = n) (h : In W p n xs)
    (hb : base ≤ W.heap.size) (hl : l + n ≤ 140737488355328) :
    ∃ g' cap' W', (Builtin.append_ #[22, 22] 22 #[.slice (some ⟨g, 0, none⟩) l cap, .slice p n c]).run Ybaf.prog W = .ok (.slice (some ⟨g', 0, none⟩) (l + n) cap') W' ∧
      Own W' base g' (l + n) cap' (pre ++ xs) ∧ Below base W W' := by
  obtain ⟨i, hi, hz, hs, hby⟩ := i5'
  rcases Nat.eq_zero_or_pos n with hn | hn
  · subst hn
    obtain rfl : xs = [] := List.eq_nil_of_length_eq_zero hx
    have hlc : l ≤ cap := hown.cap.1
    refine ⟨g, cap, W, ?_, by rw [List.append_nil]; exact hown, Below.refl _ _⟩
    have hsrc : Go.Src Ybaf.prog i.size 22 (.slice p 0 c) 0 [] W := by
      cases p with
      | none => exact Go.Src.ofNil W Ybaf.underlying22 c
      | some a => exact Go.Src.ofSlice W Ybaf.underlying22 a 0 c [] (by simp) (fun j u hj => by simp at hj) (fun u hu => by cases hu)
    exact run_append_nothing W 22 22 22 5 i Ybaf.underlying22 hi (some ⟨g, 0, none⟩) l cap hlc (.slice p 0 c) hsrc
  · obtain ⟨b, o, rfl, hc⟩ := h hn
    have hnew : ∀ j u, (vals xs)[j]? = some u → W.cell? ((⟨b, o, none⟩ : Addr).add j) = some u := fun j u hj => by
      have hjl : j < xs.length := by
        have := (List.getElem?_eq_some_iff.1 hj).1
        rwa [vals_len] at this
      rw [vals_get _ _ hjl] at hj
      cases hj
      rw [show (Addr.add ⟨b, o, none⟩ j) = ⟨b, o + j, none⟩ by simp [Addr.add]]
      exact hc j (by omega)
    obtain ⟨g', cap', W', hr, ho, hg, -, -⟩ := run_append_lies (P := Ybaf.prog) W 22 22 base 5 i (.int .u8 0) 1 1 Ybaf.underlying22 hi hz hs hby rfl (by decide) (.slice (some ⟨g, 0, none⟩) l cap) l (vals pre) hown ⟨b, o, none⟩ n c (vals xs) (by rw [vals_len, Nat.mul_one, hx]) hnew (vals_one xs) hn (by unfold maxLen; omega) (by omega) hb W.heap.size rfl
    have hB : Below base W W' := (Below.refl base W).grown hg hb (fun k hk => (World.ownsRow.lt hown k hk).1)
    exact ⟨g', cap', W', hr, by unfold Own; rw [vals_app]; exact ho, hB⟩
end Go.Proofs.YbulkdvoqFmt
