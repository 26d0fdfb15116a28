import Derived.Test.YbulkdvnaDoorLaw0
namespace Go.Proofs.YbulkdvnaDoor
open Go Go.RowKit

/-- append of one []string of the call's own onto another -/
theorem app_two (W : World) (base base2 : Nat) (v v2 : Value) (ps ps2 : List (List UInt8)) (h : OwnS W base v ps) (h2 : OwnS W base2 v2 ps2) (hb : base ≤ W.heap.size) (hl : ps.length + ps2.length ≤ 1000000) :
    ∃ v' W', (Builtin.append_ #[22, 22] 22 #[v, v2]).run Ybad.prog W = .ok v' W' ∧ OwnS W' base v' (ps ++ ps2) ∧ Below base W W' := by
  obtain ⟨i, hi, hz, hs, hby⟩ := i9'
  by_cases hn : ps2 = []
  · subst hn
    obtain ⟨p, l, cap, rfl, hlc⟩ : ∃ p l cap, v = .slice p l cap ∧ l ≤ cap := by
      rcases h.2 with ⟨h1, _⟩ | ⟨g', cap', cur, h1, _, _, h3, _⟩
      · exact ⟨_, _, _, h1, Nat.le_refl _⟩
      · exact ⟨_, _, _, h1, h3⟩
    obtain ⟨p2, c2, rfl⟩ : ∃ p2 c2, v2 = .slice p2 0 c2 := by
      rcases h2.2 with ⟨h1, _⟩ | ⟨g', cap', cur, h1, _⟩
      · exact ⟨_, _, h1⟩
      · exact ⟨_, _, h1⟩
    refine ⟨_, W, ?_, by rw [List.append_nil]; exact h, Below.refl _ _⟩
    have hsrc : Src Ybad.prog i.size 22 (.slice p2 0 c2) 0 [] W := by
      cases p2 with
      | none => exact Src.ofNil W Ybad.underlying22 c2
      | some a => exact Src.ofSlice W Ybad.underlying22 a 0 c2 [] (by simp) (fun j u hj => by simp at hj) (fun u hu => by cases hu)
    exact run_append_nothing W 22 22 22 9 i Ybad.underlying22 hi p l cap hlc (.slice p2 0 c2) hsrc
  · have hpos : 0 < ps2.length := List.length_pos_iff.2 hn
    obtain ⟨g2, cap2, rfl⟩ : ∃ g2 cap2, v2 = .slice (some ⟨g2, 0, none⟩) ps2.length cap2 := by
      rcases h2.2 with ⟨_, h1⟩ | ⟨g', cap', cur, h1, _⟩
      · omega
      · exact ⟨_, _, h1⟩
    obtain ⟨g', cap', W', hr, ho, hg, -, -⟩ := run_append_lies (P := Ybad.prog) W 22 22 base 9 i (.string ⟨#[]⟩) 1 16 Ybad.underlying22 hi hz hs hby rfl (by decide) v ps.length (ps.map strV) h ⟨g2, 0, none⟩ ps2.length cap2 (ps2.map strV) (by rw [List.length_map, Nat.mul_one]) (fun j u hj => by
        rw [List.getElem?_map] at hj
        obtain ⟨x, hx, rfl⟩ := Option.map_eq_some_iff.1 hj
        rw [Go.WideShapes.add_plain, Nat.zero_add]
        exact h2.cell j x hx) (fun u hu => by
        obtain ⟨x, _, rfl⟩ := List.mem_map.1 hu
        rfl) (by omega) (by unfold maxLen; omega) (by omega) hb _ rfl
    refine ⟨_, W', hr, ?_, (Below.refl base _).grown hg hb (fun k hk => (World.ownsRow.lt h k hk).1)⟩
    unfold OwnS
    rw [List.length_append, List.map_append]
    exact ho
/-- strings.Join of a []string of the call's own, by a slash -/
theorem join_own (W : World) (base : Nat) (v : Value) (ps : List (List UInt8)) (h : OwnS W base v ps) (hl : ps.length ≤ 1000000) (hl2 : (([47] : List UInt8).intercalate ps).length ≤ 1000000) :
    Calls Ybad.prog 8 #[v, .string ⟨#[47]⟩] W fun e w' => e = .returned (.string ⟨(([47] : List UInt8).intercalate ps).toArray⟩) ∧ Below W.heap.size W w' := by
  by_cases hn : ps = []
  · subst hn
    obtain ⟨p2, c2, rfl⟩ : ∃ p2 c2, v = .slice p2 0 c2 := by
      rcases h.2 with ⟨h1, _⟩ | ⟨g', cap', cur, h1, _⟩
      · exact ⟨_, _, h1⟩
      · exact ⟨_, _, h1⟩
    refine (Ybad.strings_Join_none p2 c2 ⟨#[47]⟩ W).mono ?_
    rintro e w' ⟨rfl, rfl⟩
    exact ⟨rfl, Below.refl _ _⟩
  · have hpos : 0 < ps.length := List.length_pos_iff.2 hn
    obtain ⟨g2, cap2, rfl, hc2⟩ : ∃ g2 cap2, v = .slice (some ⟨g2, 0, none⟩) ps.length cap2 ∧ ps.length ≤ cap2 := by
      rcases h.2 with ⟨_, h1⟩ | ⟨g', cap', cur, h1, _, _, h3, _⟩
      · omega
      · exact ⟨_, _, h1, h3⟩
    have e1 : ((ps.map fun x => (⟨x.toArray⟩ : ByteArray)).map (·.data.toList)) = ps := by
      rw [List.map_map]
      exact (List.map_congr_left fun x _ => by simp).trans (List.map_id _)
    have hJ := Ybad.strings_Join g2 0 cap2 (ps.map fun x => ⟨x.toArray⟩) ⟨#[47]⟩ W (fun j x hx => by
      rw [List.getElem?_map] at hx
      obtain ⟨y, hy, rfl⟩ := Option.map_eq_some_iff.1 hx
      rw [Nat.zero_add]
      exact h.cell j y hy) (World.ownsRow.lt h g2 rfl).2 (by rw [List.length_map]; omega) (by rw [List.length_map]; exact hc2) (by
      rw [e1]
      show (([47] : List UInt8).intercalate ps).length ≤ _
      omega)
    rw [e1, List.length_map] at hJ
    exact hJ
theorem len_sumL : ∀ xs : List (List UInt8), xs.length ≤ sumL xs
  | [] => Nat.le_refl _
  | x :: xs => by
    have := len_sumL xs
    unfold sumL at *
    rw [List.map_cons, List.sum_cons, List.length_cons]
    omega
theorem pcs_len (l : List UInt8) : (pcs l).length ≤ l.length + 1 := by
  have h1 := len_sumL (pcs l)
  have h2 : sumL (pcs l) ≤ sumL (Lib.Pa.els l) := sumL_filter _ _
  rw [sumL_els] at h2
  omega
end Go.Proofs.YbulkdvnaDoor
