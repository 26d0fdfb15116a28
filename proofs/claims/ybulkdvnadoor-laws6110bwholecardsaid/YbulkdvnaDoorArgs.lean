import Derived.Test.YbulkdvnaDoorRows
import Derived.Test.YbulkdvnaDoorLaw0
import Derived.ProofKit
import Derived.SizedLaws
import Derived.Deep.Slices
import Derived.Deep.Strs
import Derived.SliceStrings
import Derived.OpenShut
import Derived.LaidMore
import Derived.LaidLaws
namespace Go.Proofs.YbulkdvnaDoor
open Go Go.RowKit Go.ChangeShapes Go.WideShapes Go.ChangeAt Go.Deep

theorem cells25 : Ybad.prog.cellsOf 25 = 2 := by kernel_rfl
theorem cells9 : Ybad.prog.cellsOf 9 = 1 := by kernel_rfl
theorem cells5 : Ybad.prog.cellsOf 5 = 1 := by kernel_rfl
theorem bytes9 : Ybad.prog.bytesOf 9 = 16 := by kernel_rfl
theorem bytes25 : Ybad.prog.bytesOf 25 = 24 := by kernel_rfl

theorem weightsAll_mem {H : Type} {P : Program} {e : TypeId} {n : Nat} : ∀ {l : List (DataW H)} {d : DataW H}, d ∈ l → n ∈ d.weights P e → n ∈ DataW.weightsAll P e l
  | d0 :: r, d, hd, hn => by
    unfold DataW.weightsAll
    rw [List.mem_append]
    rcases List.mem_cons.1 hd with rfl | h
    · exact Or.inl hn
    · exact Or.inr (weightsAll_mem h hn)

/-- a []string that came in -/
theorem arg_strs {H : Type} {enc : TypeId × Value → H} {W : World} {fuel : Nat} {p : Option Addr} {len cap : Nat} {x : DataW H × List MemPlace} (h : DataW.trod enc Ybad.prog W 0 (fun _ => true) true fuel 22 [.slice p len cap] = some x) :
    ∃ l : List ByteArray, l.length = len ∧ StrsIn W p l ∧ ((∀ n ∈ x.1.weights Ybad.prog 22, n ≤ reachBytes) → l.length ≤ 140737488355328 ∧ ∀ s ∈ l, s.size ≤ 140737488351232) := by
  rcases open_strings Ybad.underlying22 Ybad.underlying9 cells9 h with ⟨hcs, hx⟩ | ⟨a, len', cap', ss, hcs, _, hl, hm, hz, hx, hcell, hws⟩
  · injection hcs with hcs _
    injection hcs with h1 h2 h3
    subst h1 h2 h3
    exact ⟨[], rfl, (fun h => by cases h), fun _ => ⟨by simp, fun s hs => by cases hs⟩⟩
  · injection hcs with hcs _
    injection hcs with h1 h2 h3
    subst h1 h2 h3
    simp only [if_true] at hz
    have hlen : (ss.take len).length = len := by rw [List.length_take]; omega
    refine ⟨ss.take len, hlen, fun h0 => ?_, fun hw => ⟨?_, fun s hs => ?_⟩⟩
    · have hsp : a.spot = none := by simpa [Addr.add] using World.cell?_spot (hcell 0 (by omega))
      obtain ⟨b, off, spot⟩ := a
      subst hsp
      refine ⟨b, off, rfl, fun j hj => ?_⟩
      rw [hlen] at hj
      have h1 := hcell j (by omega)
      rw [add_plain] at h1
      rw [h1]
      have hj2 : j < ss.length := by omega
      simp [List.getD, hj2]
    · subst hx
      have h1 := hw ((strs (H := H) (ss.take len)).length * 16 + (strs (H := H) (ss.drop len)).length * 16) (by simp [DataW.weights, Ybad.underlying22, bytes9]; left; omega)
      have h2 : (strs (H := H) (ss.take len)).length = (ss.take len).length := by simp [strs]
      rw [h2] at h1
      unfold reachBytes at h1
      omega
    · subst hx
      have h1 := hw s.size (by
        simp only [DataW.weights, Ybad.underlying22]
        refine List.mem_cons_of_mem _ (List.mem_append.2 (Or.inl (weightsAll_mem (d := .lit (.string s.data.toList)) ?_ ?_)))
        · exact List.mem_map.2 ⟨s, hs, rfl⟩
        · simp only [DataW.weights, List.mem_singleton, Array.length_toList]
          rfl)
      unfold reachBytes at h1
      exact h1

theorem wf_u8 {x : Int} (h : (Lit.int .u8 x).wf = true) : 0 ≤ x ∧ x < 256 := by
  have h2 : (decide ((0 : Int) ≤ x) && decide (x ≤ 255)) = true := h
  rw [Bool.and_eq_true, decide_eq_true_iff, decide_eq_true_iff] at h2
  omega

set_option maxRecDepth 100000 in
/-- one pair -/
theorem arg_pair {H : Type} {enc : TypeId × Value → H} {W : World} {fuel : Nat} {cs : List Value} {x : DataW H × List MemPlace} (h : DataW.trod enc Ybad.prog W 0 (fun _ => true) true fuel 25 cs = some x) :
    ∃ t : Nat × ByteArray, cs = [.int .u8 (t.1 : Int), .string t.2] ∧ t.1 < 256 ∧ ((∀ n ∈ x.1.weights Ybad.prog 25, n ≤ reachBytes) → t.2.size ≤ 140737488351232) := by
  obtain ⟨y0, y1, n, rfl, hl, h0, h1⟩ := trod_struct2 Ybad.underlying25 h
  rw [cells25] at hl
  match cs, hl with
  | [c0, c1], _ =>
    simp only [cells9, cells5, List.drop_zero, List.take_succ_cons, List.take_zero, List.drop_succ_cons] at h0 h1
    obtain ⟨k, hk, hy0, hwf⟩ := DataW.trod_int Ybad.underlying5 h0
    obtain ⟨s, hs, hy1, _⟩ := DataW.trod_string Ybad.underlying9 h1
    injection hs with hs _
    injection hk with hk _
    subst hs hk
    have hr := wf_u8 hwf
    obtain ⟨m, rfl⟩ : ∃ m : Nat, k = (m : Int) := ⟨k.toNat, by omega⟩
    refine ⟨⟨m, s⟩, rfl, by omega, fun hw => ?_⟩
    have h2 := hw s.size (by
      simp only [DataW.weights, Ybad.underlying25]
      refine DataW.weights_mem_each (j := 1) (t := 9) (d := y1.1) rfl rfl _ ?_
      rw [hy1]
      simp only [DataW.weights, List.mem_singleton, Array.length_toList]
      rfl)
    unfold reachBytes at h2
    exact h2

theorem list_of_fn {α : Type} {p : Nat → α → Prop} : ∀ (n : Nat), (∀ i, i < n → ∃ t, p i t) → ∃ l : List α, l.length = n ∧ ∀ i (hi : i < l.length), p i l[i]
  | 0, _ => ⟨[], rfl, fun i hi => by cases hi⟩
  | n + 1, h => by
    obtain ⟨l, hl, hp⟩ := list_of_fn n (fun i hi => h i (by omega))
    obtain ⟨t, ht⟩ := h n (by omega)
    refine ⟨l ++ [t], by simp [hl], fun i hi => ?_⟩
    by_cases hin : i < l.length
    · rw [List.getElem_append_left hin]
      exact hp i hin
    · have : i = n := by simp at hi; omega
      subst this
      rw [List.getElem_append_right (by omega)]
      simpa [hl] using ht

theorem arg_pairs {H : Type} {enc : TypeId × Value → H} {W : World} {fuel : Nat} {p : Option Addr} {len cap : Nat} {x : DataW H × List MemPlace} (h : DataW.trod enc Ybad.prog W 0 (fun _ => true) true fuel 23 [.slice p len cap] = some x) :
    ∃ ag : List (Nat × ByteArray), ag.length = len ∧ PairsIn W p ag ∧ (∀ q ∈ ag, q.1 < 256) ∧ ((∀ n ∈ x.1.weights Ybad.prog 23, n ≤ reachBytes) → ag.length ≤ 140737488355328 ∧ ∀ q ∈ ag, q.2.size ≤ 140737488351232) := by
  rcases open_slice Ybad.underlying23 h with ⟨hcs, _⟩ | ⟨a, len', cap', m, n, D, Pl, hcs, _, hl, hm, hmm, rfl, hx⟩
  · injection hcs with hcs _
    injection hcs with h1 h2 h3
    subst h1 h2 h3
    exact ⟨[], rfl, (fun h => by cases h), (fun q hq => by cases hq), fun _ => ⟨by simp, fun q hq => by cases hq⟩⟩
  · injection hcs with hcs _
    injection hcs with h1 h2 h3
    subst h1 h2 h3
    simp only [if_true] at hmm
    subst hmm
    rw [cells25] at hx
    obtain ⟨ag, hag, hp⟩ := list_of_fn (p := fun i (t : Nat × ByteArray) => ∃ cs, W.cells? 0 (a.add (i * 2)) 2 = some cs ∧ cs = [.int .u8 (t.1 : Int), .string t.2] ∧ t.1 < 256 ∧ ((∀ n ∈ (D i).weights Ybad.prog 25, n ≤ reachBytes) → t.2.size ≤ 140737488351232)) len (fun i hi => by
      obtain ⟨cs, hc, ht⟩ := hx i (by omega)
      obtain ⟨t, e, hlt, hw⟩ := arg_pair ht
      exact ⟨t, cs, hc, e, hlt, hw⟩)
    refine ⟨ag, hag, fun h0 => ?_, fun q hq => ?_, fun hw => ⟨?_, fun q hq => ?_⟩⟩
    · obtain ⟨cs, hc, e, _⟩ := hp 0 h0
      have hsp : a.spot = none := by
        have h1 := (World.cells?_some hc).2.2 0 (by omega)
        subst e
        have h2 := World.cell?_spot h1
        simpa [Addr.add] using h2
      obtain ⟨b, off, spot⟩ := a
      subst hsp
      refine ⟨b, off, rfl, fun j hj => ?_⟩
      obtain ⟨cs, hc, e, _⟩ := hp j hj
      have h1 := (World.cells?_some hc).2.2
      subst e
      have c0 := h1 0 (by omega)
      have c1 := h1 1 (by omega)
      simp only [add_plain, Nat.add_zero] at c0 c1
      exact ⟨c0, c1⟩
    · obtain ⟨j, hj, rfl⟩ := List.mem_iff_getElem.1 hq
      obtain ⟨cs, hc, e, hlt, _⟩ := hp j hj
      exact hlt
    · have h1 := hw ((((List.range len).map D).length + ((List.range (m - len)).map fun j => D (len + j)).length) * 24) (by simp [DataW.weights, Ybad.underlying23, bytes25])
      simp only [List.length_map, List.length_range] at h1
      unfold reachBytes at h1
      omega
    · obtain ⟨j, hj, rfl⟩ := List.mem_iff_getElem.1 hq
      obtain ⟨cs, hc, e, hlt, hwt⟩ := hp j hj
      refine hwt fun k hk => hw k ?_
      simp only [DataW.weights, Ybad.underlying23]
      refine List.mem_cons_of_mem _ (List.mem_append.2 (Or.inl (weightsAll_mem (d := D j) ?_ hk)))
      exact List.mem_map.2 ⟨j, by simp; omega, rfl⟩

abbrev laidL : List (String × DataW Unit) := Rows.lawS6110BWholeRow.laid
theorem gTable : Ybad.prog.globalNamed "net/url.table" = some 1 := by kernel_rfl
theorem tTable : (Ybad.prog.globals[1]?).map (·.type) = some 99 := by kernel_rfl
theorem undT : Ybad.prog.underlying 99 = some (.array 256 63) := by kernel_rfl
theorem und63 : Ybad.prog.underlying 63 = some (.int .u8) := by kernel_rfl
theorem cells63 : Ybad.prog.cellsOf 63 = 1 := by kernel_rfl
theorem cellsT : Ybad.prog.cellsOf 99 = 256 := by kernel_rfl
theorem laid_tab : (Rows.laid_net_url_table : DataW Unit) = .agg (tab.map fun n => .lit (.int .u8 n)) := by kernel_rfl
/-- the table, out of the condition -/
theorem tab_of_laid {W : World} (h : laidMetH Ybad.prog laidL W) : TabIn W := by
  rw [MakeChecks.laidMetH_plain _ _ _ (by kernel_rfl)] at h
  obtain ⟨ps, ⟨g4, t4, cs4, f4, p4, q4, hg4, ht4, hv4, hd4, _, _⟩, _⟩ := h
  obtain rfl := Option.some.inj (gTable.symm.trans hg4)
  obtain rfl := Option.some.inj (tTable.symm.trans ht4)
  obtain ⟨xs, m, rfl, hx, hl, hxl, hel⟩ := DataW.trod_array undT hd4
  rw [cellsT] at hl
  rw [laid_tab] at hx
  have hx1 : tab.map (fun n => (.lit (.int .u8 n) : DataW Unit)) = xs.map (·.1) := by
    have := congrArg Prod.fst hx
    exact DataW.agg.inj this
  intro c hc
  have hcell := World.var?_cell hg4 hv4 c
  rw [hcell]
  have h1 := hel c hc
  rw [cells63, Nat.mul_one] at h1
  have hc2 : c < cs4.toList.length := by omega
  have h2 : (cs4.toList.drop c).take 1 = [cs4.toList[c]] := by
    rw [List.drop_eq_getElem_cons hc2]
    rfl
  rw [h2, List.getElem?_eq_getElem (by omega)] at h1
  obtain ⟨n, hn, hy, _⟩ := DataW.trod_int und63 h1
  injection hn with hn _
  have h3 := congrArg (fun l => l[c]?) hx1
  simp only [List.getElem?_map] at h3
  rw [List.getElem?_eq_getElem (l := xs) (by omega), hy] at h3
  have h4 : tab[c]? = some n := by
    cases ht : tab[c]? with
    | none => rw [ht] at h3; cases h3
    | some k =>
      rw [ht] at h3
      simp only [Option.map_some, Option.some.injEq, DataW.lit.injEq, Lit.int.injEq, true_and] at h3
      rw [h3]
  rw [List.getD_eq_getElem?_getD, h4]
  simp only [Option.getD_some]
  rw [← hn]
  simp
end Go.Proofs.YbulkdvnaDoor
