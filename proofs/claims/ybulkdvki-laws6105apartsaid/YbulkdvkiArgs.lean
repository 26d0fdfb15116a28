import Derived.Test.YbulkdvkiRows
import Derived.Test.YbulkdvkiTwo
import Derived.ProofKit
import Derived.SizedLaws
import Derived.Deep.Slices
import Derived.Deep.Strs
import Derived.SliceStrings
namespace Go.Proofs.Ybulkdvki
open Go Go.RowKit Go.ChangeShapes Go.WideShapes Go.ChangeAt Go.Deep

theorem cells25 : Yba.prog.cellsOf 25 = 3 := by kernel_rfl
theorem cells9 : Yba.prog.cellsOf 9 = 1 := by kernel_rfl
theorem cells23 : Yba.prog.cellsOf 23 = 1 := by kernel_rfl
theorem bytes9 : Yba.prog.bytesOf 9 = 16 := by kernel_rfl
theorem bytes25 : Yba.prog.bytesOf 25 = 64 := by kernel_rfl

/-- a []string that came in -/
theorem arg_strs {H : Type} {enc : TypeId × Value → H} {W : World} {fuel : Nat} {v : Value} {x : DataW H × List MemPlace} (h : DataW.trod enc Yba.prog W 0 (fun _ => true) true fuel 23 [v] = some x) :
    ∃ l : List ByteArray, SV (fun _ => False) W v l ∧ ((∀ n ∈ x.1.weights Yba.prog 23, n ≤ reachBytes) → l.length ≤ 8796093022208) := by
  rcases open_strings Yba.underlying23 Yba.underlying9 cells9 h with ⟨hcs, hx⟩ | ⟨a, len, cap, ss, hcs, _, hl, hm, hz, hx, hcell, hws⟩
  · injection hcs with hcs _
    subst hcs
    exact ⟨[], SV.nil _ _, fun _ => by simp⟩
  · injection hcs with hcs _
    subst hcs
    simp only [if_true] at hz
    have hlen : (ss.take len).length = len := by rw [List.length_take]; omega
    refine ⟨ss.take len, ⟨some a, cap, by rw [hlen], ?_⟩, fun hw => ?_⟩
    · by_cases h0 : len = 0
      · left
        rw [h0]
        rfl
      · right
        have hsp : a.spot = none := by simpa [Addr.add] using World.cell?_spot (hcell 0 (by omega))
        obtain ⟨b, off, spot⟩ := a
        subst hsp
        refine ⟨b, off, rfl, id, fun j hj => ?_⟩
        rw [hlen] at hj
        have h1 := hcell j (by omega)
        rw [add_plain] at h1
        rw [h1]
        simp [List.getD, hj]
    · subst hx
      have h1 := hw ((strs (H := H) (ss.take len)).length * 16 + (strs (H := H) (ss.drop len)).length * 16) (by simp [DataW.weights, Yba.underlying23, bytes9]; left; omega)
      have h2 : (strs (H := H) (ss.take len)).length = (ss.take len).length := by simp [strs]
      rw [h2] at h1
      unfold reachBytes at h1
      omega

theorem weightsAll_mem {H : Type} {P : Program} {e : TypeId} {n : Nat} : ∀ {l : List (DataW H)} {d : DataW H}, d ∈ l → n ∈ d.weights P e → n ∈ DataW.weightsAll P e l
  | d0 :: r, d, hd, hn => by
    unfold DataW.weightsAll
    rw [List.mem_append]
    rcases List.mem_cons.1 hd with rfl | h
    · exact Or.inl hn
    · exact Or.inr (weightsAll_mem h hn)

/-- the slice of teams that came in: ag: what each element reads as -/
def ArgTf (w : World) (p : Option Addr) (ag : List Tm) : Prop :=
  ag = [] ∨ ∃ b off, p = some ⟨b, off, none⟩ ∧ ∀ j (hj : j < ag.length), w.cell? ⟨b, off + j * 3, none⟩ = some (.string ag[j].nm) ∧
    (∃ v, w.cell? ⟨b, off + j * 3 + 1, none⟩ = some v ∧ SV (fun _ => False) w v ag[j].adm) ∧ (∃ v, w.cell? ⟨b, off + j * 3 + 2, none⟩ = some v ∧ SV (fun _ => False) w v ag[j].mem)

/-- one element -/
theorem arg_team {H : Type} {enc : TypeId × Value → H} {W : World} {fuel : Nat} {cs : List Value} {x : DataW H × List MemPlace} (h : DataW.trod enc Yba.prog W 0 (fun _ => true) true fuel 25 cs = some x) :
    ∃ (t : Tm) (va vm : Value), cs = [.string t.nm, va, vm] ∧ SV (fun _ => False) W va t.adm ∧ SV (fun _ => False) W vm t.mem ∧ ((∀ n ∈ x.1.weights Yba.prog 25, n ≤ reachBytes) → t.adm.length ≤ 8796093022208 ∧ t.mem.length ≤ 8796093022208) := by
  obtain ⟨y0, y1, y2, n, rfl, hl, h0, h1, h2⟩ := trod_struct3 Yba.underlying25 h
  rw [cells25] at hl
  match cs, hl with
  | [c0, c1, c2], _ =>
    simp only [cells9, cells23, List.drop_zero, List.take_succ_cons, List.take_zero, List.drop_succ_cons] at h0 h1 h2
    obtain ⟨s, hs, hy0, _⟩ := DataW.trod_string Yba.underlying9 h0
    injection hs with hs _
    subst hs
    obtain ⟨la, sa, wa⟩ := arg_strs h1
    obtain ⟨lm, sm, wm⟩ := arg_strs h2
    refine ⟨⟨0, s, lm, la⟩, c1, c2, rfl, sa, sm, fun hw => ⟨wa fun k hk => hw k ?_, wm fun k hk => hw k ?_⟩⟩
    · simp only [DataW.weights, Yba.underlying25]
      exact DataW.weights_mem_each (j := 1) (t := 23) (d := y1.1) rfl rfl k hk
    · simp only [DataW.weights, Yba.underlying25]
      exact DataW.weights_mem_each (j := 2) (t := 23) (d := y2.1) rfl rfl k hk

theorem list_of_fn {p : Nat → Tm → Prop} : ∀ (n : Nat), (∀ i, i < n → ∃ t, p i t) → ∃ l : List Tm, l.length = n ∧ ∀ i (hi : i < l.length), p i l[i]
  | 0, _ => ⟨[], rfl, fun i hi => by cases hi⟩
  | n + 1, h => by
    obtain ⟨l, hl, hp⟩ := list_of_fn n (fun i hi => h i (by omega))
    obtain ⟨t, ht⟩ := h n (by omega)
    refine ⟨l ++ [t], by simp [hl], fun i hi => ?_⟩
    by_cases hin : i < l.length
    · rw [List.getElem_append_left hin]
      exact hp i hin
    · have : i = n := by simp at hi; omega
      subst this
      rw [List.getElem_append_right (by omega)]
      simpa [hl] using ht

theorem arg_teams {H : Type} {enc : TypeId × Value → H} {W : World} {fuel : Nat} {p : Option Addr} {len cap : Nat} {x : DataW H × List MemPlace} (h : DataW.trod enc Yba.prog W 0 (fun _ => true) true fuel 22 [.slice p len cap] = some x) :
    ∃ ag : List Tm, ag.length = len ∧ ArgTf W p ag ∧ ((∀ n ∈ x.1.weights Yba.prog 22, n ≤ reachBytes) → ag.length ≤ 8796093022208 ∧ ∀ j (hj : j < ag.length), ag[j].adm.length ≤ 8796093022208 ∧ ag[j].mem.length ≤ 8796093022208) := by
  rcases open_slice Yba.underlying22 h with ⟨hcs, _⟩ | ⟨a, len', cap', m, n, D, Pl, hcs, _, hl, hm, hmm, rfl, hx⟩
  · injection hcs with hcs _
    injection hcs with h1 h2 h3
    subst h1 h2 h3
    exact ⟨[], rfl, Or.inl rfl, fun _ => ⟨by simp, fun j hj => by cases hj⟩⟩
  · injection hcs with hcs _
    injection hcs with h1 h2 h3
    subst h1 h2 h3
    simp only [if_true] at hmm
    subst hmm
    rw [cells25] at hx
    obtain ⟨ag, hag, hp⟩ := list_of_fn (p := fun i t => ∃ va vm cs, W.cells? 0 (a.add (i * 3)) 3 = some cs ∧ cs = [.string t.nm, va, vm] ∧ SV (fun _ => False) W va t.adm ∧ SV (fun _ => False) W vm t.mem ∧ ((∀ n ∈ (D i).weights Yba.prog 25, n ≤ reachBytes) → t.adm.length ≤ 8796093022208 ∧ t.mem.length ≤ 8796093022208)) len (fun i hi => by
      obtain ⟨cs, hc, ht⟩ := hx i (by omega)
      obtain ⟨t, va, vm, e, sa, sm, hw⟩ := arg_team ht
      exact ⟨t, va, vm, cs, hc, e, sa, sm, hw⟩)
    refine ⟨ag, hag, ?_, fun hw => ⟨?_, fun j hj => ?_⟩⟩
    · by_cases h0 : len = 0
      · exact Or.inl (List.length_eq_zero_iff.1 (hag.trans h0))
      · right
        obtain ⟨va, vm, cs, hc, e, _⟩ := hp 0 (by omega)
        have hsp : a.spot = none := by
          have h1 := (World.cells?_some hc).2.2 0 (by omega)
          subst e
          have h2 := World.cell?_spot h1
          simpa [Addr.add] using h2
        obtain ⟨b, off, spot⟩ := a
        subst hsp
        refine ⟨b, off, rfl, fun j hj => ?_⟩
        obtain ⟨va, vm, cs, hc, e, sa, sm, _⟩ := hp j hj
        have h1 := (World.cells?_some hc).2.2
        subst e
        have c0 := h1 0 (by omega)
        have c1 := h1 1 (by omega)
        have c2 := h1 2 (by omega)
        simp only [add_plain, Nat.add_zero] at c0 c1 c2
        exact ⟨c0, ⟨va, c1, sa⟩, ⟨vm, c2, sm⟩⟩
    · have h1 := hw ((((List.range len).map D).length + ((List.range (m - len)).map fun j => D (len + j)).length) * 64) (by simp [DataW.weights, Yba.underlying22, bytes25])
      simp only [List.length_map, List.length_range] at h1
      unfold reachBytes at h1
      omega
    · obtain ⟨va, vm, cs, hc, e, sa, sm, hwt⟩ := hp j hj
      refine hwt fun k hk => hw k ?_
      simp only [DataW.weights, Yba.underlying22]
      refine List.mem_cons_of_mem _ (List.mem_append.2 (Or.inl (weightsAll_mem (d := D j) ?_ hk)))
      exact List.mem_map.2 ⟨j, by simp; omega, rfl⟩
end Go.Proofs.Ybulkdvki
