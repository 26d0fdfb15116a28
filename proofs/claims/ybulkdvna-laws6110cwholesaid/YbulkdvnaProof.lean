import Derived.Test.YbulkdvnaRows
import Derived.Test.YbulkdvnaLaw
import Derived.WalkKit
import Derived.ProofKit
import Derived.OpenShut
import Derived.ChangeOld
import Derived.Below
import Derived.SizedLaws
import Derived.Deep.Slices
namespace Go.Proofs.Ybulkdvna
open Go Go.ChangeShapes Go.WideShapes Go.ChangeAt Go.RowKit Go.Deep
set_option linter.unusedVariables false

theorem own : ownKnob Yba.prog.godebug = none := by kernel_rfl
theorem laidOut : laidOutB Yba.prog = true := by kernel_rfl
theorem cells5 : Yba.prog.cellsOf 5 = 1 := by kernel_rfl
theorem cells23 : Yba.prog.cellsOf 23 = 1 := by kernel_rfl
theorem bytes5 : Yba.prog.bytesOf 5 = 1 := by kernel_rfl

theorem wf_u8 {x : Int} (h : (Lit.int .u8 x).wf = true) : 0 ≤ x ∧ x < 256 := by
  have h2 : (decide ((0 : Int) ≤ x) && decide (x ≤ 255)) = true := h
  rw [Bool.and_eq_true, decide_eq_true_iff, decide_eq_true_iff] at h2
  omega

theorem nums_str (xs : List Int) (hr : ∀ x ∈ xs, 0 ≤ x ∧ x < 256) : nums (strOfNums xs) = xs := by
  unfold nums strOfNums
  simp only [List.map_map]
  refine (List.map_congr_left (g := id) fun x hx => ?_).trans (List.map_id _)
  have := hr x hx
  simp only [Function.comp, UInt8.toNat_ofNat', id]
  omega
theorem str_size (xs : List Int) : (strOfNums xs).size = xs.length := by
  unfold strOfNums
  simp [ByteArray.size]

/-- a []byte that came in -/
theorem arg_bytes {H : Type} {enc : TypeId × Value → H} {W : World} {fuel : Nat} {v : Value} {x : DataW H × List MemPlace} (h : DataW.trod enc Yba.prog W 0 (fun _ => true) true fuel 23 [v] = some x) :
    ∃ s : ByteArray, BStr W v s ∧ ((∀ n ∈ x.1.weights Yba.prog 23, n ≤ reachBytes) → s.size ≤ 140737488355328) := by
  rcases open_ints Yba.underlying23 Yba.underlying5 cells5 h with ⟨hcs, hx⟩ | ⟨a, len, cap, zs, hcs, _, hl, hm, hz, hx, hcell, hwz⟩
  · injection hcs with hcs _
    subst hcs
    exact ⟨⟨#[]⟩, ⟨none, 0, rfl, Lib.BytesIn.nil _ _ _⟩, fun _ => by simp [ByteArray.size]⟩
  · injection hcs with hcs _
    subst hcs
    simp only [if_true] at hz
    have hlen : (zs.take len).length = len := by rw [List.length_take]; omega
    have hr : ∀ x ∈ zs.take len, 0 ≤ x ∧ x < 256 := fun x hx => wf_u8 (hwz x (List.mem_of_mem_take hx))
    refine ⟨strOfNums (zs.take len), ⟨some a, cap, by rw [str_size, hlen], ?_⟩, fun hw => ?_⟩
    · rw [nums_str _ hr, str_size, hlen]
      exact Lib.BytesIn.of_cells (fun i hi => by rw [hcell i (by omega)]; simp [List.getD, hi])
    · subst hx
      rw [str_size]
      have h1 := hw ((lits (H := H) .u8 (zs.take len)).length * 1 + (lits (H := H) .u8 (zs.drop len)).length * 1) (by simp [DataW.weights, Yba.underlying23, bytes5])
      have h2 : (lits (H := H) .u8 (zs.take len)).length = (zs.take len).length := by simp [lits]
      rw [h2] at h1
      unfold reachBytes at h1
      omega

theorem weightsAll_mem {H : Type} {P : Program} {e : TypeId} {n : Nat} : ∀ {l : List (DataW H)} {d : DataW H}, d ∈ l → n ∈ d.weights P e → n ∈ DataW.weightsAll P e l
  | d0 :: r, d, hd, hn => by
    unfold DataW.weightsAll
    rw [List.mem_append]
    rcases List.mem_cons.1 hd with rfl | h
    · exact Or.inl hn
    · exact Or.inr (weightsAll_mem h hn)

theorem list_of_fn {p : Nat → ByteArray → Prop} : ∀ (n : Nat), (∀ i, i < n → ∃ t, p i t) → ∃ l : List ByteArray, l.length = n ∧ ∀ i (hi : i < l.length), p i l[i]
  | 0, _ => ⟨[], rfl, fun i hi => by cases hi⟩
  | n + 1, h => by
    obtain ⟨l, hl, hp⟩ := list_of_fn n (fun i hi => h i (by omega))
    obtain ⟨t, ht⟩ := h n (by omega)
    refine ⟨l ++ [t], by simp [hl], fun i hi => ?_⟩
    by_cases hin : i < l.length
    · rw [List.getElem_append_left hin]
      exact hp i hin
    · have : i = n := by simp at hi; omega
      subst this
      rw [List.getElem_append_right (by omega)]
      simpa [hl] using ht

/-- the [][]byte that came in -/
theorem arg_rows {H : Type} {enc : TypeId × Value → H} {W : World} {fuel : Nat} {p : Option Addr} {len cap : Nat} {x : DataW H × List MemPlace} (h : DataW.trod enc Yba.prog W 0 (fun _ => true) true fuel 22 [.slice p len cap] = some x) :
    ∃ ss : List ByteArray, ss.length = len ∧ PriIn W p ss ∧ ((∀ n ∈ x.1.weights Yba.prog 22, n ≤ reachBytes) → ∀ y ∈ ss, y.size ≤ 140737488355328) := by
  rcases open_slice Yba.underlying22 h with ⟨hcs, _⟩ | ⟨a, len', cap', m, n, D, Pl, hcs, _, hl, hm, hmm, rfl, hx⟩
  · injection hcs with hcs _
    injection hcs with h1 h2 h3
    subst h1 h2 h3
    exact ⟨[], rfl, fun h => by simp at h, fun _ y hy => by simp at hy⟩
  · injection hcs with hcs _
    injection hcs with h1 h2 h3
    subst h1 h2 h3
    simp only [if_true] at hmm
    subst hmm
    rw [cells23] at hx
    obtain ⟨ss, hss, hp⟩ := list_of_fn (p := fun i t => ∃ v, W.cells? 0 (a.add (i * 1)) 1 = some [v] ∧ BStr W v t ∧ ((∀ n ∈ (D i).weights Yba.prog 23, n ≤ reachBytes) → t.size ≤ 140737488355328)) len (fun i hi => by
      obtain ⟨cs, hc, ht⟩ := hx i (by omega)
      have hcl : cs.length = 1 := by have := World.cells?_some hc; simp_all
      match cs, hcl with
      | [v], _ =>
        obtain ⟨t, hb, hw⟩ := arg_bytes ht
        exact ⟨t, v, hc, hb, hw⟩)
    refine ⟨ss, hss, fun h0 => ?_, fun hw y hy => ?_⟩
    · obtain ⟨v, hc, hb, _⟩ := hp 0 h0
      have hsp : a.spot = none := by
        have h1 := (World.cells?_some hc).2.2 0 (by simp)
        have h2 := World.cell?_spot h1
        simpa [Addr.add] using h2
      obtain ⟨b, off, spot⟩ := a
      subst hsp
      refine ⟨b, off, rfl, fun j hj => ?_⟩
      obtain ⟨v, hc, hb, _⟩ := hp j hj
      have c0 := (World.cells?_some hc).2.2 0 (by simp)
      simp only [add_plain, Nat.add_zero, Nat.mul_one] at c0
      exact ⟨v, c0, hb⟩
    · obtain ⟨j, hj, rfl⟩ := List.mem_iff_getElem.1 hy
      obtain ⟨v, hc, hb, hwt⟩ := hp j hj
      refine hwt fun k hk => hw k ?_
      simp only [DataW.weights, Yba.underlying22]
      refine List.mem_cons_of_mem _ (List.mem_append.2 (Or.inl (weightsAll_mem (d := D j) ?_ hk)))
      exact List.mem_map.2 ⟨j, by simp; omega, rfl⟩

set_option maxRecDepth 100000 in
theorem lifted (os : Os) (started : os.Started) (H : Type) (enc : TypeId × Value → H) :
    ReturnsInHanded {} Yba.checked os 3 .any (Rows.lawS6110CWholeSpec.pre6 enc Yba.prog Yba.f3 Rows.lawS6110CWholeRow.domain false) (Rows.lawS6110CWholeSpec.post enc Yba.prog Yba.f3 false true false false) := by
  refine returnsInHanded_of_change_sized (C := Yba.checked) own started (by kernel_rfl) Yba.func3
    (ChangeSpec.witness6 (enc := enc) (C := Yba.checked) false ⟨#[], #[.slice none 0 0, .slice none 0 0], []⟩ 8 (by kernel_rfl) (by kernel_rfl) (by kernel_rfl) (by kernel_rfl)) ?_
  intro W base args ds gs before hval0 hW _ hsz0 _
  have hsz : (DataW.weightsEach Yba.prog (Yba.f3.params.toList ++ Rows.lawS6110CWholeSpec.plain.varTypes Yba.prog) (ds ++ gs)).all (· ≤ reachBytes) = true := hsz0
  clear hsz0
  have hval : ∀ (j : Nat) t v, Yba.f3.params[j]? = some t → args[j]? = some v → Value.okWide Yba.prog W .any base t v := hval0
  have hW' := hW
  obtain ⟨p, q, hA0, hV, rfl, hfz, hnd⟩ := hW
  have hA : DataW.TrodAll enc Yba.prog W 0 (fun _ => true) true Yba.f3.params.toList args.toList ds p := hA0
  rw [Yba.params3] at hA hval hsz
  obtain ⟨v0, v1, d0, d1, p0, p1, rfl, rfl, rfl, h0, h1⟩ := trodAll_two hA
  obtain ⟨rfl, rfl⟩ := trodVars_none hV
  obtain ⟨a0, len0, cap0, rfl⟩ := okWide_slice Yba.underlying22 (hval 0 22 v0 rfl rfl)
  obtain ⟨a1, len1, cap1, rfl⟩ := okWide_slice Yba.underlying23 (hval 1 23 v1 rfl rfl)
  have k0 := h0
  have k1 := h1
  have lt0 : ∀ x ∈ p0, x.block < W.heap.size := by obtain ⟨m, hm⟩ := k0; exact DataW.trod_lt m _ _ _ hm
  have lt1 : ∀ x ∈ p1, x.block < W.heap.size := by obtain ⟨m, hm⟩ := k1; exact DataW.trod_lt m _ _ _ hm
  obtain ⟨f0, e0⟩ := h0
  obtain ⟨f1, e1⟩ := h1
  have e0' : DataW.trod enc Yba.prog W 0 (fun _ => true) true f0 22 [.slice a0 len0 cap0] = some (d0, p0) := by simpa [Value.cells] using e0
  have e1' : DataW.trod enc Yba.prog W 0 (fun _ => true) true f1 23 [.slice a1 len1 cap1] = some (d1, p1) := by simpa [Value.cells] using e1
  have hall := List.all_eq_true.1 hsz
  obtain ⟨ss, hss, hP, hb0⟩ := arg_rows e0'
  obtain ⟨nm, hN, hb1⟩ := arg_bytes e1'
  have B0 := hb0 (fun n hn => by simpa using hall n (DataW.weights_mem_each (j := 0) (t := 22) (d := d0) rfl rfl n hn))
  have B1 := hb1 (fun n hn => by simpa using hall n (DataW.weights_mem_each (j := 1) (t := 23) (d := d1) rfl rfl n hn))
  subst hss
  clear hA0 hval0
  refine (law_any a0 cap0 ss a1 len1 cap1 nm W hP hN B0 B1).mono fun e W' ⟨he, bel⟩ => ?_
  subst he
  exact ⟨_, rfl, _, _, _, [], _, [], hW', trodAll_mk1 (shut_bool Yba.underlying4 _),
    trodAll_mk2 (Below.trod laidOut (by kernel_rfl) (of_decide_eq_true (by kernel_rfl)) k0 bel lt0) (Below.trod laidOut (by kernel_rfl) (of_decide_eq_true (by kernel_rfl)) k1 bel lt1), rfl, bel.frame _, fun h => by cases h⟩

theorem over : Rows.lawS6110CWholeRow.holds Yba.pinned (OpenSpec.ofChange Rows.lawS6110CWholeSpec) :=
  OpenClaim.holds_of_wide 3 Yba.f3 rfl rfl rfl rfl rfl rfl rfl ⟨rfl, rfl, rfl, rfl, rfl⟩ rfl rfl rfl rfl rfl (by kernel_rfl) Yba.func3 (by kernel_rfl)
    (of_decide_eq_true (by kernel_rfl)) (by unfold Func.isWrapper; first | (rw [if_pos (by decide +kernel)]; kernel_rfl) | (rw [if_neg (by decide +kernel)]; exact ⟨rfl, rfl⟩))
    (fun os started H enc _ => lifted os started H enc)

/-- the statement -/
theorem proved : Rows.LawS6110CWholeSaid := over
end Go.Proofs.Ybulkdvna
