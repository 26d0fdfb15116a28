import Derived.Test.YbulkdvnaDoorRows
import Derived.Test.YbulkdvnaDoorTie
import Derived.Test.YbulkdvnaDoorCards
import Derived.Test.YbulkdvnaDoorLaw
import Derived.Test.YbulkdvnaDoorArgs
import Derived.ProofKit
import Derived.LaidMore
import Derived.LaidLaws
import Derived.OpenShut
import Derived.ShutString
import Derived.Stop.Joined
import Derived.SevenTiedAt
namespace Go.Proofs.YbulkdvnaDoor
open Go Go.ChangeShapes Go.WideShapes Go.ChangeAt Go.RowKit
open Go.ChangeMaps (open_string shut_string)
set_option linter.unusedVariables false

theorem own : ownKnob Ybad.prog.godebug = none := by kernel_rfl
theorem laidOut : laidOutB Ybad.prog = true := by kernel_rfl

/-- the door's own heap meets the condition -/
theorem door_met (os : Os) (args : Array Value) : laidMetH Ybad.prog laidL ((World.doorLaid Ybad.prog 400 os).forCall (fun _ _ => 0) ⟨#[], args, []⟩).memory :=
  laidMetH_of_parts3 (fuel := 8) (laidMet_of_run' 8 (by kernel_rfl) (by kernel_rfl)) (by kernel_rfl) (by kernel_rfl)

theorem str_bound {H : Type} {s : ByteArray} (h : ∀ n ∈ (DataW.lit (.string s.data.toList) : DataW H).weights Ybad.prog 9, n ≤ reachBytes) : s.size ≤ 140737488351232 := by
  have h1 := h s.size (by
    simp only [DataW.weights, List.mem_singleton, Array.length_toList]
    rfl)
  unfold reachBytes at h1
  exact h1

set_option maxRecDepth 100000 in
theorem lifted (os : Os) (started : os.Started) (H : Type) (enc : TypeId × Value → H) :
    ReturnsInHanded {} Ybad.checked os 3 .any (fun w args => (Rows.lawS6110BWholeSpec.pre enc Ybad.prog Ybad.f3 [] false w args ∧ laidMetH Ybad.prog laidL w) ∧ sizedMet enc Ybad.prog Ybad.f3 (OpenSpec.ofChange Rows.lawS6110BWholeSpec) false w args)
      (Rows.lawS6110BWholeSpec.post enc Ybad.prog Ybad.f3 false true false false) := by
  refine returnsInHanded_of_change_and (C := Ybad.checked) (X := fun w _ => laidMetH Ybad.prog laidL w) (fun _ _ _ hh h => h.of_heap hh) own started (by kernel_rfl) Ybad.func3
    (ChangeSpec.witness_shaped (enc := enc) (C := Ybad.checked) (os := os) (X := fun w _ => laidMetH Ybad.prog laidL w) false (World.doorLaid Ybad.prog 400 os) #[.int .u8 0, .string ⟨#[]⟩, .slice none 0 0, .bool false, .bool false, .slice none 0 0, .bool false, .bool false, .slice none 0 0, .bool false, .string ⟨#[]⟩] 8 rfl (World.shaped_of_RefB (by kernel_rfl) (by kernel_rfl)) (by kernel_rfl) (by kernel_rfl) (by kernel_rfl) (door_met os _)) ?_
  intro W base args ds gs before hval0 hW _ hsz0 hL _
  have hsz : (DataW.weightsEach Ybad.prog (Ybad.f3.params.toList ++ Rows.lawS6110BWholeSpec.plain.varTypes Ybad.prog) (ds ++ gs)).all (· ≤ reachBytes) = true := hsz0
  clear hsz0
  have hval : ∀ (j : Nat) t v, Ybad.f3.params[j]? = some t → args[j]? = some v → Value.okWide Ybad.prog W .any base t v := hval0
  have hW' := hW
  obtain ⟨p, q, hA0, hV, rfl, hfz, hnd⟩ := hW
  have hA : DataW.TrodAll enc Ybad.prog W 0 (fun _ => true) true Ybad.f3.params.toList args.toList ds p := hA0
  rw [Ybad.params3] at hA hval hsz
  obtain ⟨v0, vs0, d0, ds0, p0, q0, hargs, rfl, rfl, h0, r0⟩ := trodAll_cons hA
  obtain ⟨v1, vs1, d1, ds1, p1, q1, rfl, rfl, rfl, h1, r1⟩ := trodAll_cons r0
  obtain ⟨v2, vs2, d2, ds2, p2, q2, rfl, rfl, rfl, h2, r2⟩ := trodAll_cons r1
  obtain ⟨v3, vs3, d3, ds3, p3, q3, rfl, rfl, rfl, h3, r3⟩ := trodAll_cons r2
  obtain ⟨v4, vs4, d4, ds4, p4, q4, rfl, rfl, rfl, h4, r4⟩ := trodAll_cons r3
  obtain ⟨v5, vs5, d5, ds5, p5, q5, rfl, rfl, rfl, h5, r5⟩ := trodAll_cons r4
  obtain ⟨v6, vs6, d6, ds6, p6, q6, rfl, rfl, rfl, h6, r6⟩ := trodAll_cons r5
  obtain ⟨v7, vs7, d7, ds7, p7, q7, rfl, rfl, rfl, h7, r7⟩ := trodAll_cons r6
  obtain ⟨v8, vs8, d8, ds8, p8, q8, rfl, rfl, rfl, h8, r8⟩ := trodAll_cons r7
  obtain ⟨v9, vs9, d9, ds9, p9, q9, rfl, rfl, rfl, h9, r9⟩ := trodAll_cons r8
  obtain ⟨v10, vs10, d10, ds10, p10, q10, rfl, rfl, rfl, h10, r10⟩ := trodAll_cons r9
  obtain ⟨rfl, rfl, rfl⟩ := trodAll_nil r10
  obtain rfl : args = #[v0, v1, v2, v3, v4, v5, v6, v7, v8, v9, v10] := by cases args; simp_all
  obtain ⟨rfl, rfl⟩ := trodVars_none hV
  obtain ⟨m0, rfl, rfl, rfl, hwm⟩ := open_int Ybad.underlying5 (hval 0 5 v0 rfl rfl) h0
  obtain ⟨s1, rfl, rfl, rfl, w1⟩ := open_string Ybad.underlying9 (hval 1 9 v1 rfl rfl) h1
  obtain ⟨a2, len2, cap2, rfl⟩ := okWide_slice Ybad.underlying22 (hval 2 22 v2 rfl rfl)
  obtain ⟨b3, rfl, rfl, rfl⟩ := open_bool Ybad.underlying4 (hval 3 4 v3 rfl rfl) h3
  obtain ⟨b4, rfl, rfl, rfl⟩ := open_bool Ybad.underlying4 (hval 4 4 v4 rfl rfl) h4
  obtain ⟨a5, len5, cap5, rfl⟩ := okWide_slice Ybad.underlying22 (hval 5 22 v5 rfl rfl)
  obtain ⟨b6, rfl, rfl, rfl⟩ := open_bool Ybad.underlying4 (hval 6 4 v6 rfl rfl) h6
  obtain ⟨b7, rfl, rfl, rfl⟩ := open_bool Ybad.underlying4 (hval 7 4 v7 rfl rfl) h7
  obtain ⟨a8, len8, cap8, rfl⟩ := okWide_slice Ybad.underlying23 (hval 8 23 v8 rfl rfl)
  obtain ⟨b9, rfl, rfl, rfl⟩ := open_bool Ybad.underlying4 (hval 9 4 v9 rfl rfl) h9
  obtain ⟨s10, rfl, rfl, rfl, w10⟩ := open_string Ybad.underlying9 (hval 10 9 v10 rfl rfl) h10
  have k2 := h2
  have k5 := h5
  have k8 := h8
  have lt2 : ∀ x ∈ p2, x.block < W.heap.size := by obtain ⟨m, hm⟩ := k2; exact DataW.trod_lt m _ _ _ hm
  have lt5 : ∀ x ∈ p5, x.block < W.heap.size := by obtain ⟨m, hm⟩ := k5; exact DataW.trod_lt m _ _ _ hm
  have lt8 : ∀ x ∈ p8, x.block < W.heap.size := by obtain ⟨m, hm⟩ := k8; exact DataW.trod_lt m _ _ _ hm
  obtain ⟨f2, e2⟩ := h2
  obtain ⟨f5, e5⟩ := h5
  obtain ⟨f8, e8⟩ := h8
  have e2' : DataW.trod enc Ybad.prog W 0 (fun _ => true) true f2 22 [.slice a2 len2 cap2] = some (d2, p2) := by simpa [Value.cells] using e2
  have e5' : DataW.trod enc Ybad.prog W 0 (fun _ => true) true f5 22 [.slice a5 len5 cap5] = some (d5, p5) := by simpa [Value.cells] using e5
  have e8' : DataW.trod enc Ybad.prog W 0 (fun _ => true) true f8 23 [.slice a8 len8 cap8] = some (d8, p8) := by simpa [Value.cells] using e8
  have hall := List.all_eq_true.1 hsz
  obtain ⟨l2, hl2, sv2, hb2⟩ := arg_strs e2'
  obtain ⟨l5, hl5, sv5, hb5⟩ := arg_strs e5'
  obtain ⟨l8, hl8, sv8, hK8, hb8⟩ := arg_pairs e8'
  have B1 : s1.size ≤ 140737488351232 := str_bound (H := H) (fun n hn => by simpa using hall n (DataW.weights_mem_each (j := 1) (t := 9) rfl rfl n hn))
  have B10 : s10.size ≤ 140737488351232 := str_bound (H := H) (fun n hn => by simpa using hall n (DataW.weights_mem_each (j := 10) (t := 9) rfl rfl n hn))
  have B2 := hb2 (fun n hn => by simpa using hall n (DataW.weights_mem_each (j := 2) (t := 22) (d := d2) rfl rfl n hn))
  have B5 := hb5 (fun n hn => by simpa using hall n (DataW.weights_mem_each (j := 5) (t := 22) (d := d5) rfl rfl n hn))
  have B8 := hb8 (fun n hn => by simpa using hall n (DataW.weights_mem_each (j := 8) (t := 23) (d := d8) rfl rfl n hn))
  have hm0 := wf_u8 hwm
  obtain ⟨sch, rfl⟩ : ∃ sch : Nat, m0 = (sch : Int) := ⟨m0.toNat, by omega⟩
  subst hl2 hl5 hl8
  clear hA0 hval0
  refine (law_any sch s1 s10 a2 a5 a8 cap2 cap5 cap8 l2 l5 l8 b3 b4 b6 b7 b9 W sv2 sv5 sv8 (tab_of_laid hL) (by omega) hK8 B2.2 B5.2 B8.2 B1 B10 B2.1 B5.1 B8.1).mono fun e W' ⟨he, bel⟩ => ?_
  subst he
  exact ⟨_, rfl, _, _, _, [], _, [], hW', trodAll_mk1 (shut_bool Ybad.underlying4 _),
    (trodAll_cons_mk (shut_int Ybad.underlying5 hwm) (trodAll_cons_mk (shut_string Ybad.underlying9 w1) (trodAll_cons_mk (Below.trod laidOut (by kernel_rfl) (of_decide_eq_true (by kernel_rfl)) k2 bel lt2)
      (trodAll_cons_mk (shut_bool Ybad.underlying4 _) (trodAll_cons_mk (shut_bool Ybad.underlying4 _) (trodAll_cons_mk (Below.trod laidOut (by kernel_rfl) (of_decide_eq_true (by kernel_rfl)) k5 bel lt5)
      (trodAll_cons_mk (shut_bool Ybad.underlying4 _) (trodAll_cons_mk (shut_bool Ybad.underlying4 _) (trodAll_cons_mk (Below.trod laidOut (by kernel_rfl) (of_decide_eq_true (by kernel_rfl)) k8 bel lt8)
      (trodAll_cons_mk (shut_bool Ybad.underlying4 _) (trodAll_cons_mk (shut_string Ybad.underlying9 w10) trodAll_mk0))))))))))), rfl, bel.frame _, fun h => by cases h⟩

theorem row_holds : Rows.LawS6110BWholeSaid :=
  OpenClaim.holds_of_wide 3 Ybad.f3 rfl rfl rfl rfl rfl rfl rfl ⟨rfl, rfl, rfl, rfl, rfl⟩ rfl rfl rfl rfl rfl (by kernel_rfl) Ybad.func3 (by kernel_rfl)
    (of_decide_eq_true (by kernel_rfl)) (by unfold Func.isWrapper; first | (rw [if_pos (by decide +kernel)]; kernel_rfl) | (rw [if_neg (by decide +kernel)]; exact ⟨rfl, rfl⟩))
    (fun os started H enc _ => lifted os started H enc)

/-- the statement: the tied card -/
theorem proved : Rows.LawS6110BWholeCardSaid :=
  Claim7.holds_tied_plain_at .later [] [.data] true (true, "eb5704696db0603716b74d210dc0c1466855dbcfad3c6a71f542c394cfa0cf2c") false
    row_holds (fun _ h => by cases h) (by kernel_rfl) (fun _ h => by cases h) lawS6110BWhole_row_tie rfl ⟨rfl, rfl⟩ (by kernel_rfl) rfl
    (fun f fn hf hfn => by
      obtain rfl : f = 3 := Option.some.inj ((show Ybad.prog.funcNamed "example.com/rowan/rowan/pcs.LawS6110BWhole" = some 3 by kernel_rfl).symm.trans hf) |>.symm
      obtain rfl : fn = Ybad.f3 := (Option.some.inj (Ybad.func3.symm.trans hfn)).symm
      exact ⟨by kernel_rfl, fun j t ht => by
        rw [Ybad.params3] at ht
        have hm : t ∈ [5, 9, 22, 4, 4, 22, 4, 4, 23, 4, 9] := by simpa using Array.mem_of_getElem? ht
        have hall : ([5, 9, 22, 4, 4, 22, 4, 4, 23, 4, 9].all fun u => !Ybad.prog.wantsStandIn u) = true := by kernel_rfl
        exact (show Ybad.prog.wantsStandIn t = false by simpa using List.all_eq_true.1 hall t hm)⟩)
    (by kernel_rfl)
end Go.Proofs.YbulkdvnaDoor
