import Derived.Test.YbulkdvkwDoorRows
import Derived.Test.YbulkdvkwDoorTie
import Derived.Test.YbulkdvkwDoorCards
import Derived.Test.YbulkdvkwDoorLaw
import Derived.ProofKit
import Derived.LaidMore
import Derived.LaidLaws
import Derived.OpenShut
import Derived.Stop.Joined
import Derived.SevenTiedAt
namespace Go.Proofs.YbulkdvkwDoor
open Go Go.ChangeShapes Go.WideShapes Go.ChangeAt Go.RowKit

theorem own : ownKnob Ybad.prog.godebug = none := by kernel_rfl
theorem laidOut : laidOutB Ybad.prog = true := by kernel_rfl
theorem cells5 : Ybad.prog.cellsOf 5 = 1 := by kernel_rfl
theorem gSyntax : Ybad.prog.globalNamed "strconv.ErrSyntax" = some 0 := by kernel_rfl
theorem tSyntax : (Ybad.prog.globals[0]?).map (·.type) = some 32 := by kernel_rfl

abbrev laidL : List (String × DataW Unit) := Rows.lawS6106CWholeRow.laid

/-- what the condition gives: the variable strconv.ErrSyntax holds an interface value -/
theorem errSyn_of_laid {W : World} (h : laidMetH Ybad.prog laidL W) : ∃ ev, W.cell? ⟨0, 0, none⟩ = some ev ∧ (ev = .nilIface ∨ ∃ te pe, ev = .iface te pe) := by
  rw [MakeChecks.laidMetH_plain _ _ _ (by kernel_rfl)] at h
  obtain ⟨ps, ⟨_, _, _, _, _, _, _, _, _, _, ⟨_, _, _, _, _, _, _, _, _, _, ⟨_, _, _, _, _, _, _, _, _, _, ⟨_, _, _, _, _, _, _, _, _, _, ⟨g4, t4, cs4, f4, p4, q4, hg4, ht4, hv4, hd4, _, _⟩, _⟩, _⟩, _⟩, _⟩, _, _⟩ := h
  obtain rfl := Option.some.inj (gSyntax.symm.trans hg4)
  obtain rfl := Option.some.inj (tSyntax.symm.trans ht4)
  obtain ⟨_, u, v, hcs, _, _⟩ := iface_of_trod Ybad.underlying32 hd4
  refine ⟨.iface u v, ?_, .inr ⟨u, v, rfl⟩⟩
  have := World.var?_cell hg4 hv4 0
  rw [Array.eq_one_of_toList hcs] at this
  simpa using this

/-- the door's own heap meets the condition -/
theorem door_met (os : Os) (args : Array Value) : laidMetH Ybad.prog laidL ((World.doorLaid Ybad.prog 400 os).forCall (fun _ _ => 0) ⟨#[], args, []⟩).memory :=
  laidMetH_of_parts3 (fuel := 8) (laidMet_of_run' 8 (by kernel_rfl) (by kernel_rfl)) (by kernel_rfl) (by kernel_rfl)

theorem wf_u8 {x : Int} (h : (Lit.int .u8 x).wf = true) : 0 ≤ x ∧ x < 256 := by
  have h2 : (decide ((0 : Int) ≤ x) && decide (x ≤ 255)) = true := h
  rw [Bool.and_eq_true, decide_eq_true_iff, decide_eq_true_iff] at h2
  omega

/-- a []byte, opened -/
theorem opened {H : Type} {enc : TypeId × Value → H} {W : World} {a0 : Option Addr} {len cap : Nat} {d0 : DataW H} {p : List MemPlace}
    (h0 : DataW.Trod enc Ybad.prog W 0 (fun _ => true) true 22 (.slice a0 len cap) d0 p) :
    ∃ xs : List Int, xs.length = len ∧ len ≤ cap ∧ cap ≤ 9223372036854775807 ∧ (∀ x ∈ xs, 0 ≤ x ∧ x < 256) ∧ Lib.BytesIn W a0 len xs := by
  obtain ⟨fuel, hf⟩ := h0
  rcases open_ints Ybad.underlying22 Ybad.underlying5 cells5 hf with ⟨hcs, hx⟩ | ⟨a, len', cap', zs, hcs, _, hl, hm, hz, hx, hcell, hwz⟩
  · simp [Value.cells] at hcs
    obtain ⟨rfl, rfl, rfl⟩ := hcs
    exact ⟨[], rfl, Nat.le_refl _, by omega, fun _ h => (List.not_mem_nil h).elim, Lib.BytesIn.nil _ _ _⟩
  · simp [Value.cells] at hcs
    obtain ⟨rfl, rfl, rfl⟩ := hcs
    simp only [if_true] at hz
    unfold maxLen at hm
    refine ⟨zs.take len, by simp; omega, by omega, by omega, fun x hx => ?_, Lib.BytesIn.of_cells (fun i hi => by rw [hcell i (by omega)]; simp [List.getD, hi])⟩
    have := hwz x (List.mem_of_mem_take hx)
    exact wf_u8 this

set_option maxRecDepth 100000 in
theorem lifted (os : Os) (started : os.Started) (H : Type) (enc : TypeId × Value → H) :
    ReturnsInHanded {} Ybad.checked os 3 .any (fun w args => (Rows.lawS6106CWholeSpec.pre enc Ybad.prog Ybad.f3 [] false w args ∧ laidMetH Ybad.prog laidL w) ∧ sizedMet enc Ybad.prog Ybad.f3 (OpenSpec.ofChange Rows.lawS6106CWholeSpec) false w args)
      (Rows.lawS6106CWholeSpec.post enc Ybad.prog Ybad.f3 false true false false) := by
  refine returnsInHanded_of_change_and (C := Ybad.checked) (X := fun w _ => laidMetH Ybad.prog laidL w) (fun _ _ _ hh h => h.of_heap hh) own started (by kernel_rfl) Ybad.func3
    (ChangeSpec.witness_shaped (enc := enc) (C := Ybad.checked) (os := os) (X := fun w _ => laidMetH Ybad.prog laidL w) false (World.doorLaid Ybad.prog 400 os) #[.slice none 0 0, .int .u8 0] 8 rfl (World.shaped_of_RefB (by kernel_rfl) (by kernel_rfl)) (by kernel_rfl) (by kernel_rfl) (by kernel_rfl) (door_met os _)) ?_
  intro W base args ds gs before hval0 hW _ _ hL _
  have hval : ∀ (j : Nat) t v, Ybad.f3.params[j]? = some t → args[j]? = some v → Value.okWide Ybad.prog W .any base t v := hval0
  have hW' := hW
  obtain ⟨p, q, hA0, hV, rfl, hfz, hnd⟩ := hW
  have hA : DataW.TrodAll enc Ybad.prog W 0 (fun _ => true) true Ybad.f3.params.toList args.toList ds p := hA0
  rw [Ybad.params3] at hA hval
  obtain ⟨v0, v1, d0, d1, p0, p1, rfl, rfl, rfl, h0, h1⟩ := trodAll_two hA
  obtain ⟨rfl, rfl⟩ := trodVars_none hV
  obtain ⟨a0, len0, cap0, rfl⟩ := okWide_slice Ybad.underlying22 (hval 0 22 v0 rfl rfl)
  obtain ⟨m, rfl, rfl, rfl, hwm⟩ := open_int Ybad.underlying5 (hval 1 5 v1 rfl rfl) h1
  obtain ⟨ev, hv, hev⟩ := errSyn_of_laid hL
  obtain ⟨xs, hx, hnc, hbig, hr, hB⟩ := opened h0
  have lt0 : ∀ x ∈ p0, x.block < W.heap.size := by obtain ⟨f, hf⟩ := h0; exact DataW.trod_lt f _ _ _ hf
  have hm : 0 ≤ m := by
    exact (wf_u8 hwm).1
  clear hA0 hval0
  refine (law_any a0 len0 cap0 xs m W hx hr hnc hbig hB hm ev hv hev).mono fun e W' ⟨he, bel⟩ => ?_
  subst he
  exact ⟨_, rfl, _, _, _, [], _, [], hW', trodAll_mk1 (shut_bool Ybad.underlying4 _),
    trodAll_mk2 (Below.trod laidOut (by kernel_rfl) (of_decide_eq_true (by kernel_rfl)) h0 bel lt0) (shut_int Ybad.underlying5 hwm), rfl, bel.frame _, fun h => by cases h⟩

theorem row_holds : Rows.LawS6106CWholeSaid :=
  OpenClaim.holds_of_wide 3 Ybad.f3 rfl rfl rfl rfl rfl rfl rfl ⟨rfl, rfl, rfl, rfl, rfl⟩ rfl rfl rfl rfl rfl (by kernel_rfl) Ybad.func3 (by kernel_rfl)
    (of_decide_eq_true (by kernel_rfl)) (by unfold Func.isWrapper; first | (rw [if_pos (by decide +kernel)]; kernel_rfl) | (rw [if_neg (by decide +kernel)]; exact ⟨rfl, rfl⟩))
    (fun os started H enc _ => lifted os started H enc)

/-- the statement: the tied card -/
theorem proved : Rows.LawS6106CWholeCardSaid :=
  Claim7.holds_tied_plain_at .later [] [.data, .data, .data, .sentinel, .sentinel] true (true, "5f7e41a2e54992120abfbfa7a1b499b5a19be6ab73a12dbbd8241eaa78f1889d") true
    row_holds (fun _ h => by cases h) (by kernel_rfl) (fun _ h => by cases h) lawS6106CWhole_row_tie rfl ⟨rfl, rfl⟩ (by kernel_rfl) rfl
    (fun f fn hf hfn => by
      obtain rfl : f = 3 := Option.some.inj ((show Ybad.prog.funcNamed "example.com/tidewatch/tidewatch/internal/yaml.LawS6106CWhole" = some 3 by kernel_rfl).symm.trans hf) |>.symm
      obtain rfl : fn = Ybad.f3 := (Option.some.inj (Ybad.func3.symm.trans hfn)).symm
      exact ⟨by kernel_rfl, fun j t ht => by
        rw [Ybad.params3] at ht
        have hm : t ∈ [22, 5] := by simpa using Array.mem_of_getElem? ht
        have hall : ([22, 5].all fun u => !Ybad.prog.wantsStandIn u) = true := by kernel_rfl
        exact (show Ybad.prog.wantsStandIn t = false by simpa using List.all_eq_true.1 hall t hm)⟩)
    (by kernel_rfl)
end Go.Proofs.YbulkdvkwDoor
