import Derived.Test.YbulkdvoqFmtRows
import Derived.Test.YbulkdvoqFmtTie
import Derived.Test.YbulkdvoqFmtCards
import Derived.Test.YbulkdvoqFmtLaw
import Derived.ProofKit
import Derived.LaidMore
import Derived.LaidLaws
import Derived.OpenShut
import Derived.MakeChecks
import Derived.Stop.LaidErr
import Derived.Stop.JoinedTold
import Derived.Deep.DeepWitnessRef
import Derived.SevenTiedAt
namespace Go.Proofs.YbulkdvoqFmt
open Go Go.ChangeShapes Go.WideShapes Go.ChangeAt Go.RowKit
open Go.Extern.Stop Go.Stop Go.Extern
set_option linter.unusedVariables false

theorem own : ownKnob Ybaf.prog.godebug = none := by kernel_rfl
theorem laidOut : laidOutB Ybaf.prog = true := by kernel_rfl
theorem cells5 : Ybaf.prog.cellsOf 5 = 1 := by kernel_rfl
theorem cells9 : Ybaf.prog.cellsOf 9 = 1 := by kernel_rfl
theorem cells40 : Ybaf.prog.cellsOf 40 = 1 := by kernel_rfl
theorem gShort : Ybaf.prog.globalNamed "io.ErrShortBuffer" = some 3 := by kernel_rfl
theorem gEof : Ybaf.prog.globalNamed "io.EOF" = some 0 := by kernel_rfl
theorem gUnex : Ybaf.prog.globalNamed "io.ErrUnexpectedEOF" = some 1 := by kernel_rfl
theorem tEof : (Ybaf.prog.globals[0]?).map (·.type) = some 27 := by kernel_rfl
theorem tUnex : (Ybaf.prog.globals[1]?).map (·.type) = some 27 := by kernel_rfl
theorem star : "*" ++ "errors.errorString" = "*errors.errorString" := by decide
theorem row38 (u : TypeId) (h : Ybaf.prog.typeName? 3 u = some "*errors.errorString") : u = 38 :=
  typeName_ptr_named (nm := "errors.errorString") (by rw [star]; kernel_rfl) (by kernel_rfl) (by decide) u (by rw [star]; exact h)

abbrev laidL : List (String × DataW Unit) := Rows.lawS6113AWholeRow.laid

/-- what the condition gives of the two sentinels -/
theorem sent_of_laid {W : World} (h : laidMetH Ybaf.prog laidL W) : ∃ ae au, W.cell? ⟨0, 0, none⟩ = some (.iface 38 (.pointer (some ae))) ∧ W.cell? ⟨1, 0, none⟩ = some (.iface 38 (.pointer (some au))) ∧ (∃ v, W.cell? ae = some v) ∧ ∃ v, W.cell? au = some v := by
  rw [MakeChecks.laidMetH_plain _ _ _ (by kernel_rfl)] at h
  have hL1 := h.tail
  have hL2 := hL1.tail
  obtain ⟨a0, s0, hv0, hc0, _, _⟩ := laid_sentinel hL1 gEof tEof Ybaf.underlying27 row38 Ybaf.underlying38 Ybaf.underlying40 rfl rfl Ybaf.underlying9 cells40 cells9
  obtain ⟨a1, s1, hv1, hc1, _, _⟩ := laid_sentinel hL2 gUnex tUnex Ybaf.underlying27 row38 Ybaf.underlying38 Ybaf.underlying40 rfl rfl Ybaf.underlying9 cells40 cells9
  exact ⟨a0, a1, by simpa using World.var?_cell gEof hv0 0, by simpa using World.var?_cell gUnex hv1 0, ⟨_, hc0⟩, ⟨_, hc1⟩⟩

/-- the door's own heap meets the condition -/
theorem door_met (os : Os) (args : Array Value) : laidMetH Ybaf.prog laidL ((World.doorLaid Ybaf.prog 400 os).forCall (fun _ _ => 0) ⟨#[], args, []⟩).memory :=
  laidMetH_of_parts3 (fuel := 8) (laidMet_of_run' 8 (by kernel_rfl) (by kernel_rfl)) (by kernel_rfl) (by kernel_rfl)

theorem wf_u8 {x : Int} (h : (Lit.int .u8 x).wf = true) : 0 ≤ x ∧ x < 256 := by
  have h2 : (decide ((0 : Int) ≤ x) && decide (x ≤ 255)) = true := h
  rw [Bool.and_eq_true, decide_eq_true_iff, decide_eq_true_iff] at h2
  omega
theorem wf_u32 {x : Int} (h : (Lit.int .u32 x).wf = true) : 0 ≤ x ∧ x < 4294967296 := by
  have h2 : (decide ((0 : Int) ≤ x) && decide (x ≤ 4294967295)) = true := h
  rw [Bool.and_eq_true, decide_eq_true_iff, decide_eq_true_iff] at h2
  omega

/-- a []byte, opened -/
theorem opened {H : Type} {enc : TypeId × Value → H} {W : World} {a0 : Option Addr} {len cap : Nat} {d0 : DataW H} {p : List MemPlace}
    (h0 : DataW.Trod enc Ybaf.prog W 0 (fun _ => true) true 22 (.slice a0 len cap) d0 p) :
    ∃ xs : List Int, xs.length = len ∧ (∀ x ∈ xs, 0 ≤ x ∧ x < 256) ∧ In W a0 len xs := by
  obtain ⟨fuel, hf⟩ := h0
  rcases open_ints Ybaf.underlying22 Ybaf.underlying5 cells5 hf with ⟨hcs, hx⟩ | ⟨a, len', cap', zs, hcs, _, hl, hm, hz, hx, hcell, hwz⟩
  · simp [Value.cells] at hcs
    obtain ⟨rfl, rfl, rfl⟩ := hcs
    exact ⟨[], rfl, fun _ h => (List.not_mem_nil h).elim, fun h => by omega⟩
  · simp [Value.cells] at hcs
    obtain ⟨rfl, rfl, rfl⟩ := hcs
    simp only [if_true] at hz
    refine ⟨zs.take len, by simp; omega, fun x hx => wf_u8 (hwz x (List.mem_of_mem_take hx)), fun hn => ?_⟩
    have hsp : a.spot = none := by
      have h2 := World.cell?_spot (hcell 0 (by omega))
      simpa [Addr.add] using h2
    obtain ⟨b, off, spot⟩ := a
    subst hsp
    refine ⟨b, off, rfl, fun i hi => ?_⟩
    have h1 := hcell i (by omega)
    rw [Go.WideShapes.add_plain] at h1
    rw [h1]
    simp [List.getD, hi]
theorem getD_rng {xs : List Int} (h : ∀ x ∈ xs, 0 ≤ x ∧ x < 256) (j : Nat) : 0 ≤ xs.getD j 0 ∧ xs.getD j 0 < 256 := by
  rw [List.getD_eq_getElem?_getD]
  cases hg : xs[j]? with
  | none => simp
  | some v => exact h v (List.mem_of_getElem? hg)

set_option maxRecDepth 100000 in
set_option maxHeartbeats 1600000 in
theorem lifted (os : Os) (started : os.Started) (H : Type) (enc : TypeId × Value → H) :
    ReturnsInTold none {} Ybaf.checked os 3 .any Input.okWide ((OpenSpec.ofChange Rows.lawS6113AWholeSpec).preRow enc Ybaf.prog Ybaf.f3 [] false laidL) (fun F => ((OpenSpec.ofChange Rows.lawS6113AWholeSpec).at F).post enc Ybaf.prog Ybaf.f3 false true false false) (aloneAtReturn Ybaf.prog) nothingAlways := by
  refine returnsInTold_of_row (C := Ybaf.checked) (s := OpenSpec.ofChange Rows.lawS6113AWholeSpec) (by kernel_rfl) own started (by kernel_rfl) Ybaf.func3
    (OpenSpec.witness_stopped_atRef (enc := enc) (C := Ybaf.checked) false (World.doorLaid Ybaf.prog 400 os) #[.slice none 0 0, .int .u8 0, .int .u8 0, .int .u8 0, .int .u32 0, .slice none 0 0, .bool false, .int .u8 0, .slice none 0 0, .int .u8 0] rfl (by kernel_rfl) (by kernel_rfl) (by kernel_rfl)
      (OpenSpec.preRow_of_B rfl 8 (by kernel_rfl) (by kernel_rfl) (door_met os _))) ?_
  intro F W base args ds gs before _ hF hval0 hW _ _ _ hL _
  have hval : ∀ (j : Nat) t v, Ybaf.f3.params[j]? = some t → args[j]? = some v → Value.okWide Ybaf.prog W .any base t v := hval0
  have hW' := hW
  obtain ⟨p, q, hA0, hV, rfl, hfz, hnd⟩ := hW
  have hA : DataW.TrodAll enc Ybaf.prog W 0 (fun _ => true) true Ybaf.f3.params.toList args.toList ds p := hA0
  rw [Ybaf.params3] at hA hval
  obtain ⟨v0, vs0, d0, ds0, p0, q0, hargs, rfl, rfl, h0, r0⟩ := trodAll_cons hA
  obtain ⟨v1, vs1, d1, ds1, p1, q1, rfl, rfl, rfl, h1, r1⟩ := trodAll_cons r0
  obtain ⟨v2, vs2, d2, ds2, p2, q2, rfl, rfl, rfl, h2, r2⟩ := trodAll_cons r1
  obtain ⟨v3, vs3, d3, ds3, p3, q3, rfl, rfl, rfl, h3, r3⟩ := trodAll_cons r2
  obtain ⟨v4, vs4, d4, ds4, p4, q4, rfl, rfl, rfl, h4, r4⟩ := trodAll_cons r3
  obtain ⟨v5, vs5, d5, ds5, p5, q5, rfl, rfl, rfl, h5, r5⟩ := trodAll_cons r4
  obtain ⟨v6, vs6, d6, ds6, p6, q6, rfl, rfl, rfl, h6, r6⟩ := trodAll_cons r5
  obtain ⟨v7, vs7, d7, ds7, p7, q7, rfl, rfl, rfl, h7, r7⟩ := trodAll_cons r6
  obtain ⟨v8, vs8, d8, ds8, p8, q8, rfl, rfl, rfl, h8, r8⟩ := trodAll_cons r7
  obtain ⟨v9, vs9, d9, ds9, p9, q9, rfl, rfl, rfl, h9, r9⟩ := trodAll_cons r8
  obtain ⟨rfl, rfl, rfl⟩ := trodAll_nil r9
  obtain rfl : args = #[v0, v1, v2, v3, v4, v5, v6, v7, v8, v9] := by cases args; simp_all
  obtain ⟨rfl, rfl⟩ := trodVars_none hV
  obtain ⟨a0, len0, cap0, rfl⟩ := okWide_slice Ybaf.underlying22 (hval 0 22 v0 rfl rfl)
  obtain ⟨m1, rfl, rfl, rfl, w1⟩ := open_int Ybaf.underlying5 (hval 1 5 v1 rfl rfl) h1
  obtain ⟨m2, rfl, rfl, rfl, w2⟩ := open_int Ybaf.underlying5 (hval 2 5 v2 rfl rfl) h2
  obtain ⟨m3, rfl, rfl, rfl, w3⟩ := open_int Ybaf.underlying5 (hval 3 5 v3 rfl rfl) h3
  obtain ⟨m4, rfl, rfl, rfl, w4⟩ := open_int Ybaf.underlying23 (hval 4 23 v4 rfl rfl) h4
  obtain ⟨a5, len5, cap5, rfl⟩ := okWide_slice Ybaf.underlying22 (hval 5 22 v5 rfl rfl)
  obtain ⟨b6, rfl, rfl, rfl⟩ := open_bool Ybaf.underlying4 (hval 6 4 v6 rfl rfl) h6
  obtain ⟨m7, rfl, rfl, rfl, w7⟩ := open_int Ybaf.underlying5 (hval 7 5 v7 rfl rfl) h7
  obtain ⟨a8, len8, cap8, rfl⟩ := okWide_slice Ybaf.underlying22 (hval 8 22 v8 rfl rfl)
  obtain ⟨m9, rfl, rfl, rfl, w9⟩ := open_int Ybaf.underlying5 (hval 9 5 v9 rfl rfl) h9
  obtain ⟨ae, au, g0, g1, he, hu⟩ := sent_of_laid hL
  have lt0 : ∀ x ∈ p0, x.block < W.heap.size := by obtain ⟨f, hf⟩ := h0; exact DataW.trod_lt f _ _ _ hf
  have lt5 : ∀ x ∈ p5, x.block < W.heap.size := by obtain ⟨f, hf⟩ := h5; exact DataW.trod_lt f _ _ _ hf
  have lt8 : ∀ x ∈ p8, x.block < W.heap.size := by obtain ⟨f, hf⟩ := h8; exact DataW.trod_lt f _ _ _ hf
  obtain ⟨I, hIl, hIr, hI⟩ := opened h0
  obtain ⟨T, hTl, hTr, hT⟩ := opened h5
  obtain ⟨C, hCl, hCr, hC⟩ := opened h8
  clear hA0 hval0
  refine (law_any F.told a0 len0 cap0 I m1 m2 m3 m4 a5 len5 cap5 T b6 m7 a8 len8 cap8 C m9 W hI (getD_rng hIr) (wf_u8 w1) (wf_u8 w2) (wf_u8 w3) (wf_u32 w4) hT hTl hTr (wf_u8 w7) hC (getD_rng hCr) (wf_u8 w9) hF ae au g0 g1 he hu).mono fun e W' ⟨he', bel⟩ => ?_
  subst he'
  exact ⟨_, rfl, _, _, _, [], _, [], hW', trodAll_mk1 (shut_bool Ybaf.underlying4 _),
    (trodAll_cons_mk (Below.trod laidOut (by kernel_rfl) (of_decide_eq_true (by kernel_rfl)) h0 bel lt0) (trodAll_cons_mk (shut_int Ybaf.underlying5 w1) (trodAll_cons_mk (shut_int Ybaf.underlying5 w2) (trodAll_cons_mk (shut_int Ybaf.underlying5 w3) (trodAll_cons_mk (shut_int Ybaf.underlying23 w4)
      (trodAll_cons_mk (Below.trod laidOut (by kernel_rfl) (of_decide_eq_true (by kernel_rfl)) h5 bel lt5) (trodAll_cons_mk (shut_bool Ybaf.underlying4 _) (trodAll_cons_mk (shut_int Ybaf.underlying5 w7)
      (trodAll_cons_mk (Below.trod laidOut (by kernel_rfl) (of_decide_eq_true (by kernel_rfl)) h8 bel lt8) (trodAll_cons_mk (shut_int Ybaf.underlying5 w9) trodAll_mk0)))))))))), rfl, bel.frame _, fun h => by cases h⟩

theorem stops : Ybaf.pinned.checked.prog.stops = ["fmt.errorf"] := by kernel_rfl
theorem stopKnobs : Ybaf.pinned.checked.prog.stopKnobs = [] := by kernel_rfl
theorem quiet (os : Os) : Stop.quiet Ybaf.pinned.checked.prog os := by
  intro k hk
  rw [stopKnobs] at hk
  cases hk

/-- the statement: the told and tied card -/
theorem proved : Rows.LawS6113AWholeToldSaid :=
  Claim7.holds_of_told_tied_any_at .later 3 Ybaf.f3 "fmt.errorf" [] [] (true, "b925beb20e5e307a1486ad5b03d90706b7c455a490986a69aee06c5310cb6c04") true false [.sentinel, .sentinel, .sentinel] true (by kernel_rfl) rfl rfl rfl laidOut (by kernel_rfl) rfl ⟨rfl, rfl, rfl, rfl, rfl, rfl, rfl⟩ rfl rfl (by kernel_rfl) (by kernel_rfl) Ybaf.func3 (by kernel_rfl)
    (of_decide_eq_true (by kernel_rfl)) (of_decide_eq_true (by kernel_rfl)) stops.symm rfl stopKnobs.symm (by kernel_rfl)
    (by kernel_rfl) (by kernel_rfl) (by kernel_rfl) (by kernel_rfl) (by kernel_rfl) (by kernel_rfl) (by kernel_rfl) (by kernel_rfl) (by kernel_rfl) rfl (by kernel_rfl) rfl rfl
    rfl rfl
    rfl (by kernel_rfl) (by kernel_rfl) (by kernel_rfl) (by decide) (by kernel_rfl) lawS6113AWhole_row_tie
    (OpenClaim.moreEntering_of (by kernel_rfl) (by kernel_rfl) (by kernel_rfl) (by kernel_rfl) (by kernel_rfl) (by kernel_rfl) (by kernel_rfl) (by kernel_rfl) (by kernel_rfl) (by kernel_rfl))
    ⟨_, WideRow.started_initial, quiet _⟩
    (fun os started _ H enc _ => lifted os started H enc)
end Go.Proofs.YbulkdvoqFmt
