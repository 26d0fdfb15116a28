import Derived.Test.YbulkdvoqFmtFacts
import Derived.Deep.WholeRow
namespace Go.Proofs.YbulkdvoqFmt
open Go Go.RowKit Go.Extern.Stop Go.Stop Go.Extern

/-- nothing of what was there but block br has turned -/
structure Keep (br : Nat) (w w' : World) : Prop where
  os : w'.os = w.os
  tape : w'.tape = w.tape
  output : w'.output = w.output
  size : w.heap.size ≤ w'.heap.size
  block : ∀ k, k < w.heap.size → k ≠ br → w'.heap[k]? = w.heap[k]?
theorem Keep.of_below {br : Nat} {w w' : World} (h : Below w.heap.size w w') : Keep br w w' := ⟨h.os, h.tape, h.output, h.size, fun k hk _ => h.block k hk⟩
theorem Keep.still {br bb : Nat} {w w' w'' : World} (h : Keep br w w') (hs : Still br bb w' w'') (hb : w.heap.size ≤ bb) : Keep br w w'' :=
  ⟨hs.os.trans h.os, hs.tape.trans h.tape, hs.output.trans h.output, by rw [hs.size]; exact h.size, fun k hk hn => (hs.block k hn (by omega)).trans (h.block k hk hn)⟩
theorem Keep.below {br : Nat} {w w' w'' : World} (h : Keep br w w') (hb : Below w.heap.size w' w'') : Keep br w w'' :=
  ⟨hb.os.trans h.os, hb.tape.trans h.tape, hb.output.trans h.output, Nat.le_trans h.size hb.size, fun k hk hn => (hb.block k hk).trans (h.block k hk hn)⟩
theorem Keep.refl (br : Nat) (w : World) : Keep br w w := ⟨rfl, rfl, rfl, Nat.le_refl _, fun _ _ _ => rfl⟩
theorem Keep.trans {br : Nat} {w w' w'' : World} (h : Keep br w w') (k : Keep br w' w'') : Keep br w w'' :=
  ⟨k.os.trans h.os, k.tape.trans h.tape, k.output.trans h.output, Nat.le_trans h.size k.size, fun i hi hn => (k.block i (Nat.lt_of_lt_of_le hi h.size) hn).trans (h.block i hi hn)⟩

/-- the reader ahead of the first Read -/
structure Src (w : World) (br bs cs : Nat) (S : List Int) (pc : Option Addr) (nc cc : Nat) (C : List Int) (m : Int) (ev : Value) : Prop where
  rd : w.heap[br]? = some (.cells #[.slice (some ⟨bs, 0, none⟩) S.length cs, .int .i64 0, .slice pc nc cc, .int .i64 0, .int .u8 m, ev] 31 (0, 0))
  st : ∀ i, i < S.length → w.cell? ⟨bs, i, none⟩ = some (.int .u8 (S.getD i 0))
  ch : 0 < nc → ∃ b o, pc = some ⟨b, o, none⟩ ∧ b ≠ br ∧ b < w.heap.size ∧ ∀ j, j < nc → w.cell? ⟨b, o + j, none⟩ = some (.int .u8 (C.getD j 0))
  ne : bs ≠ br ∧ bs < w.heap.size ∧ 0 ≠ br
  rng : ∀ j, 0 ≤ C.getD j 0 ∧ C.getD j 0 < 256
  ms : 0 ≤ m ∧ m < 4
  lim : S.length ≤ cs ∧ S.length ≤ 4000000 ∧ cs ≤ 9223372036854775807 ∧ nc ≤ 4000000

theorem Src.lt {w : World} {br bs cs : Nat} {S : List Int} {pc : Option Addr} {nc cc : Nat} {C : List Int} {m : Int} {ev : Value} (h : Src w br bs cs S pc nc cc C m ev) : br < w.heap.size := by
  rcases Nat.lt_or_ge br w.heap.size with h' | h'
  · exact h'
  · have := h.rd
    rw [Array.getElem?_eq_none h'] at this
    cases this

theorem Src.rd0 {w : World} {br bs cs : Nat} {S : List Int} {pc : Option Addr} {nc cc : Nat} {C : List Int} {m : Int} {ev eof : Value} (h : Src w br bs cs S pc nc cc C m ev) (A : Obj) (B : Array Value) (hB : B = (bufOf S 0).toArray) (hg : w.cell? ⟨0, 0, none⟩ = some eof) :
    Rd ((w.alloc A).alloc (.cells B 43)) br (w.heap.size + 1) bs cs S pc nc cc C m ev eof 0 := by
  have hb : Below w.heap.size w ((w.alloc A).alloc (.cells B 43)) := ((Below.refl _ w).alloc (Nat.le_refl _) A).alloc (by simp) _
  have hl := h.lt
  have h0 := World.block_lt_of_cell? _ _ hg
  refine ⟨⟨0, Nat.le_refl _, (hb.block br hl).trans h.rd⟩, ?_, fun i hi => (hb.cell h.ne.2.1).trans (h.st i hi), fun hn => ?_, (hb.cell h0).trans hg, ⟨h.ne.1, by have := h.ne.2.1; omega, by omega, h.ne.2.2, by omega⟩, h.rng, h.ms, ⟨Nat.zero_le _, h.lim⟩⟩
  · have := heap_alloc_new (w.alloc A) (.cells B 43)
    rw [World.size_alloc] at this
    rw [this, hB]
  · obtain ⟨b, o, e, n1, n2, hc⟩ := h.ch hn
    exact ⟨b, o, e, n1, by omega, fun j hj => (hb.cell n2).trans (hc j hj)⟩

/-- the number that bytes 19 to 22 spell -/
def le4 (S : List Int) : Int := S.getD 19 0 + S.getD 20 0 * 256 + S.getD 21 0 * 65536 + S.getD 22 0 * 16777216
def hdrOf (l : List Int) : Value := .agg (l.map (Value.int .u8)).toArray

def HdrEnd (w : World) (S : List Int) (m : Int) (bo : Nat) (ae au : Addr) (n : Nat) (hv : Value) (lv : Int) (er : Value) (w' : World) : Prop :=
  (23 ≤ S.length ∧ n = 23 ∧ hv = hdrOf (S.take 19) ∧ lv = le4 S ∧ ((lv ≤ 65536 ∧ er = .nilIface) ∨ (65536 < lv ∧ ∃ k co, er = .iface 38 (.pointer (some ⟨k, 0, none⟩)) ∧ w.heap.size ≤ k ∧ w'.heap[k]? = some (.cells co 40 (0, 0))))) ∨
  (S.length < 23 ∧ n = S.length ∧ hv = hdrOf (List.replicate 19 0) ∧ lv = 0 ∧ er = shortv m bo ae au n)
/-- what readHeader leaves -/
def HdrPost (w : World) (br : Nat) (S : List Int) (m : Int) (bo : Nat) (ae au : Addr) (e : Ending) (w' : World) : Prop :=
  ∃ (n : Nat) (hv : Value) (lv : Int) (er : Value), e = .returned (.tuple #[hv, .int .u32 lv, er]) ∧ Keep br w w' ∧ w'.cell? ⟨br, 1, none⟩ = some (.int .i64 (n : Int)) ∧ w'.cell? ⟨br, 4, none⟩ = some (.int .u8 m) ∧ HdrEnd w S m bo ae au n hv lv er w'

theorem info34 : (Ybaf.prog.info? 34).map (·.size) = some 19 := by kernel_rfl
theorem results5 (tmps : Array Value) (w : World) (g : Nat) (cs : Array Value) (h2 : tmps.getD 2 undef = .pointer (some ⟨g, 0, none⟩)) (hg : w.heap[g]? = some (.cells cs 34 (0, 0))) (hs : cs.size = 19) :
    (results Ybaf.f5 tmps).run Ybaf.prog w = .ok (.tuple #[.agg cs, tmps.getD 3 undef, tmps.getD 4 undef]) w := by
  have hp' : tmps[2]?.getD undef = .pointer (some ⟨g, 0, none⟩) := by simpa using h2
  simp [results, Ybaf.results5, hp', asAddr, run_loadVar_row w g 34 34 cs (0, 0) _ hg Ybaf.underlying34 rfl (by rw [info34, hs])]
abbrev Z19 : Array Value := #[.int .u8 0, .int .u8 0, .int .u8 0, .int .u8 0, .int .u8 0, .int .u8 0, .int .u8 0, .int .u8 0, .int .u8 0, .int .u8 0, .int .u8 0, .int .u8 0, .int .u8 0, .int .u8 0, .int .u8 0, .int .u8 0, .int .u8 0, .int .u8 0, .int .u8 0]
abbrev Z23 : Array Value := #[.int .u8 0, .int .u8 0, .int .u8 0, .int .u8 0, .int .u8 0, .int .u8 0, .int .u8 0, .int .u8 0, .int .u8 0, .int .u8 0, .int .u8 0, .int .u8 0, .int .u8 0, .int .u8 0, .int .u8 0, .int .u8 0, .int .u8 0, .int .u8 0, .int .u8 0, .int .u8 0, .int .u8 0, .int .u8 0, .int .u8 0]
theorem bufOf0 (S : List Int) : Z23 = (bufOf S 0).toArray := by
  unfold bufOf
  rw [List.take_zero]
  rfl
theorem buf_at (S : List Int) (j : Nat) (hj : j < 23) (hS : 23 ≤ S.length) : (bufOf S 23)[j]? = some (.int .u8 (S.getD j 0)) := by
  unfold bufOf
  rw [List.getElem?_map, List.getElem?_append_left (by rw [List.length_take]; omega), List.getElem?_take, if_pos hj, List.getElem?_eq_getElem (by omega), List.getD_eq_getElem?_getD, List.getElem?_eq_getElem (by omega)]
  rfl

theorem row19 (S : List Int) (h : 19 ≤ S.length) : ((S.take 19).map (Value.int .u8)).toArray.size = 19 := by simp; omega
theorem row19_one (S : List Int) : (((S.take 19).map (Value.int .u8)).toArray).all (·.oneCell') = true := by
  rw [Array.all_eq_true_iff_forall_mem]
  intro v hv
  obtain ⟨_, _, rfl⟩ := List.mem_map.1 (List.mem_toArray.1 hv)
  rfl
theorem take_split (S : List Int) (h : 23 ≤ S.length) : S.take 19 = S.take 16 ++ [S.getD 16 0, S.getD 17 0, S.getD 18 0] := by
  have e : S.take 19 = S.take 16 ++ (S.drop 16).take 3 := List.take_add (l := S) (i := 16) (j := 3)
  rw [e]
  congr 1
  apply List.ext_getElem
  · simp
    omega
  · intro j h1 h2
    have h3 : j = 0 ∨ j = 1 ∨ j = 2 := by simp at h2; omega
    rcases h3 with rfl | rfl | rfl
    · simp [List.getElem?_eq_getElem (by omega : 16 < S.length)]
    · simp [List.getElem?_eq_getElem (by omega : 17 < S.length)]
    · simp [List.getElem?_eq_getElem (by omega : 18 < S.length)]
abbrev Z16 (a b c : Int) : Array Value := #[.int .u8 0, .int .u8 0, .int .u8 0, .int .u8 0, .int .u8 0, .int .u8 0, .int .u8 0, .int .u8 0, .int .u8 0, .int .u8 0, .int .u8 0, .int .u8 0, .int .u8 0, .int .u8 0, .int .u8 0, .int .u8 0, .int .u8 a, .int .u8 b, .int .u8 c]

/-- copy(h.ID[:], b[:16]) -/
theorem cp_id (w2 : World) (bb : Nat) (S : List Int) (hS : 23 ≤ S.length) (hbf : w2.heap[bb]? = some (.cells (bufOf S 23).toArray 43 (0, 0))) (hlt : bb < w2.heap.size) (ty : TypeId) :
    (Builtin.copy_ #[22, 22] ty #[.slice (some ⟨w2.heap.size, 0, none⟩) 16 16, .slice (some ⟨bb, 0, none⟩) 16 23]).run Ybaf.prog (w2.alloc (.cells (Z16 (S.getD 16 0) (S.getD 17 0) (S.getD 18 0)) 34)).drew =
      .ok (.int .i64 16) (w2.alloc (.cells ((S.take 19).map (Value.int .u8)).toArray 34)).drew := by
  have hb : Below w2.heap.size w2 (w2.alloc (.cells (Z16 (S.getD 16 0) (S.getD 17 0) (S.getD 18 0)) 34)).drew := ((Below.refl _ w2).alloc (Nat.le_refl _) _).drew
  have hlen : ((S.take 16).map (Value.int .u8)).length = 16 := by simp; omega
  have := run_copy_row (P := Ybaf.prog) (w2.alloc (.cells (Z16 (S.getD 16 0) (S.getD 17 0) (S.getD 18 0)) 34)).drew 22 22 ty 5 w2.heap.size 0 16 16 ⟨bb, 0, none⟩ 16 23 _ 34 ((S.take 16).map (Value.int .u8)) Ybaf.underlying22 size5 (heap_alloc_new w2 _)
    (by rw [hlen]; rfl)
    (fun j v hv => by
      have hj : j < 16 := by
        rcases Nat.lt_or_ge j 16 with h' | h'
        · exact h'
        · rw [List.getElem?_eq_none (by rw [hlen]; exact h')] at hv; cases hv
      rw [Addr.add_lit, Nat.zero_add, hb.cell hlt, cell_of_row w2 bb j _ 43 (0, 0) hbf, List.getElem?_toArray, buf_at S j (by omega) hS, ← hv, List.getElem?_map, List.getElem?_take, if_pos hj, List.getElem?_eq_getElem (by omega), List.getD_eq_getElem?_getD, List.getElem?_eq_getElem (by omega)]
      rfl)
    (by rw [hlen]; exact (by decide : 0 + 16 ≤ 19)) (fun v hv => by obtain ⟨_, _, rfl⟩ := List.mem_map.1 hv; rfl)
  rw [hlen] at this
  rw [this]
  have e : ((Z16 (S.getD 16 0) (S.getD 17 0) (S.getD 18 0)).toList.take 0 ++ (S.take 16).map (Value.int .u8) ++ (Z16 (S.getD 16 0) (S.getD 17 0) (S.getD 18 0)).toList.drop (0 + 16)) = (S.take 19).map (Value.int .u8) := by
    rw [take_split S hS, List.map_append]
    rfl
  rw [e]
  have e2 := World.setRow_alloc_new w2 (Z16 (S.getD 16 0) (S.getD 17 0) (S.getD 18 0)) ((S.take 19).map (Value.int .u8)).toArray 34
  exact congrArg (Result.ok _) (congrArg World.drew e2)

/-- behind the copy: the header that was read lies in block hb -/
structure H3 (w : World) (br hb : Nat) (S : List Int) (m : Int) (W : World) : Prop where
  keep : Keep br w W
  res : ∃ old, W.heap[w.heap.size]? = some (.cells old 34 (0, 0)) ∧ old.size = 19
  hdr : W.heap[hb]? = some (.cells ((S.take 19).map (Value.int .u8)).toArray 34 (0, 0))
  c1 : W.cell? ⟨br, 1, none⟩ = some (.int .i64 23)
  c4 : W.cell? ⟨br, 4, none⟩ = some (.int .u8 m)
  ne : hb ≠ w.heap.size ∧ br < w.heap.size
theorem lt_of_block {w : World} {k : Nat} {o : Obj} (h : w.heap[k]? = some o) : k < w.heap.size := by
  rcases Nat.lt_or_ge k w.heap.size with h' | h'
  · exact h'
  · rw [Array.getElem?_eq_none h'] at h; cases h
theorem H3.below {w : World} {br hb : Nat} {S : List Int} {m : Int} {W W' : World} (h : H3 w br hb S m W) (hB : Below W.heap.size W W') : H3 w br hb S m W' where
  keep := h.keep.below (hB.mono h.keep.size)
  res := by obtain ⟨old, h1, h2⟩ := h.res; exact ⟨old, (hB.block _ (lt_of_block h1)).trans h1, h2⟩
  hdr := (hB.block _ (lt_of_block h.hdr)).trans h.hdr
  c1 := (hB.cell (World.block_lt_of_cell? _ _ h.c1)).trans h.c1
  c4 := (hB.cell (World.block_lt_of_cell? _ _ h.c4)).trans h.c4
  ne := h.ne
theorem H3.put {w : World} {br hb : Nat} {S : List Int} {m : Int} {W : World} (h : H3 w br hb S m W) (cs : Array Value) (hc : cs.size = 19) : H3 w br hb S m (W.setRow w.heap.size cs) where
  keep := h.keep.below ⟨rfl, rfl, rfl, by simp, fun k hk => setRow_other W _ k cs (by omega)⟩
  res := by obtain ⟨old, h1, _⟩ := h.res; exact ⟨cs, setRow_heap W _ _ _ 34 (0, 0) h1, hc⟩
  hdr := (setRow_other W _ hb cs h.ne.1).trans h.hdr
  c1 := (World.cell?_of_block (a := ⟨br, 1, none⟩) (setRow_other W _ br cs (by have := h.ne.2; omega))).trans h.c1
  c4 := (World.cell?_of_block (a := ⟨br, 4, none⟩) (setRow_other W _ br cs (by have := h.ne.2; omega))).trans h.c4
  ne := h.ne


theorem exec_load_row {P : Program} (ev : Operand → Value) (o : Oper) (ty : TypeId) (x : Operand) (ho : o.op = .load ty x) (w : World) (g : Nat) (hx : ev x = .pointer (some ⟨g, 0, none⟩)) (t : TypeId) (cs : Array Value) (fr : Nat × Nat) (d : TypeDesc) (hg : w.heap[g]? = some (.cells cs t fr))
    (hu : P.underlying ty = some d) (hd : (match d with | .struct _ | .array _ _ => true | _ => false) = true) (hi : (P.info? ty).map (·.size) = some cs.size) : (execOp ev o).run P w = .ok (.value (.agg cs)) w := by
  unfold execOp
  simp only [ho, hx, Instr.loadAt, Instr.sureAddr, Sem.run_bind, Sem.run_pure, Result.andThen_ok, run_loadVar_row w g t ty cs fr d hg hu hd hi]

/-- the one operation that may come up -/
theorem wpAnyH_one {P : Program} {ops : Array Oper} {Q : Exit → Act → World → Prop} {md : Region.Mode} {S : World → Prop} (i : Nat) {f : Nat} {L : Array Bool} {a : Act} {w : World} (hr : Region.ready md ops L = [i])
    (h : wpOp P ops Q i (fun a' w' => S w' ∧ wpAnyH P md ops Q S f (L.setIfInBounds i true) a' w') a w) : wpAnyH P md ops Q S (f + 1) L a w :=
  ⟨fun h0 => (by rw [hr] at h0; cases h0), fun j hj => (by rw [hr, List.mem_singleton] at hj; subst hj; exact h)⟩
/-- an operation without a guard, at its run -/
theorem wpOp_run {P : Program} {ops : Array Oper} {Q : Exit → Act → World → Prop} {i : Nat} {o : Oper} {K : Act → World → Prop} {a : Act} {w : World} (ho : ops[i]? = some o) (hg : o.guard = none) (h : o.wp P a w K Q) : wpOp P ops Q i K a w := by
  unfold wpOp
  simp only [ho]
  have : Region.wanted o (yielded ops a.tmps) = true := by simp [Region.wanted, hg]
  rw [if_pos this]
  exact Or.inl h
end Go.Proofs.YbulkdvoqFmt
