import Derived.Test.YbulkdvoqFmtApp
import Derived.Stop.BytesEq
namespace Go.Proofs.YbulkdvoqFmt
open Go Go.RowKit

/-- errors.New -/
theorem new_any (s : ByteArray) (w : World) : Calls Ybaf.prog 4 #[.string s] w fun e w' => e = .returned (.iface 38 (.pointer (some ⟨w.heap.size, 0, none⟩))) ∧ w' = w.alloc (.cells #[.string s] 40) := by
  go_enter Ybaf.func4, Ybaf.ntmps4
  go_wp2
  go_ret
  exact ⟨rfl, rfl⟩

/-- the array id lies in block b -/
def IdIn (w : World) (b : Nat) (id : List Int) : Prop := id.length = 16 ∧ (∀ x ∈ id, 0 ≤ x ∧ x < 256) ∧ w.heap[b]? = some (.cells (vals id).toArray 24 (0, 0))
theorem IdIn.below {w w' : World} {b B : Nat} {id : List Int} (h : IdIn w b id) (hb : Below B w w') (hB : b < B) : IdIn w' b id := ⟨h.1, h.2.1, (hb.block b hB).trans h.2.2⟩
theorem IdIn.cell {w : World} {b : Nat} {id : List Int} (h : IdIn w b id) (j : Nat) (hj : j < 16) : w.cell? ⟨b, j, none⟩ = some (.int .u8 (id.getD j 0)) := by
  rw [cell_of_row w b j _ 24 (0, 0) h.2.2, List.getElem?_toArray]
  exact vals_get id j (by rw [h.1]; exact hj)
theorem IdIn.thaw {w : World} {b : Nat} {id : List Int} (h : IdIn w b id) (j : Nat) : w.frozen? ⟨b, j, none⟩ = false := by simp [World.frozen?, h.2.2]
theorem IdIn.set {w : World} {b : Nat} {id : List Int} (h : IdIn w b id) (j : Nat) (v : Int) (hv : 0 ≤ v ∧ v < 256) : IdIn (w.setCell ⟨b, j, none⟩ (.int .u8 v)) b (id.set j v) := by
  refine ⟨by rw [List.length_set]; exact h.1, fun x hx => ?_, ?_⟩
  · rcases List.mem_or_eq_of_mem_set hx with h1 | h1
    · exact h.2.1 x h1
    · rw [h1]; exact hv
  · rw [heap_setCell_same w b j _ 24 (.int .u8 v) h.2.2, List.setIfInBounds_toArray]
    unfold vals
    rw [List.map_set]
theorem IdIn.start (w : World) : IdIn (w.alloc (.cells #[.int .u8 0, .int .u8 0, .int .u8 0, .int .u8 0, .int .u8 0, .int .u8 0, .int .u8 0, .int .u8 0, .int .u8 0, .int .u8 0, .int .u8 0, .int .u8 0, .int .u8 0, .int .u8 0, .int .u8 0, .int .u8 0] 24)) w.heap.size (List.replicate 16 0) :=
  ⟨rfl, fun x hx => by rw [List.eq_of_mem_replicate hx]; omega, heap_alloc_new w _⟩

/-- a header held against itself -/
theorem part_at {e : TypeId} (he : Ybaf.prog.underlying e = some (.int .u8)) (w : World) (l : List Int) (i : Nat) (hi : i < l.length) : (part e (vals l).toArray i).run Ybaf.prog w = .ok (.int .u8 (l.getD i 0)) w := by
  simp [part, isAgg, run_underlying he, vals_get l i hi]
theorem size_id (w : World) : (Go.sizeOf 24).run Ybaf.prog w = .ok 16 w := by kernel_rfl
theorem part_arr (w : World) (l : List Int) : (part 24 (vals l).toArray 0).run Ybaf.prog w = .ok (.agg (vals (l.take 16)).toArray) w := by
  simp [part, isAgg, run_underlying Ybaf.underlying24, vals]
theorem size_u8 (w : World) : (Go.sizeOf 5).run Ybaf.prog w = .ok 1 w := by kernel_rfl
theorem size_ty (w : World) : (Go.sizeOf 32).run Ybaf.prog w = .ok 1 w := by kernel_rfl
theorem arr_same (w : World) (d : Nat) (l : List Int) (hl : l.length = 16) : (Op.equalIn (d + 2) 24 (.agg (vals l).toArray) (.agg (vals l).toArray)).run Ybaf.prog w = .ok true w := by
  rw [Op.equalIn]
  simp only [Sem.run_bind, run_underlying Ybaf.underlying24, Result.andThen_ok, size_u8, Std.Legacy.Range.forIn_eq_forIn_range', Std.Legacy.Range.size, Nat.sub_zero, Nat.add_sub_cancel, Nat.div_one]
  have hr : ∀ i ∈ List.range' 0 16 1, i < 16 := fun i hi => by simpa using (List.mem_range'_1.1 hi).2
  generalize List.range' 0 16 1 = r at hr ⊢
  induction r with
  | nil => simp
  | cons i r ih =>
    have hi : i < 16 := hr i (by simp)
    have px := part_at Ybaf.underlying5 w l (i * 1) (by omega)
    have pe : (Op.equalIn (d + 1) 5 (.int .u8 (l.getD (i * 1) 0)) (.int .u8 (l.getD (i * 1) 0))).run Ybaf.prog w = .ok true w := by
      rw [run_equalIn_int w d 5 .u8 .u8 _ _ Ybaf.underlying5]
      simp
    simp only [List.forIn_cons, Sem.run_bind, px, pe, Result.andThen_ok, Bool.not_true, Bool.false_eq_true, if_false, Sem.run_pure]
    exact ih fun j hj => hr j (by simp [hj])
theorem und34 : Ybaf.prog.underlying 34 = some (.struct (Ybaf.prog.fieldsOf 34)) := by kernel_rfl
theorem held34 : Ybaf.prog.stoodInHeld 34 = false := by kernel_rfl
theorem fields34 : (Ybaf.prog.fieldsOf 34).toList.map (fun f => (f.name, f.type, f.offset)) = [("ID", 24, 0), ("Type", 32, 16), ("TTL", 5, 17), ("Hops", 5, 18)] := by kernel_rfl
set_option maxHeartbeats 400000 in
theorem eqF (w : World) (d : Nat) (l : List Int) (hl : l.length = 19) (fs : List Field) (hf : fs.map (fun f => (f.name, f.type, f.offset)) = [("ID", 24, 0), ("Type", 32, 16), ("TTL", 5, 17), ("Hops", 5, 18)]) :
    (Op.eqFields (d + 2) (vals l).toArray (vals l).toArray fs).run Ybaf.prog w = .ok true w := by
  obtain ⟨f0, fs0, rfl, h0, hf⟩ := List.map_eq_cons_iff.1 hf
  obtain ⟨f1, fs1, rfl, h1, hf⟩ := List.map_eq_cons_iff.1 hf
  obtain ⟨f2, fs2, rfl, h2, hf⟩ := List.map_eq_cons_iff.1 hf
  obtain ⟨f3, fs3, rfl, h3, hf⟩ := List.map_eq_cons_iff.1 hf
  obtain rfl := List.map_eq_nil_iff.1 hf
  simp only [Prod.mk.injEq] at h0 h1 h2 h3
  obtain ⟨n0, t0, o0⟩ := h0
  obtain ⟨n1, t1, o1⟩ := h1
  obtain ⟨n2, t2, o2⟩ := h2
  obtain ⟨n3, t3, o3⟩ := h3
  have p0 := part_arr w l
  have e0 := arr_same w d (l.take 16) (by rw [List.length_take]; omega)
  have p1 := part_at Ybaf.underlying32 w l 16 (by omega)
  have p2 := part_at Ybaf.underlying5 w l 17 (by omega)
  have p3 := part_at Ybaf.underlying5 w l 18 (by omega)
  have e1 : ∀ x, (Op.equalIn (d + 2) 32 (.int .u8 x) (.int .u8 x)).run Ybaf.prog w = .ok true w := fun x => by
    rw [run_equalIn_int w (d + 1) 32 .u8 .u8 _ _ Ybaf.underlying32]
    simp
  have e2 : ∀ x, (Op.equalIn (d + 2) 5 (.int .u8 x) (.int .u8 x)).run Ybaf.prog w = .ok true w := fun x => by
    rw [run_equalIn_int w (d + 1) 5 .u8 .u8 _ _ Ybaf.underlying5]
    simp
  have m0 : f0.name ≠ "_" := by rw [n0]; decide
  have m1 : f1.name ≠ "_" := by rw [n1]; decide
  have m2 : f2.name ≠ "_" := by rw [n2]; decide
  have m3 : f3.name ≠ "_" := by rw [n3]; decide
  rw [Op.eqFields, if_pos m0, t0, o0, Sem.run_bind, p0, Result.andThen_ok, Sem.run_bind, p0, Result.andThen_ok, Sem.run_bind, e0, Result.andThen_ok, if_neg (by decide)]
  rw [Op.eqFields, if_pos m1, t1, o1, Sem.run_bind, p1, Result.andThen_ok, Sem.run_bind, p1, Result.andThen_ok, Sem.run_bind, e1, Result.andThen_ok, if_neg (by decide)]
  rw [Op.eqFields, if_pos m2, t2, o2, Sem.run_bind, p2, Result.andThen_ok, Sem.run_bind, p2, Result.andThen_ok, Sem.run_bind, e2, Result.andThen_ok, if_neg (by decide)]
  rw [Op.eqFields, if_pos m3, t3, o3, Sem.run_bind, p3, Result.andThen_ok, Sem.run_bind, p3, Result.andThen_ok, Sem.run_bind, e2, Result.andThen_ok, if_neg (by decide)]
  rw [Op.eqFields, Sem.run_pure]
theorem hdr_sameIn (w : World) (d : Nat) (l : List Int) (hl : l.length = 19) : (Op.equalIn (d + 3) 34 (.agg (vals l).toArray) (.agg (vals l).toArray)).run Ybaf.prog w = .ok true w := by
  rw [run_equalIn_agg w (d + 2) 34 _ _ und34 held34]
  exact eqF w d l hl _ fields34
theorem hdr_same (w : World) (l : List Int) (hl : l.length = 19) : (binOp .neq 34 (.agg (vals l).toArray) (.agg (vals l).toArray)).run Ybaf.prog w = .ok (.bool false) w := by
  simp only [binOp]
  simp [Op.equal, Op.maxDepth, hdr_sameIn w 9997 l hl]
theorem guard34 : Ybaf.prog.eqGuardType Ybaf.prog.depth 34 = false := by kernel_rfl
/-- a comparison, by its run -/
theorem wpList_bin {P : Program} {w : World} {ops : Array Oper} {rest : List Oper} {o : Oper} {a : Act} {Q : Exit → Act → World → Prop} (hgd : o.guard = none) (op : BinOp) (t t' : TypeId) (x y : Operand)
    (ho : o.op = .binOp op t x y t') {vx vy v : Value} (hx : a.eval x = vx) (hy : a.eval y = vy) (hg : (eqGuard op t x y vx vy).run P w = .ok () w) (hr : (binOp op t vx vy).run P w = .ok v w)
    (h : wpList P ops Q rest (a.put o.dst v) w) : wpList P ops Q (o :: rest) a w :=
  wpList_plain hgd fun _ hK => by
    unfold Oper.wp execOp
    simp only [ho, hx, hy, Sem.run_bind, hg, hr, Result.andThen_ok, Sem.run_pure]
    exact hK _ _ h
end Go.Proofs.YbulkdvoqFmt
