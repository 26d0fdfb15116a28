import Derived.Test.YbulkdvnaDoorRq
import Derived.OrdersHeld
import Derived.Deep.WholeRow
import Derived.LaidEqlPtr
namespace Go.Proofs.YbulkdvnaDoor
open Go Go.RowKit

theorem und32 : Ybad.prog.underlying 32 = some (.struct (Ybad.prog.fieldsOf 32)) := by kernel_rfl
theorem held32 : Ybad.prog.stoodInHeld 32 = false := by kernel_rfl
theorem guard32 : Ybad.prog.eqGuardType Ybad.prog.depth 32 = false := by kernel_rfl
theorem fields32 : (Ybad.prog.fieldsOf 32).toList.map (fun f => (f.name, f.type, f.offset)) = [("Scheme", 9, 0), ("Opaque", 9, 1), ("User", 30, 2), ("Host", 9, 3), ("Path", 9, 4), ("Fragment", 9, 5), ("RawQuery", 9, 6), ("RawPath", 9, 7), ("RawFragment", 9, 8), ("ForceQuery", 4, 9), ("OmitHost", 4, 10)] := by kernel_rfl
theorem und30 : Ybad.prog.underlying 30 = some (.pointer (Ybad.prog.pointee 30)) := by kernel_rfl
/-- one cell out of a struct's -/
theorem part_str (w : World) (xs : Array Value) (i : Nat) (v : Value) (h : xs[i]? = some v) : (part 9 xs i).run Ybad.prog w = .ok v w := by
  simp [part, isAgg, run_underlying Ybad.underlying9, h]
theorem part_bool (w : World) (xs : Array Value) (i : Nat) (v : Value) (h : xs[i]? = some v) : (part 4 xs i).run Ybad.prog w = .ok v w := by
  simp [part, isAgg, run_underlying Ybad.underlying4, h]
theorem part_ptr (w : World) (xs : Array Value) (i : Nat) (v : Value) (h : xs[i]? = some v) : (part 30 xs i).run Ybad.prog w = .ok v w := by
  simp [part, isAgg, run_underlying und30, h]
/-- one field more that is the same -/
theorem eqF_step (w : World) (d : Nat) (xs ys : Array Value) (n : String) (t o : Nat) (f : Field) (fs : List Field) (hn : f.name = n) (ht : f.type = t) (ho : f.offset = o) (hu : n ≠ "_") (v v' : Value)
    (p : (part t xs o).run Ybad.prog w = .ok v w) (p' : (part t ys o).run Ybad.prog w = .ok v' w) (e : (Op.equalIn d t v v').run Ybad.prog w = .ok true w)
    (h : (Op.eqFields d xs ys fs).run Ybad.prog w = .ok true w) : (Op.eqFields d xs ys (f :: fs)).run Ybad.prog w = .ok true w := by
  subst hn ht ho
  rw [Op.eqFields, if_pos hu, Sem.run_bind, p, Result.andThen_ok, Sem.run_bind, p', Result.andThen_ok, Sem.run_bind, e, Result.andThen_ok, if_neg (by decide)]
  exact h
theorem eq_s (w : World) (d : Nat) (a : ByteArray) : (Op.equalIn (d + 1) 9 (.string a) (.string a)).run Ybad.prog w = .ok true w := by
  rw [run_equalIn_string w d 9 a a Ybad.underlying9]
  simp
theorem eq_b (w : World) (d : Nat) (a : Bool) : (Op.equalIn (d + 1) 4 (.bool a) (.bool a)).run Ybad.prog w = .ok true w := by
  rw [run_equalIn_bool w d 4 a a Ybad.underlying4]
  simp
theorem eq_p (w : World) (d : Nat) : (Op.equalIn (d + 1) 30 (.pointer none) (.pointer none)).run Ybad.prog w = .ok true w := by
  rw [run_equalIn_pointer_nil w d 30 none und30]
  rfl
set_option maxHeartbeats 1000000 in
theorem url_eqF (w : World) (d : Nat) (sc ho pa fr rq : ByteArray) (fs : List Field) (hf : fs.map (fun f => (f.name, f.type, f.offset)) = [("Scheme", 9, 0), ("Opaque", 9, 1), ("User", 30, 2), ("Host", 9, 3), ("Path", 9, 4), ("Fragment", 9, 5), ("RawQuery", 9, 6), ("RawPath", 9, 7), ("RawFragment", 9, 8), ("ForceQuery", 4, 9), ("OmitHost", 4, 10)]) :
    (Op.eqFields (d + 1) (urlC sc ho pa fr rq) (urlC sc ho pa fr rq) fs).run Ybad.prog w = .ok true w := by
  obtain ⟨f0, fs, rfl, h0, hf⟩ := List.map_eq_cons_iff.1 hf
  obtain ⟨f1, fs, rfl, h1, hf⟩ := List.map_eq_cons_iff.1 hf
  obtain ⟨f2, fs, rfl, h2, hf⟩ := List.map_eq_cons_iff.1 hf
  obtain ⟨f3, fs, rfl, h3, hf⟩ := List.map_eq_cons_iff.1 hf
  obtain ⟨f4, fs, rfl, h4, hf⟩ := List.map_eq_cons_iff.1 hf
  obtain ⟨f5, fs, rfl, h5, hf⟩ := List.map_eq_cons_iff.1 hf
  obtain ⟨f6, fs, rfl, h6, hf⟩ := List.map_eq_cons_iff.1 hf
  obtain ⟨f7, fs, rfl, h7, hf⟩ := List.map_eq_cons_iff.1 hf
  obtain ⟨f8, fs, rfl, h8, hf⟩ := List.map_eq_cons_iff.1 hf
  obtain ⟨f9, fs, rfl, h9, hf⟩ := List.map_eq_cons_iff.1 hf
  obtain ⟨f10, fs, rfl, h10, hf⟩ := List.map_eq_cons_iff.1 hf
  obtain rfl := List.map_eq_nil_iff.1 hf
  simp only [Prod.mk.injEq] at h0 h1 h2 h3 h4 h5 h6 h7 h8 h9 h10
  refine eqF_step w _ _ _ _ _ _ _ _ h0.1 h0.2.1 h0.2.2 (by decide) _ _ (part_str w _ _ _ rfl) (part_str w _ _ _ rfl) (eq_s w d _) ?_
  refine eqF_step w _ _ _ _ _ _ _ _ h1.1 h1.2.1 h1.2.2 (by decide) _ _ (part_str w _ _ _ rfl) (part_str w _ _ _ rfl) (eq_s w d _) ?_
  refine eqF_step w _ _ _ _ _ _ _ _ h2.1 h2.2.1 h2.2.2 (by decide) _ _ (part_ptr w _ _ _ rfl) (part_ptr w _ _ _ rfl) (eq_p w d) ?_
  refine eqF_step w _ _ _ _ _ _ _ _ h3.1 h3.2.1 h3.2.2 (by decide) _ _ (part_str w _ _ _ rfl) (part_str w _ _ _ rfl) (eq_s w d _) ?_
  refine eqF_step w _ _ _ _ _ _ _ _ h4.1 h4.2.1 h4.2.2 (by decide) _ _ (part_str w _ _ _ rfl) (part_str w _ _ _ rfl) (eq_s w d _) ?_
  refine eqF_step w _ _ _ _ _ _ _ _ h5.1 h5.2.1 h5.2.2 (by decide) _ _ (part_str w _ _ _ rfl) (part_str w _ _ _ rfl) (eq_s w d _) ?_
  refine eqF_step w _ _ _ _ _ _ _ _ h6.1 h6.2.1 h6.2.2 (by decide) _ _ (part_str w _ _ _ rfl) (part_str w _ _ _ rfl) (eq_s w d _) ?_
  refine eqF_step w _ _ _ _ _ _ _ _ h7.1 h7.2.1 h7.2.2 (by decide) _ _ (part_str w _ _ _ rfl) (part_str w _ _ _ rfl) (eq_s w d _) ?_
  refine eqF_step w _ _ _ _ _ _ _ _ h8.1 h8.2.1 h8.2.2 (by decide) _ _ (part_str w _ _ _ rfl) (part_str w _ _ _ rfl) (eq_s w d _) ?_
  refine eqF_step w _ _ _ _ _ _ _ _ h9.1 h9.2.1 h9.2.2 (by decide) _ _ (part_bool w _ _ _ rfl) (part_bool w _ _ _ rfl) (eq_b w d _) ?_
  refine eqF_step w _ _ _ _ _ _ _ _ h10.1 h10.2.1 h10.2.2 (by decide) _ _ (part_bool w _ _ _ rfl) (part_bool w _ _ _ rfl) (eq_b w d _) ?_
  rw [Op.eqFields, Sem.run_pure]
theorem url_sameIn (w : World) (d : Nat) (sc ho pa fr rq : ByteArray) : (Op.equalIn (d + 2) 32 (.agg (urlC sc ho pa fr rq)) (.agg (urlC sc ho pa fr rq))).run Ybad.prog w = .ok true w := by
  rw [run_equalIn_agg w (d + 1) 32 _ _ und32 held32]
  exact url_eqF w d sc ho pa fr rq _ fields32
theorem url_neq (w : World) (sc ho pa fr rq : ByteArray) : (binOp .neq 32 (.agg (urlC sc ho pa fr rq)) (.agg (urlC sc ho pa fr rq))).run Ybad.prog w = .ok (.bool false) w := by
  simp only [binOp]
  simp [Op.equal, Op.maxDepth, url_sameIn w 9998 sc ho pa fr rq]
theorem url_eql (w : World) (sc ho pa fr rq : ByteArray) : (binOp .eql 32 (.agg (urlC sc ho pa fr rq)) (.agg (urlC sc ho pa fr rq))).run Ybad.prog w = .ok (.bool true) w := by
  simp only [binOp]
  simp [Op.equal, Op.maxDepth, url_sameIn w 9998 sc ho pa fr rq]
/-- a comparison, by its run -/
theorem wpList_bin {P : Program} {w : World} {ops : Array Oper} {rest : List Oper} {o : Oper} {a : Act} {Q : Exit → Act → World → Prop} (hgd : o.guard = none) (op : BinOp) (t t' : TypeId) (x y : Operand)
    (ho : o.op = .binOp op t x y t') {vx vy v : Value} (hx : a.eval x = vx) (hy : a.eval y = vy) (hg : (eqGuard op t x y vx vy).run P w = .ok () w) (hr : (binOp op t vx vy).run P w = .ok v w)
    (h : wpList P ops Q rest (a.put o.dst v) w) : wpList P ops Q (o :: rest) a w :=
  wpList_plain hgd fun _ hK => by
    unfold Oper.wp execOp
    simp only [ho, hx, hy, Sem.run_bind, hg, hr, Result.andThen_ok, Sem.run_pure]
    exact hK _ _ h
theorem wpAnyH_one {P : Program} {ops : Array Oper} {Q : Exit → Act → World → Prop} {md : Region.Mode} {S : World → Prop} (i : Nat) {f : Nat} {L : Array Bool} {a : Act} {w : World} (hr : Region.ready md ops L = [i])
    (h : wpOp P ops Q i (fun a' w' => S w' ∧ wpAnyH P md ops Q S f (L.setIfInBounds i true) a' w') a w) : wpAnyH P md ops Q S (f + 1) L a w :=
  ⟨fun h0 => (by rw [hr] at h0; cases h0), fun j hj => (by rw [hr, List.mem_singleton] at hj; subst hj; exact h)⟩
/-- an operation without a guard, at its run -/
theorem wpOp_run {P : Program} {ops : Array Oper} {Q : Exit → Act → World → Prop} {i : Nat} {o : Oper} {K : Act → World → Prop} {a : Act} {w : World} (ho : ops[i]? = some o) (hg : o.guard = none) (h : o.wp P a w K Q) : wpOp P ops Q i K a w := by
  unfold wpOp
  simp only [ho]
  have : Region.wanted o (yielded ops a.tmps) = true := by simp [Region.wanted, hg]
  rw [if_pos this]
  exact Or.inl h
/-- append, at its run -/
theorem oper_app {P : Program} {w : World} {o : Oper} {a : Act} {K : Act → World → Prop} {Q : Exit → Act → World → Prop} (s x : Operand) (t u ty : TypeId)
    (ho : o.op = .call { callee := .builtin .append, args := #[s, x], argTypes := #[t, u] }) (hty : o.type = ty) {v vx v' : Value} {w' : World} (hs : a.eval s = v) (hx : a.eval x = vx)
    (hr : (Builtin.append_ #[t, u] ty #[v, vx]).run P w = .ok v' w') (h : K (a.put o.dst v') w') : o.wp P a w K Q := by
  unfold Oper.wp execOp
  simp only [ho, hty, resolve, invoke, builtin, Sem.run_bind, Sem.run_pure, Result.andThen_ok, List.map_toArray, List.map_cons, List.map_nil, hs, hx, hr]
  exact h
theorem exec_load_row {P : Program} (ev : Operand → Value) (o : Oper) (ty : TypeId) (x : Operand) (ho : o.op = .load ty x) (w : World) (g : Nat) (hx : ev x = .pointer (some ⟨g, 0, none⟩)) (t : TypeId) (cs : Array Value) (fr : Nat × Nat) (d : TypeDesc) (hg : w.heap[g]? = some (.cells cs t fr))
    (hu : P.underlying ty = some d) (hd : (match d with | .struct _ | .array _ _ => true | _ => false) = true) (hi : (P.info? ty).map (·.size) = some cs.size) : (execOp ev o).run P w = .ok (.value (.agg cs)) w := by
  unfold execOp
  simp only [ho, hx, Instr.loadAt, Instr.sureAddr, Sem.run_bind, Sem.run_pure, Result.andThen_ok, run_loadVar_row w g t ty cs fr d hg hu hd hi]
theorem exec_bin {P : Program} (ev : Operand → Value) (o : Oper) (op : BinOp) (t t' : TypeId) (x y : Operand) (ho : o.op = .binOp op t x y t') (w : World) {vx vy v : Value} (hx : ev x = vx) (hy : ev y = vy) (hg : (eqGuard op t x y vx vy).run P w = .ok () w)
    (hr : (binOp op t vx vy).run P w = .ok v w) : (execOp ev o).run P w = .ok (.value v) w := by
  unfold execOp
  simp only [ho, hx, hy, Sem.run_bind, hg, hr, Result.andThen_ok, Sem.run_pure]
theorem und28 : Ybad.prog.underlying 28 = some (.pointer 32) := by kernel_rfl
theorem ptr_ne (w : World) (a b : Nat) (sc ho pa fr rq sc' ho' pa' fr' rq' : ByteArray) (h : UrlAt w a sc ho pa fr rq) (h' : UrlAt w b sc' ho' pa' fr' rq') (hne : a ≠ b) :
    (binOp .eql 28 (.pointer (some ⟨a, 0, none⟩)) (.pointer (some ⟨b, 0, none⟩))).run Ybad.prog w = .ok (.bool false) w := by
  obtain ⟨j, hj, hs⟩ : ∃ j, Ybad.prog.info? 32 = some j ∧ j.size = 11 := by
    have := info32
    cases hi : Ybad.prog.info? 32 with
    | none => rw [hi] at this; cases this
    | some j => rw [hi] at this; exact ⟨j, rfl, by simpa using this⟩
  exact run_eql_ptr_other w und28 hj (by rw [hs]; decide) (fun e => hne (by injection e)) h h'
theorem info26 : (Ybad.prog.info? 26).map (·.size) = some 3 := by kernel_rfl
/-- the schemes -/
def schB : Nat → ByteArray
  | 0 => ⟨#[104, 116, 116, 112, 115]⟩
  | 1 => ⟨#[104, 116, 116, 112]⟩
  | _ => ⟨#[]⟩
abbrev sch3 : Array Value := #[.string ⟨#[104, 116, 116, 112, 115]⟩, .string ⟨#[104, 116, 116, 112]⟩, .string ⟨#[]⟩]
abbrev key3 : Array Value := #[.string ⟨#[99, 97]⟩, .string ⟨#[101, 110, 99, 111, 100, 105, 110, 103]⟩, .string ⟨#[102, 109, 115, 112, 99]⟩]
def SchIn (w : World) (b : Nat) : Prop := ∀ j, j < 3 → w.cell? ⟨b, j, none⟩ = some (.string (schB j))
def KeyIn (w : World) (b : Nat) : Prop := ∀ j, j < 3 → w.cell? ⟨b, j, none⟩ = some (.string (keyB j))
theorem SchIn.of {w : World} {b : Nat} (h : w.heap[b]? = some (.cells sch3 26 (0, 0))) : SchIn w b := fun j hj => by
  rw [cell_of_row w b j _ 26 (0, 0) h]
  match j, hj with
  | 0, _ => rfl
  | 1, _ => rfl
  | 2, _ => rfl
theorem KeyIn.of {w : World} {b : Nat} (h : w.heap[b]? = some (.cells key3 26 (0, 0))) : KeyIn w b := fun j hj => by
  rw [cell_of_row w b j _ 26 (0, 0) h]
  match j, hj with
  | 0, _ => rfl
  | 1, _ => rfl
  | 2, _ => rfl
theorem SchIn.below {w w' : World} {b : Nat} (h : SchIn w b) (hb : Below w.heap.size w w') : SchIn w' b := fun j hj => (hb.cell (World.block_lt_of_cell? _ _ (h j hj))).trans (h j hj)
theorem KeyIn.below {w w' : World} {b : Nat} (h : KeyIn w b) (hb : Below w.heap.size w w') : KeyIn w' b := fun j hj => (hb.cell (World.block_lt_of_cell? _ _ (h j hj))).trans (h j hj)
/-- the pairs -/
def PairsIn (w : World) (p : Option Addr) (ps : List (Nat × ByteArray)) : Prop := 0 < ps.length → ∃ b o, p = some ⟨b, o, none⟩ ∧ ∀ j (h : j < ps.length), w.cell? ⟨b, o + j * 2, none⟩ = some (.int .u8 ((ps[j].1 : Nat) : Int)) ∧ w.cell? ⟨b, o + j * 2 + 1, none⟩ = some (.string ps[j].2)
theorem PairsIn.below {w w' : World} {p : Option Addr} {l : List (Nat × ByteArray)} (h : PairsIn w p l) (hb : Below w.heap.size w w') : PairsIn w' p l := fun hn => by
  obtain ⟨b, o, rfl, hc⟩ := h hn
  exact ⟨b, o, rfl, fun j hj => ⟨(hb.cell (World.block_lt_of_cell? _ _ (hc j hj).1)).trans (hc j hj).1, (hb.cell (World.block_lt_of_cell? _ _ (hc j hj).2)).trans (hc j hj).2⟩⟩
end Go.Proofs.YbulkdvnaDoor
