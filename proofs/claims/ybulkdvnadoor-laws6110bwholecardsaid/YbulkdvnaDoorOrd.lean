import Derived.OrdersHeld
import Derived.WalkKit
import Derived.Test.YbulkdvnaDoorProg
/-! A region whose last operation, number s, stores into a cell that an earlier operation loads: S holds behind every operation but s, and s waits for every load that is taken first. -/
namespace Go.Proofs.YbulkdvnaDoor.Ord
open Go
variable {P : Program} {ops : Array Oper} {Q : Exit → Act → World → Prop} {md : Region.Mode} {S : World → Prop} {s : Nat}

/-- whatever order is picked from here on; S holds behind every operation that is carried out but number s -/
def wpT (P : Program) (md : Region.Mode) (ops : Array Oper) (Q : Exit → Act → World → Prop) (S : World → Prop) (s : Nat) : Nat → Array Bool → Act → World → Prop
  | 0, L, a, w => Region.ready md ops L = [] ∧ Q .normal a w
  | f + 1, L, a, w => (Region.ready md ops L = [] → Q .normal a w) ∧
      ∀ i ∈ Region.ready md ops L, wpOp P ops Q i (fun a' w' => (i ≠ s → S w') ∧ wpT P md ops Q S s f (L.setIfInBounds i true) a' w') a w

theorem wpT_any : ∀ (f : Nat) (L : Array Bool) (a : Act) (w : World), wpT P md ops Q S s f L a w → wpAny P md ops Q f L a w
  | 0, _, _, _, h => h
  | f + 1, _, _, _, h => ⟨h.1, fun i hi => wpOp_mono (fun a' w' h' => wpT_any f _ a' w' h'.2) (h.2 i hi)⟩

theorem wpT_first {i : Nat} {oi : Oper} {v : Value} (hi : ops[i]? = some oi) (hsel : ∀ (j : Nat) (o : Oper) cs b, ops[j]? = some o → o.op ≠ .select cs b)
    (hQ : ∀ c a w, Q (.panic c) (a.put oi.dst v) w → Q (.panic c) a w)
    (hs : ∀ o, ops[s]? = some o → ∃ e ∈ o.after, Region.binds md e = true ∧ e.on = i) :
    ∀ (f : Nat) (L : Array Bool) (a : Act) (w : World),
      (∀ j oj, ops[j]? = some oj → j ≠ i → L.getD j true = false → (∀ e ∈ oj.after, Region.binds md e = true → e.on ≠ i) → oi.apart ops oj = true) →
      i ∈ Region.ready md ops L → YieldsIf P ops S oi v a → S w → i ≠ s →
      wpT P md ops Q S s f (L.setIfInBounds i true) (a.put oi.dst v) w → wpT P md ops Q S s (f + 1) L a w := by
  intro f
  induction f with
  | zero =>
    intro L a w _ hr hy hS his H
    refine ⟨fun h => (by rw [h] at hr; cases hr), fun j hj => ?_⟩
    by_cases hji : j = i
    · subst hji
      exact hy.wpOp hi hS ⟨fun _ => hS, H⟩
    · have := ready_mono hj hji
      rw [H.1] at this
      cases this
  | succ f ih =>
    intro L a w hfree hr hy hS his H
    refine ⟨fun h => (by rw [h] at hr; cases hr), fun j hj => ?_⟩
    by_cases hji : j = i
    · subst hji
      exact hy.wpOp hi hS ⟨fun _ => hS, H⟩
    · have h1 := H.2 j (ready_mono hj hji)
      obtain ⟨hjun, oj, hoj, hall⟩ := mem_ready.1 hj
      have hun : L.getD i true = false := (mem_ready.1 hr).1
      have hnot : ∀ e ∈ oj.after, Region.binds md e = true → e.on ≠ i := fun e he hb heq => by
        have h1 := hall e he hb
        rw [heq] at h1
        rcases Nat.lt_or_ge i L.size with h' | h'
        · simp [h'] at hun h1
          rw [hun] at h1
          cases h1
        · simp [Array.getElem?_eq_none h'] at h1
      have hjs : j ≠ s := by
        rintro rfl
        obtain ⟨e, he, hb, hon⟩ := hs oj hoj
        exact hnot e he hb hon
      have h2 := wpOp_putIf hoj (hfree j oj hoj hji hjun hnot) (fun cs b => hsel i oi cs b hi) (fun cs b => hsel j oj cs b hoj) hQ hy h1
      have hfree' : ∀ k ok, ops[k]? = some ok → k ≠ i → (L.setIfInBounds j true).getD k true = false →
          (∀ e ∈ ok.after, Region.binds md e = true → e.on ≠ i) → oi.apart ops ok = true := fun k ok hk hki hun hno => by
        refine hfree k ok hk hki ?_ hno
        by_cases hjk : j = k
        · subst hjk
          exact hjun
        · rw [getD_set_ne true hjk] at hun
          exact hun
      refine wpOp_mono (fun a' w' h3 => ⟨fun _ => h3.2.1 hjs, ih (L.setIfInBounds j true) a' w' hfree' (ready_mono hr (Ne.symm hji)) h3.1 (h3.2.1 hjs) his ?_⟩) h2
      rw [Array.setIfInBounds_comm _ _ hji]
      exact h3.2.2

/-- number s waits for number i -/
def waits (md : Region.Mode) (ops : Array Oper) (s i : Nat) : Bool := match ops[s]? with
  | some o => o.after.any fun e => Region.binds md e && e.on == i
  | none => true

theorem wpT_take (i : Nat) {oi : Oper} {v : Value} {f : Nat} {L : Array Bool} {a : Act} {w : World} (hi : ops[i]? = some oi)
    (hs : Region.noSelect ops = true) (hw : waits md ops s i = true) (his : (i != s) = true) (hf : Region.free md ops L i = true) (hr : (Region.ready md ops L).contains i = true)
    (hQ : ∀ c a w, Q (.panic c) (a.put oi.dst v) w → Q (.panic c) a w) (hy : YieldsIf P ops S oi v a) (hS : S w)
    (h : wpT P md ops Q S s f (L.setIfInBounds i true) (a.put oi.dst v) w) : wpT P md ops Q S s (f + 1) L a w := by
  refine wpT_first hi (Region.noSelect_spec hs) hQ ?_ f L a w (Region.free_spec hi hf) (by simpa using hr) hy hS (by simpa using his) h
  intro o ho
  unfold waits at hw
  rw [ho] at hw
  simp only [Array.any_eq_true', Bool.and_eq_true, beq_iff_eq] at hw
  exact hw

theorem wpT_one (i : Nat) {f : Nat} {L : Array Bool} {a : Act} {w : World} (hr : Region.ready md ops L = [i])
    (h : wpOp P ops Q i (fun a' w' => (i ≠ s → S w') ∧ wpT P md ops Q S s f (L.setIfInBounds i true) a' w') a w) : wpT P md ops Q S s (f + 1) L a w :=
  ⟨fun h0 => (by rw [hr] at h0; cases h0), fun j hj => (by rw [hr, List.mem_singleton] at hj; subst hj; exact h)⟩

theorem wpT_done {L : Array Bool} {a : Act} {w : World} (hr : Region.ready md ops L = []) (h : Q .normal a w) : ∀ f, wpT P md ops Q S s f L a w
  | 0 => ⟨hr, h⟩
  | _ + 1 => ⟨fun _ => h, by rw [hr]; simp⟩

theorem wp_region_T (S : World → Prop) (s : Nat) {id : Nat} {a : Act} {w : World} (hm : P.follows .mixedOrders = true)
    (h : wpT P .any ops Q S s ops.size (Array.replicate ops.size false) a w.drew) : (Code.region id ops true).wp P Q a w :=
  wp_region_any hm (wpT_any _ _ _ _ h)

/-- an operation without a guard, at its run -/
theorem wpOp_run {i : Nat} {o : Oper} {K : Act → World → Prop} {a : Act} {w : World} (ho : ops[i]? = some o) (hg : o.guard = none) (h : o.wp P a w K Q) : wpOp P ops Q i K a w := by
  unfold wpOp
  simp only [ho]
  have : Region.wanted o (yielded ops a.tmps) = true := by simp [Region.wanted, hg]
  rw [if_pos this]
  exact Or.inl h
end Go.Proofs.YbulkdvnaDoor.Ord
