import Derived.Test.YbulkdvnaDoorPcs
import Derived.Lib.CleanSame
import Derived.Shelf.Strings.Prefix
namespace Go.Proofs.YbulkdvnaDoor
open Go Go.Lib

theorem els_app : ∀ (a b : List UInt8), Pa.els (a ++ 47 :: b) = Pa.els a ++ Pa.els b
  | [], b => by
    have e : Pa.els (47 :: b) = [] :: Pa.els b := by rw [Pa.els, if_pos rfl]
    rw [List.nil_append, e]
    rfl
  | c :: t, b => by
    have ih := els_app t b
    by_cases hc : c = 47
    · show Pa.els (c :: (t ++ 47 :: b)) = _
      rw [Pa.els, if_pos hc, ih, Pa.els, if_pos hc]
      rfl
    · show Pa.els (c :: (t ++ 47 :: b)) = _
      obtain ⟨e, r, he⟩ : ∃ e r, Pa.els t = e :: r := by
        cases h : Pa.els t with
        | nil => exact absurd h (els_ne t)
        | cons e r => exact ⟨e, r, rfl⟩
      rw [Pa.els, if_neg hc, ih, Pa.els, if_neg hc, he]
      rfl
theorem pcs_app (a b : List UInt8) : pcs (a ++ 47 :: b) = pcs a ++ pcs b := by
  unfold pcs
  rw [els_app, List.filter_append]
theorem pcs_cons (a : List UInt8) : pcs (47 :: a) = pcs a := by
  have := pcs_app [] a
  rw [List.nil_append] at this
  rw [this]
  rfl
theorem els_mem : ∀ (l : List UInt8) (e : List UInt8), e ∈ Pa.els l → ∀ c ∈ e, c ∈ l
  | [], e, he, c, hc => by
    have : e = [] := by simpa [Pa.els] using he
    rw [this] at hc
    cases hc
  | x :: t, e, he, c, hc => by
    rw [Pa.els] at he
    by_cases hx : x = 47
    · rw [if_pos hx] at he
      rcases List.mem_cons.1 he with h | h
      · rw [h] at hc
        cases hc
      · exact List.mem_cons_of_mem _ (els_mem t e h c hc)
    · rw [if_neg hx] at he
      obtain ⟨e0, r, hr⟩ : ∃ e r, Pa.els t = e :: r := by
        cases h : Pa.els t with
        | nil => exact absurd h (els_ne t)
        | cons e r => exact ⟨e, r, rfl⟩
      rw [hr] at he
      rcases List.mem_cons.1 he with h | h
      · rw [h] at hc
        rcases List.mem_cons.1 hc with h1 | h1
        · rw [h1]; exact List.mem_cons_self
        · exact List.mem_cons_of_mem _ (els_mem t e0 (by rw [hr]; exact List.mem_cons_self) c h1)
      · exact List.mem_cons_of_mem _ (els_mem t e (by rw [hr]; exact List.mem_cons_of_mem _ h) c hc)
theorem fold_ok (r : Bool) : ∀ (es st : List (List UInt8)), (∀ e ∈ es, ∀ c ∈ e, c ≠ 46) → es.foldl (Pa.cleanStep r) st = (es.filter (· ≠ [])).reverse ++ st
  | [], st, _ => by simp
  | e :: es, st, h => by
    rw [List.foldl_cons]
    by_cases h0 : e = []
    · have e1 : Pa.cleanStep r st e = st := by unfold Pa.cleanStep; rw [if_pos (.inl h0)]
      rw [e1, fold_ok r es st (fun x hx => h x (List.mem_cons_of_mem _ hx)), List.filter_cons, if_neg (by simp [h0])]
    · have n1 : ¬ (e = [] ∨ e = [46]) := by
        rintro (h1 | h1)
        · exact h0 h1
        · exact h e List.mem_cons_self 46 (by rw [h1]; simp) rfl
      have n2 : e ≠ [46, 46] := fun h1 => h e List.mem_cons_self 46 (by rw [h1]; simp) rfl
      have e1 : Pa.cleanStep r st e = e :: st := by unfold Pa.cleanStep; rw [if_neg n1, if_neg n2]
      rw [e1, fold_ok r es (e :: st) (fun x hx => h x (List.mem_cons_of_mem _ hx)), List.filter_cons, if_pos (by simp [h0]), List.reverse_cons, List.append_assoc]
      rfl
theorem ok_dot {l : List UInt8} (h : Ok l) : ∀ c ∈ l, c ≠ 46 := fun c hc e => by
  have := h c hc
  rw [e] at this
  revert this
  decide
theorem clean_ok (l : List UInt8) (hr : (l.head? == some 47) = true) (hk : Ok l) : Pa.clean l = 47 :: ([47] : List UInt8).intercalate (pcs l) := by
  have hne : l ≠ [] := by rintro rfl; cases hr
  rw [Pa.clean_eq_cleanEls, Pa.cleanEls_abs l hne hr, fold_ok true (Pa.els l) [] (fun e he c hc => ok_dot hk c (els_mem l e he c hc)), List.append_nil, List.reverse_reverse]
  rfl
/-- what path.Join gives -/
theorem join_ok (e p : List UInt8) (he : (e.head? == some 47) = true) (hk : Ok e) (hp : Ok p) : Pa.join [e, p] = 47 :: ([47] : List UInt8).intercalate (pcs e ++ pcs p) := by
  have hne : e ≠ [] := by rintro rfl; cases he
  unfold Pa.join
  by_cases h0 : p = []
  · subst h0
    have ef : List.filter (fun x : List UInt8 => decide (x ≠ [])) [e, []] = [e] := by simp [hne]
    rw [ef, if_neg (by simp)]
    have e1 : ([47] : List UInt8).intercalate [e] = e := by simp [List.intercalate]
    rw [e1, clean_ok e he hk]
    have e2 : pcs ([] : List UInt8) = [] := rfl
    rw [e2, List.append_nil]
  · have ef : List.filter (fun x : List UInt8 => decide (x ≠ [])) [e, p] = [e, p] := by simp [hne, h0]
    rw [ef, if_neg (by simp)]
    have e1 : ([47] : List UInt8).intercalate [e, p] = e ++ 47 :: p := by simp [List.intercalate]
    rw [e1, clean_ok (e ++ 47 :: p) ?_ (hk.app (Ok.app Ok.slash hp)), pcs_app]
    cases e with
    | nil => exact absurd rfl hne
    | cons c t => exact he

def sumL (xs : List (List UInt8)) : Nat := (xs.map fun e => e.length + 1).sum
theorem inter_cons (x y : List UInt8) (r : List (List UInt8)) : ([47] : List UInt8).intercalate (x :: y :: r) = x ++ (47 :: ([47] : List UInt8).intercalate (y :: r)) := by simp [List.intercalate]
theorem inter_one (x : List UInt8) : ([47] : List UInt8).intercalate [x] = x := by simp [List.intercalate]
theorem inter_len : ∀ xs : List (List UInt8), (([47] : List UInt8).intercalate xs).length ≤ sumL xs
  | [] => by simp [List.intercalate, sumL]
  | [x] => by rw [inter_one]; simp [sumL]
  | x :: y :: r => by
    have ih := inter_len (y :: r)
    rw [inter_cons]
    unfold sumL at *
    simp only [List.map_cons, List.sum_cons, List.length_append, List.length_cons] at *
    omega
theorem sumL_filter (p : List UInt8 → Bool) : ∀ xs : List (List UInt8), sumL (xs.filter p) ≤ sumL xs
  | [] => Nat.le_refl _
  | x :: r => by
    have ih := sumL_filter p r
    rw [List.filter_cons]
    unfold sumL at *
    split
    · simp only [List.map_cons, List.sum_cons]
      omega
    · simp only [List.map_cons, List.sum_cons]
      omega
theorem sumL_els : ∀ l : List UInt8, sumL (Pa.els l) = l.length + 1
  | [] => rfl
  | c :: t => by
    have ih := sumL_els t
    by_cases hc : c = 47
    · rw [Pa.els, if_pos hc]
      unfold sumL at *
      simp only [List.map_cons, List.sum_cons, List.length_nil, List.length_cons]
      omega
    · obtain ⟨e, r, he⟩ : ∃ e r, Pa.els t = e :: r := by
        cases h : Pa.els t with
        | nil => exact absurd h (els_ne t)
        | cons e r => exact ⟨e, r, rfl⟩
      rw [he] at ih
      rw [Pa.els, if_neg hc, he]
      unfold sumL at *
      simp only [List.map_cons, List.sum_cons, List.length_cons] at *
      omega
theorem sumL_app (a b : List (List UInt8)) : sumL (a ++ b) = sumL a + sumL b := by
  unfold sumL
  rw [List.map_append, List.sum_append]
theorem body_len (a b : List UInt8) : (([47] : List UInt8).intercalate (pcs a ++ pcs b)).length ≤ a.length + b.length + 2 := by
  have h1 := inter_len (pcs a ++ pcs b)
  rw [sumL_app] at h1
  have h2 : sumL (pcs a) ≤ a.length + 1 := by rw [← sumL_els a]; exact sumL_filter _ _
  have h3 : sumL (pcs b) ≤ b.length + 1 := by rw [← sumL_els b]; exact sumL_filter _ _
  omega
theorem inter_ok : ∀ xs : List (List UInt8), (∀ x ∈ xs, Ok x) → Ok (([47] : List UInt8).intercalate xs)
  | [], _ => by simp [List.intercalate]; exact Ok.nil
  | [x], h => by rw [inter_one]; exact h x (by simp)
  | x :: y :: r, h => by
    rw [inter_cons]
    exact (h x (by simp)).app (Ok.slash.app (inter_ok (y :: r) (fun z hz => h z (List.mem_cons_of_mem _ hz))))
theorem pcs_ok {l : List UInt8} (h : Ok l) : ∀ x ∈ pcs l, Ok x := fun x hx c hc => h c (els_mem l x ((List.mem_filter.1 hx).1) c hc)
/-- the path that joinPath makes -/
def body (bp p : List UInt8) : List UInt8 := ([47] : List UInt8).intercalate (pcs bp ++ pcs p)
def m0 (bp p : List UInt8) : List UInt8 := if Lib.hasPrefix bp [47] = true then 47 :: body bp p else body bp p
def mpath (bp p : List UInt8) : List UInt8 := if (Lib.hasSuffix p [47] && !Lib.hasSuffix (m0 bp p) [47]) = true then m0 bp p ++ [47] else m0 bp p
theorem body_ok {bp p : List UInt8} (h1 : Ok bp) (h2 : Ok p) : Ok (body bp p) := inter_ok _ fun x hx => by
  rcases List.mem_append.1 hx with h | h
  · exact pcs_ok h1 x h
  · exact pcs_ok h2 x h
theorem m0_ok {bp p : List UInt8} (h1 : Ok bp) (h2 : Ok p) : Ok (m0 bp p) := by
  unfold m0
  split
  · exact Ok.slash.app (body_ok h1 h2)
  · exact body_ok h1 h2
theorem mpath_ok {bp p : List UInt8} (h1 : Ok bp) (h2 : Ok p) : Ok (mpath bp p) := by
  unfold mpath
  split
  · exact (m0_ok h1 h2).app Ok.slash
  · exact m0_ok h1 h2
theorem m0_len (bp p : List UInt8) : (m0 bp p).length ≤ bp.length + p.length + 3 := by
  have := body_len bp p
  unfold m0 body
  split
  · simp only [List.length_cons]; omega
  · omega
theorem mpath_len (bp p : List UInt8) : (mpath bp p).length ≤ bp.length + p.length + 4 := by
  have := m0_len bp p
  unfold mpath
  split
  · rw [List.length_append, List.length_singleton]; omega
  · omega
theorem pre_head (l : List UInt8) : Lib.hasPrefix l [47] = (l.head? == some 47) := by
  cases l with
  | nil => rfl
  | cons c t =>
    unfold Lib.hasPrefix
    simp [List.isPrefixOf]
    exact Bool.beq_comm ..
end Go.Proofs.YbulkdvnaDoor
