import Derived.Test.YbulkdvnaDoorEnd
namespace Go.Proofs.YbulkdvnaDoor
open Go Go.RowKit

/-- the values at key i, in order -/
def QL (ps : List (Nat × ByteArray)) (i : Nat) : List (List UInt8) := (ps.filter fun p => p.1 % 3 == i).map fun p => (mapB p.2).data.toList
theorem QL_nil : QL [] = fun _ => [] := rfl
theorem QL_snoc (ps : List (Nat × ByteArray)) (p : Nat × ByteArray) (i : Nat) : QL (ps ++ [p]) i = if i = p.1 % 3 then QL ps i ++ [(mapB p.2).data.toList] else QL ps i := by
  unfold QL
  rw [List.filter_append]
  by_cases h : i = p.1 % 3
  · subst h
    simp
  · rw [if_neg h]
    have h' : ¬ (p.1 % 3 = i) := fun e => h e.symm
    simp [h']
theorem QL_upd (ps : List (Nat × ByteArray)) (p : Nat × ByteArray) : QL (ps ++ [p]) = upd (QL ps) (p.1 % 3) (QL ps (p.1 % 3) ++ [(mapB p.2).data.toList]) := by
  funext i
  rw [QL_snoc]
  unfold upd
  by_cases h : i = p.1 % 3
  · rw [if_pos h, if_pos h, h]
  · rw [if_neg h, if_neg h]
theorem QL_len (ps : List (Nat × ByteArray)) (i : Nat) : (QL ps i).length ≤ ps.length := by
  unfold QL
  rw [List.length_map]
  exact List.length_filter_le _ _
theorem mapB_len (s : ByteArray) : (mapB s).data.toList.length = s.size := by
  rw [Array.length_toList]
  exact mapB_size s
theorem QL_mem {ps : List (Nat × ByteArray)} {i : Nat} {x : List UInt8} (h : x ∈ QL ps i) : ∃ p ∈ ps, x = (mapB p.2).data.toList := by
  unfold QL at h
  obtain ⟨p, hp, rfl⟩ := List.mem_map.1 h
  exact ⟨p, (List.mem_filter.1 hp).1, rfl⟩

/-- the pairs' weight -/
def wt (L : List (Nat × List UInt8)) : Nat := (L.map fun p => p.2.length + 10).sum
theorem wt_app (a b : List (Nat × List UInt8)) : wt (a ++ b) = wt a + wt b := by simp [wt]
def sumP (ps : List (Nat × ByteArray)) : Nat := (ps.map fun p => p.2.size).sum
def wtP (ps : List (Nat × ByteArray)) : Nat := sumP ps + 10 * ps.length
theorem sumP_take (l : List (Nat × ByteArray)) (k : Nat) (h : k < l.length) : sumP (l.take (k + 1)) = sumP (l.take k) + l[k].2.size := by
  unfold sumP
  rw [List.take_succ_eq_append_getElem h, List.map_append, List.sum_append]
  simp
theorem sumP_le (l : List (Nat × ByteArray)) (k : Nat) : sumP (l.take k) ≤ sumP l := by
  have : sumP l = sumP (l.take k) + sumP (l.drop k) := by
    unfold sumP
    rw [← List.sum_append, ← List.map_append, List.take_append_drop]
  omega
theorem sumP_max (l : List (Nat × ByteArray)) (M : Nat) (h : ∀ p ∈ l, p.2.size ≤ M) : sumP l ≤ l.length * M := by
  induction l with
  | nil => simp [sumP]
  | cons a l ih =>
    have h1 := h a (List.mem_cons_self ..)
    have h2 := ih fun p hp => h p (List.mem_cons_of_mem _ hp)
    unfold sumP at *
    rw [List.map_cons, List.sum_cons, List.length_cons, Nat.succ_mul]
    omega
theorem sumS_max (l : List ByteArray) (M : Nat) (h : ∀ p ∈ l, p.size ≤ M) : sumS l ≤ l.length * M := by
  induction l with
  | nil => simp [sumS]
  | cons a l ih =>
    have h1 := h a (List.mem_cons_self ..)
    have h2 := ih fun p hp => h p (List.mem_cons_of_mem _ hp)
    unfold sumS at *
    rw [List.map_cons, List.sum_cons, List.length_cons, Nat.succ_mul]
    omega
theorem sumP_mem {l : List (Nat × ByteArray)} {p : Nat × ByteArray} (h : p ∈ l) : p.2.size ≤ sumP l := by
  induction l with
  | nil => cases h
  | cons a l ih =>
    unfold sumP at *
    rw [List.map_cons, List.sum_cons]
    rcases List.mem_cons.1 h with rfl | h
    · omega
    · have := ih h
      omega
theorem wt_QL (ps : List (Nat × ByteArray)) (i : Nat) : wt ((QL ps i).map fun v => (i, v)) ≤ wtP ps := by
  induction ps with
  | nil => exact Nat.le_refl _
  | cons a l ih =>
    have e : wtP (a :: l) = a.2.size + 10 + wtP l := by
      unfold wtP sumP
      rw [List.map_cons, List.sum_cons, List.length_cons]
      omega
    have e2 : QL (a :: l) i = if a.1 % 3 = i then (mapB a.2).data.toList :: QL l i else QL l i := by
      unfold QL
      by_cases h : a.1 % 3 = i
      · rw [if_pos h, List.filter_cons_of_pos (by simpa using h), List.map_cons]
      · rw [if_neg h, List.filter_cons_of_neg (by simpa using h)]
    rw [e, e2]
    split
    · have : wt (((mapB a.2).data.toList :: QL l i).map fun v => (i, v)) = a.2.size + 10 + wt ((QL l i).map fun v => (i, v)) := by
        unfold wt
        rw [List.map_cons, List.map_cons, List.sum_cons]
        show (mapB a.2).data.toList.length + 10 + _ = _
        rw [mapB_len]
      omega
    · omega
theorem wt_pairs (ps : List (Nat × ByteArray)) : ∀ idx : List Nat, wt (pairsOf idx (QL ps)) ≤ idx.length * wtP ps
  | [] => by simp [pairsOf, wt]
  | a :: l => by
    have h1 := wt_pairs ps l
    have h2 := wt_QL ps a
    have e : pairsOf (a :: l) (QL ps) = ((QL ps a).map fun v => (a, v)) ++ pairsOf l (QL ps) := rfl
    rw [e, wt_app, List.length_cons, Nat.succ_mul]
    omega
theorem keyB_len (i : Nat) : (keyB i).data.toList.length ≤ 8 := by unfold keyB; split <;> decide
theorem fold_wt (L : List (Nat × List UInt8)) : ∀ acc : List UInt8, (L.foldl stepE acc).length ≤ acc.length + wt L := by
  induction L with
  | nil => intro acc; exact Nat.le_refl _
  | cons p L ih =>
    intro acc
    have h1 := ih (stepE acc p)
    have h2 : (stepE acc p).length ≤ acc.length + (p.2.length + 10) := by
      unfold stepE
      have := keyB_len p.1
      simp only [List.length_append]
      split <;> simp only [List.length_nil, List.length_cons] <;> omega
    have e : wt (p :: L) = p.2.length + 10 + wt L := by
      unfold wt
      rw [List.map_cons, List.sum_cons]
    rw [List.foldl_cons, e]
    omega
theorem encL_len (ps : List (Nat × ByteArray)) : (encL (QL ps)).length ≤ 3 * wtP ps := by
  have h1 := fold_wt (pairsOf [0, 1, 2] (QL ps)) []
  have h2 := wt_pairs ps [0, 1, 2]
  unfold encL
  simp only [List.length_cons, List.length_nil] at h1 h2
  omega

/-- the law's own query behind ki keys, and k pairs at the next -/
def rqA (ps : List (Nat × ByteArray)) (ki k : Nat) : List UInt8 := (pairsOf (List.range ki) (QL ps) ++ (QL (ps.take k) ki).map fun v => (ki, v)).foldl stepE []
theorem rqA_zero (ps : List (Nat × ByteArray)) : rqA ps 0 0 = [] := rfl
theorem rqA_hit (ps : List (Nat × ByteArray)) (ki k : Nat) (h : k < ps.length) (he : ps[k].1 % 3 = ki) : rqA ps ki (k + 1) = stepE (rqA ps ki k) (ki, (mapB ps[k].2).data.toList) := by
  unfold rqA
  rw [List.take_succ_eq_append_getElem h, QL_snoc, if_pos he.symm, List.map_append, ← List.append_assoc, List.foldl_append]
  rfl
theorem rqA_miss (ps : List (Nat × ByteArray)) (ki k : Nat) (h : k < ps.length) (he : ¬ ps[k].1 % 3 = ki) : rqA ps ki (k + 1) = rqA ps ki k := by
  unfold rqA
  rw [List.take_succ_eq_append_getElem h, QL_snoc, if_neg (fun e => he e.symm)]
theorem rqA_next (ps : List (Nat × ByteArray)) (ki : Nat) : rqA ps ki ps.length = rqA ps (ki + 1) 0 := by
  unfold rqA
  rw [List.take_of_length_le (Nat.le_refl _), List.range_succ]
  unfold pairsOf
  rw [List.flatMap_append]
  simp [QL]
theorem rqA_end (ps : List (Nat × ByteArray)) : rqA ps 3 0 = encL (QL ps) := by
  unfold rqA encL
  rw [show List.range 3 = [0, 1, 2] from rfl]
  simp [QL]
theorem wtP_take (ps : List (Nat × ByteArray)) (k : Nat) : wtP (ps.take k) ≤ wtP ps := by
  have h1 := sumP_le ps k
  have h2 : (ps.take k).length ≤ ps.length := by rw [List.length_take]; exact Nat.min_le_right ..
  unfold wtP
  omega
theorem rqA_len (ps : List (Nat × ByteArray)) (ki k : Nat) (h : ki ≤ 3) : (rqA ps ki k).length ≤ 4 * wtP ps := by
  unfold rqA
  have h1 := fold_wt (pairsOf (List.range ki) (QL ps) ++ (QL (ps.take k) ki).map fun v => (ki, v)) []
  have h2 := wt_pairs ps (List.range ki)
  have h3 := wt_QL (ps.take k) ki
  have h4 := wtP_take ps k
  have h5 : ki * wtP ps ≤ 3 * wtP ps := Nat.mul_le_mul_right _ h
  rw [wt_app] at h1
  rw [List.length_range] at h2
  simp only [List.length_nil] at h1
  omega
end Go.Proofs.YbulkdvnaDoor
