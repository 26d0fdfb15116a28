import GoSem.Op.String
import Derived.Laws.Strings
import Derived.Lib.Bytealg
namespace Go.Proofs.Ybulkdvki
open Go

theorem str_inj {a b : ByteArray} (h : a.toList = b.toList) : a = b := by
  rw [ByteArray.toList_eq, ByteArray.toList_eq] at h
  exact ByteArray.ext (Array.toList_inj.mp h)

theorem less_eq : ∀ (x y : List UInt8), Op.bytesLess x y = decide (x < y)
  | [], [] => by simp [Op.bytesLess]
  | _ :: _, [] => by simp [Op.bytesLess]
  | [], _ :: _ => by simp [Op.bytesLess]
  | a :: x, b :: y => by
    rw [Op.bytesLess, less_eq x y]
    simp only [List.cons_lt_cons_iff]
    by_cases h1 : a < b <;> by_cases h2 : a = b <;> by_cases h3 : x < y <;> simp [h1, h2, h3]

theorem compare_neg : ∀ (x y : List UInt8), decide (Lib.compareBytes x y < 0) = Op.bytesLess x y
  | [], [] => by simp [Op.bytesLess, Lib.compareBytes]
  | _ :: _, [] => by simp [Op.bytesLess, Lib.compareBytes]
  | [], _ :: _ => by simp [Op.bytesLess, Lib.compareBytes]
  | a :: x, b :: y => by
    rw [Op.bytesLess, Lib.compareBytes, ← compare_neg x y]
    by_cases h1 : a < b
    · simp [h1]
    · by_cases h2 : b < a
      · have h3 : ¬ a = b := by
          rintro rfl
          exact h1 h2
        simp [h1, h2, h3]
      · have h3 : a = b := UInt8.le_antisymm (UInt8.not_lt.1 h2) (UInt8.not_lt.1 h1)
        simp [h3]

/-- the byte order of strings -/
def ltB (a b : ByteArray) : Bool := Op.bytesLess a.toList b.toList

theorem ltB_iff (a b : ByteArray) : ltB a b = true ↔ a.toList < b.toList := by unfold ltB; rw [less_eq, decide_eq_true_eq]
theorem ltB_not (a b : ByteArray) : ltB a b = false ↔ ¬ a.toList < b.toList := by unfold ltB; rw [less_eq, decide_eq_false_iff_not]
theorem ltB_irrefl (a : ByteArray) : ltB a a = false := by rw [ltB_not]; exact List.lt_irrefl _
theorem ltB_trans {a b c : ByteArray} (h : ltB a b = true) (k : ltB b c = true) : ltB a c = true := by
  rw [ltB_iff] at *
  exact List.lt_trans h k
theorem ltB_asymm {a b : ByteArray} (h : ltB a b = true) : ltB b a = false := by
  rcases hb : ltB b a with _ | _
  · rfl
  · have := ltB_trans h hb
    rw [ltB_irrefl] at this
    cases this
theorem ltB_antisymm {a b : ByteArray} (h : ltB a b = false) (k : ltB b a = false) : a = b := by
  rw [ltB_not] at *
  exact str_inj (List.le_antisymm (List.not_lt.1 k) (List.not_lt.1 h))
theorem ltB_ntrans {a b c : ByteArray} (h : ltB a b = false) (k : ltB b c = false) : ltB a c = false := by
  rw [ltB_not] at *
  exact List.not_lt.2 (List.le_trans (List.not_lt.1 k) (List.not_lt.1 h))

/-- in order: no later one is less than an earlier one -/
def SortedB (l : List ByteArray) : Prop := l.Pairwise fun a b => ltB b a = false

theorem sorted_unique {l m : List ByteArray} (hl : SortedB l) (hm : SortedB m) (h : l.Perm m) : l = m :=
  List.Perm.eq_of_pairwise (fun _ _ _ _ h1 h2 => ltB_antisymm h2 h1) hl hm h

/-! ### the insertion sort -/
/-- the first i are in order -/
def Pre (l m : List ByteArray) (i : Nat) : Prop := m.Perm l ∧ ∀ a b, a < b → b < i → (hb : b < m.length) → (ha : a < m.length) → ltB m[b] m[a] = false
/-- the first i + 1 are in order but for what stands at j, which may be less than those ahead of it -/
def Ins (l m : List ByteArray) (i j : Nat) : Prop := m.Perm l ∧ ∀ a b, a < b → b ≤ i → b ≠ j → (hb : b < m.length) → (ha : a < m.length) → ltB m[b] m[a] = false

theorem pre_one (l : List ByteArray) : Pre l l 1 := ⟨List.Perm.refl _, fun a b h1 h2 => by omega⟩
theorem pre_ins {l m : List ByteArray} {i : Nat} (h : Pre l m i) : Ins l m i i := ⟨h.1, fun a b h1 h2 h3 hb ha => h.2 a b h1 (by omega) hb ha⟩
theorem ins_stop {l m : List ByteArray} {i j : Nat} (h : Ins l m i (j + 1)) (hj : j + 1 < m.length) (e : ltB (m[j + 1]'hj) (m[j]'(by omega)) = false) : Pre l m (i + 1) := by
  refine ⟨h.1, fun a b h1 h2 hb ha => ?_⟩
  by_cases hbj : b = j + 1
  · subst hbj
    by_cases haj : a = j
    · subst haj
      exact e
    · exact ltB_ntrans e (h.2 a j (by omega) (by omega) (by omega) (by omega) ha)
  · exact h.2 a b h1 (by omega) hbj hb ha
theorem ins_zero {l m : List ByteArray} {i : Nat} (h : Ins l m i 0) : Pre l m (i + 1) :=
  ⟨h.1, fun a b h1 h2 hb ha => h.2 a b h1 (by omega) (by omega) hb ha⟩
theorem ins_swap {l m : List ByteArray} {i j : Nat} (h : Ins l m i (j + 1)) (hj : j + 1 < m.length) (e : ltB (m[j + 1]'hj) (m[j]'(by omega)) = true) :
    Ins l ((m.set (j + 1) (m[j]'(by omega))).set j (m[j + 1]'hj)) i j := by
  refine ⟨(List.set_set_perm hj (by omega)).trans h.1, fun a b h1 h2 h3 hb ha => ?_⟩
  simp only [List.length_set] at hb ha
  have hget : ∀ k (hk : k < m.length), ((m.set (j + 1) (m[j]'(by omega))).set j (m[j + 1]'hj))[k]'(by simpa using hk) = if k = j then m[j + 1] else if k = j + 1 then (m[j]'(by omega)) else m[k] := by
    intro k hk
    rw [List.getElem_set, List.getElem_set]
    by_cases h1 : k = j
    · subst h1; simp
    · by_cases h2 : k = j + 1
      · subst h2; simp
      · have h1' : ¬ j = k := fun x => h1 x.symm
        have h2' : ¬ j + 1 = k := fun x => h2 x.symm
        simp [h1, h2, h1', h2']
  rw [hget b hb, hget a ha]
  by_cases hbj : b = j + 1
  · subst hbj
    rw [if_neg (by omega), if_pos rfl]
    by_cases haj : a = j
    · rw [if_pos haj]
      exact ltB_asymm e
    · rw [if_neg haj, if_neg (by omega)]
      exact h.2 a j (by omega) (by omega) (by omega) (by omega) ha
  · rw [if_neg h3, if_neg hbj]
    by_cases haj : a = j
    · rw [if_pos haj]
      exact h.2 (j + 1) b (by omega) h2 hbj hb hj
    · rw [if_neg haj]
      by_cases haj' : a = j + 1
      · rw [if_pos haj']
        exact h.2 j b (by omega) h2 hbj hb (by omega)
      · rw [if_neg haj']
        exact h.2 a b h1 h2 hbj hb ha
theorem pre_sorted {l m : List ByteArray} {i : Nat} (h : Pre l m i) (hi : m.length ≤ i) : m.Perm l ∧ SortedB m :=
  ⟨h.1, List.pairwise_iff_getElem.2 fun a b ha hb hab => h.2 a b hab (by omega) hb ha⟩
theorem swap_length (m : List ByteArray) (i j : Nat) (x y : ByteArray) : ((m.set i x).set j y).length = m.length := by simp
end Go.Proofs.Ybulkdvki
