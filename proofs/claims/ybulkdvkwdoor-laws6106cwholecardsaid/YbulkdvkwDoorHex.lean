import Derived.Test.YbulkdvkwDoorProg
import Derived.WalkKit
import Derived.WalkSpells
import Derived.WalkLawsBesides
namespace Go.Proofs.YbulkdvkwDoor
open Go Go.RowKit

/-- the value of a hexadecimal digit -/
def hexV (c : Int) : Int := if 48 ≤ c ∧ c ≤ 57 then c - 48 else if 97 ≤ c ∧ c ≤ 102 then c - 97 + 10 else if 65 ≤ c ∧ c ≤ 70 then c - 65 + 10 else 0
def hexB (c : Int) : Bool := decide ((48 ≤ c ∧ c ≤ 57) ∨ (97 ≤ c ∧ c ≤ 102) ∨ (65 ≤ c ∧ c ≤ 70))

/-- the bytes, by what they are to the reader of digits -/
theorem byte_cases (c : Int) : (c < 48) ∨ (48 ≤ c ∧ c ≤ 57) ∨ (58 ≤ c ∧ c < 65) ∨ (65 ≤ c ∧ c ≤ 70) ∨ (71 ≤ c ∧ c < 97) ∨ (97 ≤ c ∧ c ≤ 102) ∨ (103 ≤ c) := by omega

set_option maxHeartbeats 1000000 in
theorem hex_any (c : Int) (h0 : 0 ≤ c) (h1 : c ≤ 255) (w : World) :
    Calls Ybad.prog 5 #[.int .u8 c] w fun e w' => e = .returned (.tuple #[.int .u32 (hexV c), .bool (hexB c)]) ∧ w' = w := by
  have e1 : hexV c = if 48 ≤ c ∧ c ≤ 57 then c - 48 else if 97 ≤ c ∧ c ≤ 102 then c - 97 + 10 else if 65 ≤ c ∧ c ≤ 70 then c - 65 + 10 else 0 := rfl
  have e2 : hexB c = decide ((48 ≤ c ∧ c ≤ 57) ∨ (97 ≤ c ∧ c ≤ 102) ∨ (65 ≤ c ∧ c ≤ 70)) := rfl
  rcases byte_cases c with a | a | a | a | a | a | a
  · have f1 : hexV c = 0 := by rw [e1, if_neg (by omega), if_neg (by omega), if_neg (by omega)]
    have f2 : hexB c = false := by rw [e2]; exact decide_eq_false (by omega)
    rw [f1, f2]
    clear e1 e2 f1 f2
    go_enter Ybad.func5, Ybad.ntmps5
    go_wp2
    go_ret2
    exact ⟨rfl, rfl⟩
  · have f1 : hexV c = c - 48 := by rw [e1, if_pos (by omega)]
    have f2 : hexB c = true := by rw [e2]; exact decide_eq_true (by omega)
    rw [f1, f2]
    obtain ⟨b1, b2⟩ := a
    clear e1 e2 f1 f2
    go_enter Ybad.func5, Ybad.ntmps5
    go_wp2
    go_ret2
    exact ⟨rfl, rfl⟩
  · have f1 : hexV c = 0 := by rw [e1, if_neg (by omega), if_neg (by omega), if_neg (by omega)]
    have f2 : hexB c = false := by rw [e2]; exact decide_eq_false (by omega)
    rw [f1, f2]
    obtain ⟨b1, b2⟩ := a
    clear e1 e2 f1 f2
    go_enter Ybad.func5, Ybad.ntmps5
    go_wp2
    go_ret2
    exact ⟨rfl, rfl⟩
  · have f1 : hexV c = c - 65 + 10 := by rw [e1, if_neg (by omega), if_neg (by omega), if_pos (by omega)]
    have f2 : hexB c = true := by rw [e2]; exact decide_eq_true (by omega)
    rw [f1, f2]
    obtain ⟨b1, b2⟩ := a
    clear e1 e2 f1 f2
    go_enter Ybad.func5, Ybad.ntmps5
    go_wp2
    go_ret2
    exact ⟨rfl, rfl⟩
  · have f1 : hexV c = 0 := by rw [e1, if_neg (by omega), if_neg (by omega), if_neg (by omega)]
    have f2 : hexB c = false := by rw [e2]; exact decide_eq_false (by omega)
    rw [f1, f2]
    obtain ⟨b1, b2⟩ := a
    clear e1 e2 f1 f2
    go_enter Ybad.func5, Ybad.ntmps5
    go_wp2
    go_ret2
    exact ⟨rfl, rfl⟩
  · have f1 : hexV c = c - 97 + 10 := by rw [e1, if_neg (by omega), if_pos (by omega)]
    have f2 : hexB c = true := by rw [e2]; exact decide_eq_true (by omega)
    rw [f1, f2]
    obtain ⟨b1, b2⟩ := a
    clear e1 e2 f1 f2
    go_enter Ybad.func5, Ybad.ntmps5
    go_wp2
    go_ret2
    exact ⟨rfl, rfl⟩
  · have f1 : hexV c = 0 := by rw [e1, if_neg (by omega), if_neg (by omega), if_neg (by omega)]
    have f2 : hexB c = false := by rw [e2]; exact decide_eq_false (by omega)
    rw [f1, f2]
    clear e1 e2 f1 f2
    go_enter Ybad.func5, Ybad.ntmps5
    go_wp2
    go_ret2
    exact ⟨rfl, rfl⟩

/-! ### the digits of a number in base 16 -/
/-- the number that the digits write, if each is one -/
def puGo : List Int → Int → Option Int
  | [], n => some n
  | c :: r, n => if hexB c then puGo r (n * 16 + hexV c) else none
theorem puGo_append (l r : List Int) (n : Int) : puGo (l ++ r) n = (puGo l n).bind (puGo r) := by
  induction l generalizing n with
  | nil => rfl
  | cons c l ih =>
    simp only [List.cons_append, puGo]
    split
    · exact ih _
    · rfl
theorem hexV_bd (c : Int) : 0 ≤ hexV c ∧ hexV c ≤ 15 := by
  unfold hexV
  split
  · omega
  · split
    · omega
    · split <;> omega
theorem puGo_bd : ∀ (l : List Int) (n v : Int) (B : Int), 0 ≤ n → n < B → puGo l n = some v → 0 ≤ v ∧ v < B * 16 ^ l.length
  | [], n, v, B, h0, h1, h => by
    simp only [puGo, Option.some.injEq] at h
    subst h
    simpa using ⟨h0, h1⟩
  | c :: r, n, v, B, h0, h1, h => by
    simp only [puGo] at h
    split at h
    · have hb := hexV_bd c
      have := puGo_bd r (n * 16 + hexV c) v (B * 16) (by omega) (by omega) h
      rw [List.length_cons, Int.pow_succ]
      have e : B * (16 ^ r.length * 16) = B * 16 * 16 ^ r.length := by rw [Int.mul_comm (16 ^ r.length) 16, Int.mul_assoc]
      rw [e]
      exact this
    · cases h
end Go.Proofs.YbulkdvkwDoor
