import Derived.Test.YbulkdvkiProg
import Derived.WalkKit
import Derived.Deep.QuietTactic
import Derived.BigQuiet
import Derived.Test.YbulkdvkiPlain
namespace Go.Proofs.Ybulkdvki
open Go Go.RowKit

/-- x is among l -/
def hasB (l : List ByteArray) (x : ByteArray) : Bool := l.any fun s => s.toList == x.toList
/-- the two lists are alike -/
def eqB (l m : List ByteArray) : Bool := decide (l = m)

theorem hasB_take (l : List ByteArray) (k : Nat) (h : k < l.length) (x : ByteArray) : hasB (l.take (k + 1)) x = (hasB (l.take k) x || (l[k].toList == x.toList)) := by
  unfold hasB
  rw [List.take_succ_eq_append_getElem h, List.any_append]
  simp

theorem hasB_at (l : List ByteArray) (k : Nat) (h : k < l.length) (x : ByteArray) (e : (l[k].toList == x.toList) = true) : hasB l x = true := by
  unfold hasB
  rw [List.any_eq_true]
  exact ⟨l[k], List.getElem_mem h, e⟩

theorem ret_bool {a b : Bool} (h : a = b) : Ending.returned (.bool a) = .returned (.bool b) := by rw [h]
theorem ret_int {k : IntKind} {a b : Int} (h : a = b) : Ending.returned (.int k a) = .returned (.int k b) := by rw [h]

/-! ### zzs6105ahas -/
set_option maxHeartbeats 400000 in
theorem has_empty (p : Option Addr) (c : Nat) (x : ByteArray) (w : World) :
    Calls Yba.prog 9 #[.slice p 0 c, .string x] w fun e w' => e = .returned (.bool false) ∧ w' = w := by
  go_enter Yba.func9, Yba.ntmps9
  go_wp2
  go_loop [5] (fun i => i = .int .i64 0) (fun _ => 0)
  case atStart => rfl
  case round =>
    subst hrel
    go_wp2
    go_ret
    exact ⟨rfl, rfl⟩

set_option maxHeartbeats 400000 in
theorem has_some (b off c : Nat) (l : List ByteArray) (x : ByteArray) (w : World) (hl : l.length ≤ maxLen)
    (hc : ∀ j, j < l.length → w.cell? ⟨b, off + j, none⟩ = some (.string (l.getD j ByteArray.empty))) :
    Calls Yba.prog 9 #[.slice (some ⟨b, off, none⟩) l.length c, .string x] w fun e w' => e = .returned (.bool (hasB l x)) ∧ w' = w := by
  unfold maxLen at hl
  go_enter Yba.func9, Yba.ntmps9
  go_wp2
  go_loop [5] (fun i => ∃ k : Nat, k ≤ l.length ∧ i = .int .i64 k ∧ hasB (l.take k) x = false) (fun i => l.length - (intOf i).toNat)
  case atStart => exact ⟨0, Nat.zero_le _, rfl, rfl⟩
  case round =>
    obtain ⟨k, hk, rfl, hne⟩ := hrel
    by_cases hlt : k < l.length
    · have hcell := hc k hlt
      have HS : Hid (hasB (l.take (k + 1)) x = (hasB (l.take k) x || (l[k].toList == x.toList))) := hasB_take l k hlt x
      have HN : Hid (hasB (l.take k) x = false) := hne
      have HT : Hid ((l[k].toList == x.toList) = true → hasB l x = true) := hasB_at l k hlt x
      clear hne
      go_wp2
      · go_ret
        exact ⟨ret_bool (HT.out ‹_›).symm, rfl⟩
      · go_round
        case rel => exact ⟨k + 1, by omega, by go_num, by rw [HS.out, HN.out]; assumption⟩
        case measure => simp [intOf]; omega
    · have HN : Hid (hasB l x = false) := by rw [List.take_of_length_le (by omega)] at hne; exact hne
      clear hne
      go_wp2
      go_ret
      exact ⟨ret_bool HN.out.symm, rfl⟩

/-! ### slices.Index, slices.Contains at []string -/
theorem hasB_at' (l : List ByteArray) (k : Nat) (h : k < l.length) (x : ByteArray) (e : (x.toList == l[k].toList) = true) : hasB l x = true :=
  hasB_at l k h x (by rw [beq_iff_eq] at e ⊢; exact e.symm)
theorem hasB_take' (l : List ByteArray) (k : Nat) (h : k < l.length) (x : ByteArray) : hasB (l.take (k + 1)) x = (hasB (l.take k) x || (x.toList == l[k].toList)) := by
  rw [hasB_take l k h x]
  congr 1
  rw [Bool.eq_iff_iff, beq_iff_eq, beq_iff_eq]
  exact eq_comm

set_option maxHeartbeats 400000 in
theorem index_empty (p : Option Addr) (c : Nat) (x : ByteArray) (w : World) :
    Calls Yba.prog 37 #[.slice p 0 c, .string x] w fun e w' => e = .returned (.int .i64 (-1)) ∧ w' = w := by
  go_enter Yba.func37, Yba.ntmps37
  go_wp2
  go_loop [5, 8] (fun _ i => i = .int .i64 0) (fun _ _ => 0)
  case atStart => rfl
  case round =>
    subst hrel
    go_wp2
    go_ret
    exact ⟨rfl, rfl⟩

set_option maxHeartbeats 400000 in
theorem index_some (b off c : Nat) (l : List ByteArray) (x : ByteArray) (w : World) (hl : l.length ≤ maxLen)
    (hc : ∀ j, j < l.length → w.cell? ⟨b, off + j, none⟩ = some (.string (l.getD j ByteArray.empty))) :
    Calls Yba.prog 37 #[.slice (some ⟨b, off, none⟩) l.length c, .string x] w fun e w' => ∃ i : Int, e = .returned (.int .i64 i) ∧ decide (0 ≤ i) = hasB l x ∧ w' = w := by
  unfold maxLen at hl
  go_enter Yba.func37, Yba.ntmps37
  go_wp2
  go_loop [5, 8] (fun _ i => ∃ k : Nat, k ≤ l.length ∧ i = .int .i64 k ∧ hasB (l.take k) x = false) (fun _ i => l.length - (intOf i).toNat)
  case atStart => exact ⟨0, Nat.zero_le _, rfl, rfl⟩
  case round =>
    obtain ⟨k, hk, rfl, hne⟩ := hrel
    by_cases hlt : k < l.length
    · have hcell := hc k hlt
      have HS : Hid (hasB (l.take (k + 1)) x = (hasB (l.take k) x || (x.toList == l[k].toList))) := hasB_take' l k hlt x
      have HN : Hid (hasB (l.take k) x = false) := hne
      have HT : Hid ((x.toList == l[k].toList) = true → hasB l x = true) := hasB_at' l k hlt x
      clear hne
      go_wp2
      · go_ret
        exact ⟨_, rfl, by rw [HT.out ‹_›]; simp, rfl⟩
      · go_round
        case rel => exact ⟨k + 1, by omega, by go_num, by rw [HS.out, HN.out]; assumption⟩
        case measure => simp [intOf]; omega
    · have HN : Hid (hasB l x = false) := by rw [List.take_of_length_le (by omega)] at hne; exact hne
      clear hne
      go_wp2
      go_ret
      exact ⟨_, rfl, by rw [HN.out]; rfl, rfl⟩

set_option maxHeartbeats 400000 in
theorem contains_empty (p : Option Addr) (c : Nat) (x : ByteArray) (w : World) :
    Calls Yba.prog 23 #[.slice p 0 c, .string x] w fun e w' => e = .returned (.bool false) ∧ w' = w := by
  go_enter Yba.func23, Yba.ntmps23
  go_wp2_with (go_at_call 37; refine (index_empty _ _ _ _).mono ?_; rintro e w' ⟨rfl, rfl⟩)
  go_ret
  exact ⟨rfl, rfl⟩

set_option maxHeartbeats 400000 in
theorem contains_some (b off c : Nat) (l : List ByteArray) (x : ByteArray) (w : World) (hl : l.length ≤ maxLen)
    (hc : ∀ j, j < l.length → w.cell? ⟨b, off + j, none⟩ = some (.string (l.getD j ByteArray.empty))) :
    Calls Yba.prog 23 #[.slice (some ⟨b, off, none⟩) l.length c, .string x] w fun e w' => e = .returned (.bool (hasB l x)) ∧ w' = w := by
  have H := hl
  go_enter Yba.func23, Yba.ntmps23
  go_wp2_with (go_at_call 37; refine (index_some _ _ _ _ _ _ H hc).mono ?_; rintro e w' ⟨i, rfl, hi, rfl⟩)
  go_ret
  exact ⟨rfl, rfl⟩

/-! ### zzs6105aeq -/
set_option maxHeartbeats 400000 in
theorem eq_len (p q : Option Addr) (n m c d : Nat) (h : n ≠ m) (w : World) :
    Calls Yba.prog 8 #[.slice p n c, .slice q m d] w fun e w' => e = .returned (.bool false) ∧ w' = w := by
  have h' : ((n : Int) != (m : Int)) = true := by rw [bne_iff_ne]; omega
  go_enter Yba.func8, Yba.ntmps8
  go_wp2
  go_ret
  exact ⟨rfl, rfl⟩

set_option maxHeartbeats 400000 in
theorem eq_empty (p q : Option Addr) (c d : Nat) (w : World) :
    Calls Yba.prog 8 #[.slice p 0 c, .slice q 0 d] w fun e w' => e = .returned (.bool true) ∧ w' = w := by
  go_enter Yba.func8, Yba.ntmps8
  go_wp2
  go_loop [5] (fun i => i = .int .i64 0) (fun _ => 0)
  case atStart => rfl
  case round =>
    subst hrel
    go_wp2
    go_ret
    exact ⟨rfl, rfl⟩

theorem eqB_take (l m : List ByteArray) (k : Nat) (h : k < l.length) (h' : k < m.length) (hp : l.take k = m.take k) (e : (!l[k].toList == m[k].toList) = false) : l.take (k + 1) = m.take (k + 1) := by
  rw [List.take_succ_eq_append_getElem h, List.take_succ_eq_append_getElem h', hp]
  have := str_inj (a := l[k]) (b := m[k]) (by simpa using e)
  rw [this]
theorem eqB_ne (l m : List ByteArray) (k : Nat) (h : k < l.length) (h' : k < m.length) (e : (!l[k].toList == m[k].toList) = true) : eqB l m = false := by
  unfold eqB
  rw [decide_eq_false_iff_not]
  rintro rfl
  simp at e

set_option maxHeartbeats 400000 in
theorem eq_some (b off c b' off' c' : Nat) (l m : List ByteArray) (w : World) (hl : l.length ≤ maxLen) (hlm : l.length = m.length)
    (hc : ∀ j, j < l.length → w.cell? ⟨b, off + j, none⟩ = some (.string (l.getD j ByteArray.empty)))
    (hd : ∀ j, j < m.length → w.cell? ⟨b', off' + j, none⟩ = some (.string (m.getD j ByteArray.empty))) :
    Calls Yba.prog 8 #[.slice (some ⟨b, off, none⟩) l.length c, .slice (some ⟨b', off', none⟩) m.length c'] w fun e w' => e = .returned (.bool (eqB l m)) ∧ ∃ n, w' = w.drewN n := by
  unfold maxLen at hl
  have HL : Hid (l.length = m.length) := hlm
  have h' : ((l.length : Int) != (m.length : Int)) = false := by simp [hlm]
  have hle : l.length ≤ m.length := by omega
  have hge : m.length ≤ l.length := by omega
  clear hlm
  go_enter Yba.func8, Yba.ntmps8
  go_wp2
  go_loopw [5] (fun i wr => ∃ k : Nat, k ≤ l.length ∧ i = .int .i64 k ∧ l.take k = m.take k ∧ ∃ n, wr = w.drewN n) (fun i _ => l.length - (intOf i).toNat)
  case atStart => exact ⟨0, Nat.zero_le _, rfl, rfl, 0, rfl⟩
  case round =>
    obtain ⟨k, hk, rfl, hp, n, rfl⟩ := hrel
    have HP : Hid (l.take k = m.take k) := hp
    clear hp
    by_cases hlt : k < l.length
    · have hlt' : k < m.length := by omega
      have hcell := hc k hlt
      have hdell := hd k hlt'
      have hi1 : (k : Int) < (l.length : Int) := by omega
      have hi2 : (k : Int) < (m.length : Int) := by omega
      go_wp2
      go_quiet (fail)
      go_wp2
      · go_ret
        exact ⟨ret_bool (eqB_ne l m k hlt hlt' ‹_›).symm, n + nq, by rw [World.drewN_drewN]⟩
      · go_roundw
        case rel => exact ⟨k + 1, by omega, by go_num, eqB_take l m k hlt hlt' HP.out ‹_›, _, rfl⟩
        case measure => simp [intOf]; omega
    · go_wp2
      go_ret
      refine ⟨ret_bool ?_, _, rfl⟩
      have h1 := HP.out
      rw [List.take_of_length_le (by omega), List.take_of_length_le (by omega)] at h1
      unfold eqB
      simp [h1]

/-! ### zzs6105ateamname -/
def adminB : ByteArray := ⟨#[97, 100, 109, 105, 110]⟩
def nameB (n : ByteArray) : ByteArray := if n.toList == [97, 100, 109, 105, 110] then n ++ ⟨#[95]⟩ else n

set_option maxHeartbeats 400000 in
theorem teamname_any (n : ByteArray) (w : World) :
    Calls Yba.prog 5 #[.string n] w fun e w' => e = .returned (.string (nameB n)) ∧ w' = w := by
  by_cases h : (n.toList == [97, 100, 109, 105, 110]) = true
  · have h1 : nameB n = n ++ ⟨#[95]⟩ := by unfold nameB; rw [if_pos h]
    rw [h1]
    have h2 : n.size ≤ 5 := by
      have := congrArg List.length (beq_iff_eq.1 h)
      rw [ByteArray.toList_eq] at this
      simp at this
      omega
    go_enter Yba.func5, Yba.ntmps5
    go_wp2
    go_ret
    exact ⟨rfl, rfl⟩
  · have h1 : nameB n = n := by unfold nameB; rw [if_neg h]
    rw [h1]
    have h2 : (n.toList == [97, 100, 109, 105, 110]) = false := by simpa using h
    clear h
    go_enter Yba.func5, Yba.ntmps5
    go_wp2
    go_ret
    exact ⟨rfl, rfl⟩
end Go.Proofs.Ybulkdvki
