import Derived.Test.YbulkdvkiVals
import Derived.Deep.RegionWith
import Derived.WalkSmall
namespace Go.Proofs.Ybulkdvki
open Go Go.RowKit

/-! ### (*State).Team -/
def findT (ts : List Tm) (nm : ByteArray) : Option Tm := ts.find? fun t => t.nm.toList == nm.toList
def ptrOf : Option Tm → Value | some t => .pointer (some ⟨t.b, 0, none⟩) | none => .pointer none

theorem findT_hit (ts : List Tm) (nm : ByteArray) (k : Nat) (hk : k < ts.length) (hn : findT (ts.take k) nm = none) (e : (ts[k].nm.toList == nm.toList) = true) : findT ts nm = some ts[k] := by
  unfold findT at *
  obtain ⟨x, hx⟩ : ∃ x, x = ts[k] := ⟨_, rfl⟩
  rw [← hx] at e ⊢
  have h : ts = ts.take k ++ x :: ts.drop (k + 1) := by rw [hx]; simp
  rw [h, List.find?_append, hn, List.find?_cons, e]
  rfl
theorem findT_miss (ts : List Tm) (nm : ByteArray) (k : Nat) (hk : k < ts.length) (hn : findT (ts.take k) nm = none) (e : (ts[k].nm.toList == nm.toList) = false) : findT (ts.take (k + 1)) nm = none := by
  unfold findT at *
  rw [List.take_succ_eq_append_getElem hk, List.find?_append, hn]
  simp [e]

set_option maxHeartbeats 400000 in
theorem team_empty (sb : Nat) (p : Option Addr) (c : Nat) (nm : ByteArray) (w : World) (hs : w.cell? ⟨sb, 0, none⟩ = some (.slice p 0 c)) :
    Calls Yba.prog 36 #[.pointer (some ⟨sb, 0, none⟩), .string nm] w fun e w' => e = .returned (.pointer none) ∧ w' = w := by
  go_enter Yba.func36, Yba.ntmps36
  go_wp2
  go_loop [6, 12] (fun _ i => i = .int .i64 0) (fun _ _ => 0)
  case atStart => rfl
  case round =>
    subst hrel
    go_wp2
    go_ret
    exact ⟨rfl, rfl⟩

set_option maxHeartbeats 400000 in
theorem team_some (sb b off c : Nat) (ts : List Tm) (nm : ByteArray) (w : World) (hs : w.cell? ⟨sb, 0, none⟩ = some (.slice (some ⟨b, off, none⟩) ts.length c)) (hl : ts.length ≤ 8192)
    (hp : ∀ j (hj : j < ts.length), w.cell? ⟨b, off + j, none⟩ = some (.pointer (some ⟨ts[j].b, 0, none⟩))) (hn : ∀ j (hj : j < ts.length), w.cell? ⟨ts[j].b, 0, none⟩ = some (.string ts[j].nm)) :
    Calls Yba.prog 36 #[.pointer (some ⟨sb, 0, none⟩), .string nm] w fun e w' => e = .returned (ptrOf (findT ts nm)) ∧ w' = w := by
  go_enter Yba.func36, Yba.ntmps36
  go_wp2
  go_loop [6, 12] (fun _ i => ∃ k : Nat, k ≤ ts.length ∧ i = .int .i64 k ∧ findT (ts.take k) nm = none) (fun _ i => ts.length - (intOf i).toNat)
  case atStart => exact ⟨0, Nat.zero_le _, rfl, rfl⟩
  case round =>
    obtain ⟨k, hk, rfl, hne⟩ := hrel
    by_cases hlt : k < ts.length
    · have hcell := hp k hlt
      have hname := hn k hlt
      have HN : Hid (findT (ts.take k) nm = none) := hne
      clear hne
      go_wp2
      · go_ret
        refine ⟨?_, rfl⟩
        rw [findT_hit ts nm k hlt HN.out ‹_›]
        rfl
      · go_round
        case rel => exact ⟨k + 1, by omega, by go_num, findT_miss ts nm k hlt HN.out ‹_›⟩
        case measure => simp [intOf]; omega
    · have HN : Hid (findT ts nm = none) := by rw [List.take_of_length_le (by omega)] at hne; exact hne
      clear hne
      go_wp2
      go_ret
      exact ⟨by rw [HN.out]; rfl, rfl⟩

/-- the State at block sb holds the teams ts -/
def StateAt (bad : Nat → Prop) (w : World) (sb : Nat) (ts : List Tm) : Prop :=
  (∃ v, w.cell? ⟨sb, 0, none⟩ = some v ∧ PV bad w v (ts.map (·.b))) ∧ ∀ t ∈ ts, TeamAt bad w t

theorem PV.at {bad : Nat → Prop} {w : World} {v : Value} {ts : List Tm} (h : PV bad w v (ts.map (·.b))) :
    ∃ p c, v = .slice p ts.length c ∧ (ts = [] ∨ ∃ b off, p = some ⟨b, off, none⟩ ∧ ¬ bad b ∧ ∀ j (hj : j < ts.length), w.cell? ⟨b, off + j, none⟩ = some (.pointer (some ⟨ts[j].b, 0, none⟩))) := by
  obtain ⟨p, c, rfl, h | ⟨b, off, rfl, hb, hc⟩⟩ := h
  · exact ⟨p, c, by rw [List.length_map], Or.inl (List.map_eq_nil_iff.1 h)⟩
  · refine ⟨_, c, by rw [List.length_map], Or.inr ⟨b, off, rfl, hb, fun j hj => ?_⟩⟩
    have := hc j (by simpa using hj)
    simpa [List.getD, hj] using this

theorem team_any {bad : Nat → Prop} (sb : Nat) (ts : List Tm) (nm : ByteArray) (w : World) (hl : ts.length ≤ 8192) (h : StateAt bad w sb ts) :
    Calls Yba.prog 36 #[.pointer (some ⟨sb, 0, none⟩), .string nm] w fun e w' => e = .returned (ptrOf (findT ts nm)) ∧ w' = w := by
  obtain ⟨⟨v, hv, hp⟩, ht⟩ := h
  obtain ⟨p, c, rfl, rfl | ⟨b, off, rfl, hb, hc⟩⟩ := hp.at
  · exact team_empty _ _ _ _ _ hv
  · exact team_some sb b off c ts nm w hv hl hc fun j hj => (ht _ (List.getElem_mem hj)).2.1

/-! ### (*State).IsMember -/
def memberB (ts : List Tm) (nm x : ByteArray) : Bool := match findT ts nm with | some t => hasB t.mem x | none => false

set_option maxHeartbeats 400000 in
theorem isMember_any {bad : Nat → Prop} (sb : Nat) (ts : List Tm) (nm x : ByteArray) (w : World) (hl : ts.length ≤ 8192) (hm : ∀ t ∈ ts, t.mem.length ≤ 4096) (h : StateAt bad w sb ts) :
    Calls Yba.prog 22 #[.pointer (some ⟨sb, 0, none⟩), .string nm, .string x] w fun e w' => e = .returned (.bool (memberB ts nm x)) ∧ w' = w := by
  have hT := team_any sb ts nm w hl h
  rcases hf : findT ts nm with _ | t
  · have hB : memberB ts nm x = false := by unfold memberB; rw [hf]
    rw [hB]
    rw [hf] at hT
    unfold ptrOf at hT
    clear hf h hB hm
    go_enter Yba.func22, Yba.ntmps22
    go_wp2_with (go_at_call 36; refine hT.mono ?_; rintro e w' ⟨rfl, rfl⟩)
    go_ret
    exact ⟨rfl, rfl⟩
  · have hB : memberB ts nm x = hasB t.mem x := by unfold memberB; rw [hf]
    rw [hB]
    have hmem : t ∈ ts := List.mem_of_find?_eq_some hf
    rw [hf] at hT
    unfold ptrOf at hT
    obtain ⟨_, _, _, ⟨v, hv, sv⟩, _⟩ := h.2 t hmem
    have hC := contains_SV x w (hm t hmem) sv
    obtain ⟨p, c, rfl, _⟩ := sv
    clear hf h hB hm
    go_enter Yba.func22, Yba.ntmps22
    go_wp2_with (first | (go_at_call 36; refine hT.mono ?_; rintro e w' ⟨rfl, rfl⟩) | (go_at_call 23; refine hC.mono ?_; rintro e w' ⟨rfl, rfl⟩))
    go_ret
    exact ⟨rfl, rfl⟩

/-! ### Caller -/
def rootB (u : ByteArray) : Bool := u.toList == [114, 111, 111, 116]
def dfltB (n : ByteArray) : Bool := n.toList == [100, 101, 102, 97, 117, 108, 116]
def hostB (u n : ByteArray) (loc : Bool) : Bool := rootB u || (loc && dfltB n)
def callerV (u n : ByteArray) (loc : Bool) : Value := .agg #[.string u, .string n, .bool loc]

set_option maxHeartbeats 400000 in
theorem isRoot_any (u n : ByteArray) (loc : Bool) (w : World) :
    Calls Yba.prog 35 #[.agg #[.string u, .string n, .bool loc]] w fun e w' => e = .returned (.bool (rootB u)) ∧ Below w.heap.size w w' := by
  unfold rootB
  go_enter Yba.func35, Yba.ntmps35
  go_wp2
  go_ret
  exact ⟨rfl, (Below.refl _ _).alloc (Nat.le_refl _) _⟩

set_option maxHeartbeats 400000 in
theorem isHost_any (u n : ByteArray) (loc : Bool) (w : World) :
    Calls Yba.prog 21 #[.agg #[.string u, .string n, .bool loc]] w fun e w' => e = .returned (.bool (hostB u n loc)) ∧ Below w.heap.size w w' := by
  rcases hr : rootB u with _ | _
  · rcases loc with _ | _
    · have hB : hostB u n false = false := by unfold hostB; rw [hr]; rfl
      rw [hB]
      unfold rootB at hr
      clear hB
      go_enter Yba.func21, Yba.ntmps21
      go_wp2
      go_ret
      exact ⟨rfl, ((Below.refl _ _).alloc (Nat.le_refl _) _).alloc (by simp) _⟩
    · have hB : hostB u n true = (n.toList == [100, 101, 102, 97, 117, 108, 116]) := by unfold hostB; rw [hr]; rfl
      rw [hB]
      unfold rootB at hr
      clear hB
      go_enter Yba.func21, Yba.ntmps21
      go_wp2
      go_ret
      exact ⟨rfl, ((Below.refl _ _).alloc (Nat.le_refl _) _).alloc (by simp) _⟩
  · have hB : hostB u n loc = true := by unfold hostB; rw [hr]; rfl
    rw [hB]
    unfold rootB at hr
    clear hB
    go_enter Yba.func21, Yba.ntmps21
    go_wp2
    go_ret
    exact ⟨rfl, ((Below.refl _ _).alloc (Nat.le_refl _) _).alloc (by simp) _⟩

/-! ### access.unrestricted -/
theorem bcell {W w1 : World} (hb : Below W.heap.size W w1) : (∀ b o, b < W.heap.size → w1.cell? ⟨b, o, none⟩ = W.cell? ⟨b, o, none⟩) ∧ (∀ b o, b < W.heap.size → w1.frozen? ⟨b, o, none⟩ = W.frozen? ⟨b, o, none⟩) :=
  ⟨fun b o h => hb.cell (p := ⟨b, o, none⟩) h, fun b o h => hb.frozen (p := ⟨b, o, none⟩) h⟩

def unresB (ts : List Tm) (u n : ByteArray) (loc : Bool) : Bool := hostB u n loc || memberB ts adminB n

theorem StateAt.keeps {bad : Nat → Prop} {w w' : World} {sb : Nat} {ts : List Tm} (h : StateAt bad w sb ts) (hs : ¬ bad sb) (k : Keeps bad w w') : StateAt bad w' sb ts := by
  obtain ⟨⟨v, hv, hp⟩, ht⟩ := h
  exact ⟨⟨v, k.cell hs hv, hp.keeps k⟩, fun t hm => (ht t hm).keeps k⟩
theorem StateAt.below {bad : Nat → Prop} {w w' : World} {sb : Nat} {ts : List Tm} (h : StateAt bad w sb ts) (k : Below w.heap.size w w') : StateAt bad w' sb ts := by
  obtain ⟨⟨v, hv, hp⟩, ht⟩ := h
  exact ⟨⟨v, (k.cell (cell_lt hv)).trans hv, hp.below k⟩, fun t hm => (ht t hm).below k⟩

set_option maxHeartbeats 400000 in
theorem unres_any {bad : Nat → Prop} (sb : Nat) (ts : List Tm) (u n : ByteArray) (loc : Bool) (w : World) (hl : ts.length ≤ 8192) (hm : ∀ t ∈ ts, t.mem.length ≤ 4096) (h : StateAt bad w sb ts) :
    Calls Yba.prog 16 #[.pointer (some ⟨sb, 0, none⟩), .agg #[.string u, .string n, .bool loc]] w fun e w' => e = .returned (.bool (unresB ts u n loc)) ∧ Below w.heap.size w w' := by
  have hH := isHost_any u n loc (w.alloc (.cells #[.string u, .string n, .bool loc] 37))
  have hM : ∀ w', Below w.heap.size w w' → Calls Yba.prog 22 #[.pointer (some ⟨sb, 0, none⟩), .string ⟨#[97, 100, 109, 105, 110]⟩, .string n] w' fun e w'' => e = .returned (.bool (memberB ts adminB n)) ∧ w'' = w' := fun w' hb => isMember_any sb ts adminB n w' hl hm (h.below hb)
  rcases hr : hostB u n loc with _ | _
  · have hB : unresB ts u n loc = memberB ts adminB n := by unfold unresB; rw [hr]; rfl
    rw [hB]
    rw [hr] at hH
    have HM : Hid (∀ w', Below w.heap.size w w' → Calls Yba.prog 22 #[.pointer (some ⟨sb, 0, none⟩), .string ⟨#[97, 100, 109, 105, 110]⟩, .string n] w' fun e w'' => e = .returned (.bool (memberB ts adminB n)) ∧ w'' = w') := hM
    clear hB hM h hm hr
    go_enter Yba.func16, Yba.ntmps16
    go_wp2_with fail
    refine hH.mono ?_
    rintro e w1 ⟨rfl, hb⟩
    obtain ⟨hc, hf⟩ := bcell hb
    have hb2 : Below w.heap.size w w1 := ((Below.refl _ _).alloc (Nat.le_refl _) _).trans (hb.mono (by simp))
    go_wp2_with fail
    refine (HM.out w1 hb2).mono ?_
    rintro e w2 ⟨rfl, rfl⟩
    go_wp2
    go_ret
    exact ⟨rfl, hb2⟩
  · have hB : unresB ts u n loc = true := by unfold unresB; rw [hr]; rfl
    rw [hB]
    rw [hr] at hH
    clear hB hM h hm hr
    go_enter Yba.func16, Yba.ntmps16
    go_wp2_with fail
    refine hH.mono ?_
    rintro e w1 ⟨rfl, hb⟩
    have hb2 : Below w.heap.size w w1 := ((Below.refl _ _).alloc (Nat.le_refl _) _).trans (hb.mono (by simp))
    go_wp2
    go_ret
    exact ⟨rfl, hb2⟩

/-! ### access.belongs -/
def belongsB (t : Tm) (n : ByteArray) : Bool := hasB t.mem n || hasB t.adm n

set_option maxHeartbeats 800000 in
theorem belongs_any {bad : Nat → Prop} (t : Tm) (u n : ByteArray) (loc : Bool) (w : World) (hm : t.mem.length ≤ 4096) (ha : t.adm.length ≤ 4096) (h : TeamAt bad w t) :
    Calls Yba.prog 17 #[.pointer (some ⟨t.b, 0, none⟩), .agg #[.string u, .string n, .bool loc]] w fun e w' => e = .returned (.bool (belongsB t n)) ∧ Below w.heap.size w w' := by
  obtain ⟨_, h0, ⟨va, hva, sa⟩, ⟨vm, hvm, sm⟩, _⟩ := h
  have hal : ∀ o, Below w.heap.size w (w.alloc o) := fun o => (Below.refl _ _).alloc (Nat.le_refl _) _
  have hCm : ∀ o k, Calls Yba.prog 23 #[vm, .string n] ((w.alloc o).drewN k) fun e w' => e = .returned (.bool (hasB t.mem n)) ∧ w' = (w.alloc o).drewN k := fun o k => contains_SV n _ hm (sm.below (below_drewN (hal o) k))
  have hCa : ∀ o k, Calls Yba.prog 23 #[va, .string n] ((w.alloc o).drewN k) fun e w' => e = .returned (.bool (hasB t.adm n)) ∧ w' = (w.alloc o).drewN k := fun o k => contains_SV n _ ha (sa.below (below_drewN (hal o) k))
  obtain ⟨pa, ca, rfl, _⟩ := sa
  obtain ⟨pm, cm, rfl, _⟩ := sm
  have hlt := cell_lt h0
  have e1 := fun o => (hal o).cell (p := ⟨t.b, 1, none⟩) hlt
  have e2 := fun o => (hal o).cell (p := ⟨t.b, 2, none⟩) hlt
  clear hal
  rcases hr : hasB t.mem n with _ | _
  · have hB : belongsB t n = hasB t.adm n := by unfold belongsB; rw [hr]; rfl
    rw [hB]
    go_enter Yba.func17, Yba.ntmps17
    go_wp2
    clear hB
    rw [hr] at hCm
    go_quiet (first
      | (go_at_call_of 23 (Value.slice pm t.mem.length cm); exact Calls.quiet_of_same (hCm _ _))
      | (go_at_call_of 23 (Value.slice pa t.adm.length ca); exact Calls.quiet_of_same (hCa _ _)))
    go_wp2
    go_ret
    exact ⟨rfl, below_drewN ((Below.refl _ _).alloc (Nat.le_refl _) _) _⟩
  · have hB : belongsB t n = true := by unfold belongsB; rw [hr]; rfl
    rw [hB]
    clear hB
    rw [hr] at hCm
    go_enter Yba.func17, Yba.ntmps17
    go_wp2
    go_quiet (first
      | (go_at_call_of 23 (Value.slice pm t.mem.length cm); exact Calls.quiet_of_same (hCm _ _))
      | (go_at_call_of 23 (Value.slice pa t.adm.length ca); exact Calls.quiet_of_same (hCa _ _)))
    go_wp2
    go_ret
    exact ⟨rfl, below_drewN ((Below.refl _ _).alloc (Nat.le_refl _) _) _⟩
end Go.Proofs.Ybulkdvki
