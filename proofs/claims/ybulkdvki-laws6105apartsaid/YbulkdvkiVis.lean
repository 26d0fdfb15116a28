import Derived.Test.YbulkdvkiTeam
namespace Go.Proofs.Ybulkdvki
open Go Go.RowKit

/-! ### access.Teams -/
def visT (all : Bool) (n : ByteArray) (ts : List Tm) : List Tm := ts.filter fun t => all || belongsB t n
def visL (all : Bool) (n : ByteArray) (ts : List Tm) : List Nat := (visT all n ts).map (·.b)

theorem visL_keep (all : Bool) (n : ByteArray) (ts : List Tm) (k : Nat) (hk : k < ts.length) (e : (all || belongsB ts[k] n) = true) : visL all n (ts.take (k + 1)) = visL all n (ts.take k) ++ [ts[k].b] := by
  unfold visL visT
  rw [List.take_succ_eq_append_getElem hk, List.filter_append, List.map_append]
  simp [e]
theorem visL_drop (all : Bool) (n : ByteArray) (ts : List Tm) (k : Nat) (hk : k < ts.length) (e : (all || belongsB ts[k] n) = false) : visL all n (ts.take (k + 1)) = visL all n (ts.take k) := by
  unfold visL visT
  rw [List.take_succ_eq_append_getElem hk, List.filter_append, List.map_append]
  simp [e]
theorem visL_le (all : Bool) (n : ByteArray) (ts : List Tm) (k : Nat) : (visL all n (ts.take k)).length ≤ k := by
  unfold visL visT
  rw [List.length_map]
  exact Nat.le_trans (List.length_filter_le _ _) (List.length_take_le _ _)

theorem owns_nil_of {w : World} {base : Nat} {e : TypeId} : w.ownsRow base e 1 (.slice none 0 0) 0 [] := World.ownsRow_nil _ _ _ _

set_option maxHeartbeats 400000 in
theorem teams_empty {bad : Nat → Prop} (sb : Nat) (p : Option Addr) (c : Nat) (u n : ByteArray) (loc : Bool) (w : World) (hs : w.cell? ⟨sb, 0, none⟩ = some (.slice p 0 c)) (h : StateAt bad w sb []) :
    Calls Yba.prog 12 #[.pointer (some ⟨sb, 0, none⟩), .agg #[.string u, .string n, .bool loc]] w fun e w' => e = .returned (.slice none 0 0) ∧ Below w.heap.size w w' := by
  have hU := unres_any sb [] u n loc (w.alloc (.cells #[.string u, .string n, .bool loc] 37)) (by simp) (by simp) (h.below ((Below.refl _ _).alloc (Nat.le_refl _) _))
  have hlt := cell_lt hs
  generalize unresB [] u n loc = all at hU
  clear h
  go_enter Yba.func12, Yba.ntmps12
  go_wp2_with fail
  refine hU.mono ?_
  rintro e w1 ⟨rfl, hb⟩
  have hb2 : Below w.heap.size w w1 := ((Below.refl _ _).alloc (Nat.le_refl _) _).trans (hb.mono (by simp))
  have hc : w1.cell? ⟨sb, 0, none⟩ = some (.slice p 0 c) := (hb2.cell hlt).trans hs
  clear hb
  go_wp2
  go_loop [6, 17] (fun v i => i = .int .i64 0 ∧ v = .slice none 0 0) (fun _ _ => 0)
  case atStart => exact ⟨rfl, rfl⟩
  case round =>
    obtain ⟨rfl, rfl⟩ := hrel
    go_wp2
    go_ret
    exact ⟨rfl, hb2⟩

theorem owns_below {w w' : World} {base : Nat} {e : TypeId} {size : Nat} {v : Value} {n : Nat} {xs : List Value} (h : w.ownsRow base e size v n xs) (hb : Below w.heap.size w w') : w'.ownsRow base e size v n xs :=
  h.kept (row := none) ⟨hb.os, hb.tape, hb.output, hb.size, fun k hk _ => hb.block k hk⟩ (by cases v.ownBlock <;> simp)
theorem one_new (w : World) (x : Value) (t : TypeId) : ∀ j u, [x][j]? = some u → (w.alloc (.cells #[x] t)).cell? ((⟨w.heap.size, 0, none⟩ : Addr).add j) = some u :=
  World.news_of_block (cs := #[x]) (heap_alloc_new w _)

/-- what a round that keeps the team does to the row that is gathered -/
theorem rel_keep {W wr w1 : World} {B : Nat} {v v' : Value} {l : List Nat} {x : Nat} (hB : B ≤ wr.heap.size) (hown : wr.ownsRow B 30 1 v l.length (l.map ptrV)) (hbel : Below B W wr) (o : Obj)
    (hown' : w1.ownsRow B 30 1 v' (l.length + 1) (l.map ptrV ++ [ptrV x])) (hgrow : (wr.alloc o).grownBy w1 v.ownBlock) :
    w1.ownsRow B 30 1 v' (l ++ [x]).length ((l ++ [x]).map ptrV) ∧ Below B W w1 := by
  refine ⟨by simpa using hown', (hbel.alloc hB o).grown hgrow (by simp; omega) fun k hk => (hown.lt k hk).1⟩

set_option maxHeartbeats 1000000 in
set_option maxRecDepth 100000 in
theorem teams_some {bad : Nat → Prop} (sb b off c : Nat) (ts : List Tm) (u n : ByteArray) (loc : Bool) (w : World) (hl : ts.length ≤ 8192) (hm : ∀ t ∈ ts, t.mem.length ≤ 4096) (ha : ∀ t ∈ ts, t.adm.length ≤ 4096)
    (hs : w.cell? ⟨sb, 0, none⟩ = some (.slice (some ⟨b, off, none⟩) ts.length c)) (hp : ∀ j (hj : j < ts.length), w.cell? ⟨b, off + j, none⟩ = some (.pointer (some ⟨ts[j].b, 0, none⟩))) (h : StateAt bad w sb ts) :
    Calls Yba.prog 12 #[.pointer (some ⟨sb, 0, none⟩), .agg #[.string u, .string n, .bool loc]] w fun e w' => ∃ v, e = .returned v ∧ w'.ownsRow (w.heap.size + 1) 30 1 v (visL (unresB ts u n loc) n ts).length ((visL (unresB ts u n loc) n ts).map ptrV) ∧ Below w.heap.size w w' := by
  have hU := unres_any sb ts u n loc (w.alloc (.cells #[.string u, .string n, .bool loc] 37)) hl hm (h.below ((Below.refl _ _).alloc (Nat.le_refl _) _))
  have hlt := cell_lt hs
  obtain ⟨i0, hi, hz0, hz1, hz2⟩ := info_parts i30
  have HT : Hid (∀ t ∈ ts, TeamAt bad w t) := h.2
  have HM : Hid (∀ t ∈ ts, t.mem.length ≤ 4096) := hm
  have HA : Hid (∀ t ∈ ts, t.adm.length ≤ 4096) := ha
  have HP : Hid (∀ j (hj : j < ts.length), w.cell? ⟨b, off + j, none⟩ = some (.pointer (some ⟨ts[j].b, 0, none⟩))) := hp
  generalize unresB ts u n loc = all at hU
  clear h hm ha hp
  go_enter Yba.func12, Yba.ntmps12
  go_wp2_with fail
  refine hU.mono ?_
  rintro e w1 ⟨rfl, hb⟩
  have hb1 : Below (w.heap.size + 1) (w.alloc (.cells #[.string u, .string n, .bool loc] 37)) w1 := hb.mono (by simp)
  have hb2 : Below w.heap.size w w1 := ((Below.refl _ _).alloc (Nat.le_refl _) _).trans (hb1.mono (by omega))
  have hc : w1.cell? ⟨sb, 0, none⟩ = some (.slice (some ⟨b, off, none⟩) ts.length c) := (hb2.cell hlt).trans hs
  have HS1 : Hid (w.heap.size + 1 ≤ w1.heap.size) := by have := hb.size; simp at this; exact this
  have HB1 : Hid (Below (w.heap.size + 1) (w.alloc (.cells #[.string u, .string n, .bool loc] 37)) w1) := hb1
  have HB2 : Hid (Below w.heap.size w w1) := hb2
  clear hb hb1 hb2
  go_wp2
  clear hc
  go_loopw [6, 17] (fun v i wr => ∃ k : Nat, k ≤ ts.length ∧ i = .int .i64 k ∧ wr.ownsRow (w.heap.size + 1) 30 1 v (visL all n (ts.take k)).length ((visL all n (ts.take k)).map ptrV) ∧ Below (w.heap.size + 1) w1 wr) (fun _ i _ => ts.length - (intOf i).toNat)
  case atStart => exact ⟨0, Nat.zero_le _, rfl, World.ownsRow_nil _ _ _ _, Below.refl _ _⟩
  case round =>
    obtain ⟨k, hk, rfl, hown, hbel⟩ := hrel
    by_cases hlt' : k < ts.length
    · have hmemb := List.getElem_mem hlt'
      have hbw : Below w.heap.size w wr := HB2.out.trans (hbel.mono (by omega))
      have hcp : wr.cell? ⟨b, off + k, none⟩ = some (.pointer (some ⟨ts[k].b, 0, none⟩)) := (hbw.cell (cell_lt (HP.out k hlt'))).trans (HP.out k hlt')
      have hbx : Below (w.heap.size + 1) (w.alloc (.cells #[.string u, .string n, .bool loc] 37)) wr := HB1.out.trans hbel
      have x0 : wr.cell? ⟨w.heap.size, 0, none⟩ = some (.string u) := (hbx.cell (by simp)).trans (by simp)
      have x1 : wr.cell? ⟨w.heap.size, 1, none⟩ = some (.string n) := (hbx.cell (by simp)).trans (by simp)
      have x2 : wr.cell? ⟨w.heap.size, 2, none⟩ = some (.bool loc) := (hbx.cell (by simp)).trans (by simp)
      have hvl := visL_le all n ts k
      have hsz : w.heap.size + 1 ≤ wr.heap.size := Nat.le_trans HS1.out hbel.size
      cases all with
      | true =>
        have HK : Hid (visL true n (ts.take (k + 1)) = visL true n (ts.take k) ++ [ts[k].b]) := visL_keep true n ts k hlt' rfl
        go_wp2_with (at_builtin; refine wpList_append_own _ rfl _ _ 27 rfl (w.heap.size + 1) 30 i0 (.pointer none) 1 8 Yba.underlying27 hi hz0 hz1 hz2 rfl (by decide) _ _ _ rfl (hown.alloc _) ⟨wr.heap.size, 0, none⟩ 1 1 [ptrV ts[k].b] rfl rfl (one_new _ _ _) (by intro u hu; simp at hu; subst hu; rfl) (by unfold maxLen; omega) (by omega) (by simp; omega) ?_)
        intro v' w2 hown' hgrow _
        have R := rel_keep hsz hown hbel _ hown' hgrow
        clear hown hown' hgrow hbel hbw hcp hbx x0 x1 x2
        go_wp2
        go_roundw
        case rel => exact ⟨k + 1, by omega, by go_num, by rw [HK.out]; exact R.1, R.2⟩
        case measure => simp [intOf]; omega
      | false =>
        have hBl := belongs_any ts[k] u n loc wr (HM.out _ hmemb) (HA.out _ hmemb) ((HT.out _ hmemb).below hbw)
        rcases hbe : belongsB ts[k] n with _ | _
        · rw [hbe] at hBl
          have HK : Hid (visL false n (ts.take (k + 1)) = visL false n (ts.take k)) := visL_drop false n ts k hlt' (by rw [hbe]; rfl)
          clear hbe
          go_wp2_with fail
          refine hBl.mono ?_
          rintro e w2 ⟨rfl, hb3⟩
          have R1 := owns_below hown hb3
          have R2 := hbel.trans (hb3.mono hsz)
          clear hown hbel hbw hcp hbx x0 x1 x2 hb3
          go_wp2
          go_roundw
          case rel => exact ⟨k + 1, by omega, by go_num, by rw [HK.out]; exact R1, R2⟩
          case measure => simp [intOf]; omega
        · rw [hbe] at hBl
          have HK : Hid (visL false n (ts.take (k + 1)) = visL false n (ts.take k) ++ [ts[k].b]) := visL_keep false n ts k hlt' (by rw [hbe]; rfl)
          clear hbe
          go_wp2_with fail
          refine hBl.mono ?_
          rintro e w2 ⟨rfl, hb3⟩
          have R1 := owns_below hown hb3
          have R2 := hbel.trans (hb3.mono hsz)
          have hsz2 : w.heap.size + 1 ≤ w2.heap.size := Nat.le_trans hsz hb3.size
          clear hown hbel hbw hcp hbx x0 x1 x2 hb3
          go_wp2_with (at_builtin; refine wpList_append_own _ rfl _ _ 27 rfl (w.heap.size + 1) 30 i0 (.pointer none) 1 8 Yba.underlying27 hi hz0 hz1 hz2 rfl (by decide) _ _ _ rfl (R1.alloc _) ⟨w2.heap.size, 0, none⟩ 1 1 [ptrV ts[k].b] rfl rfl (one_new _ _ _) (by intro u hu; simp at hu; subst hu; rfl) (by unfold maxLen; omega) (by omega) (by simp; omega) ?_)
          intro v' w3 hown' hgrow _
          have R := rel_keep hsz2 R1 R2 _ hown' hgrow
          clear R1 R2 hown' hgrow
          go_wp2
          go_roundw
          case rel => exact ⟨k + 1, by omega, by go_num, by rw [HK.out]; exact R.1, R.2⟩
          case measure => simp [intOf]; omega
    · rw [List.take_of_length_le (by omega)] at hown
      have HW : Hid (Below w.heap.size w wr) := HB2.out.trans (hbel.mono (by omega))
      clear hbel
      go_wp2
      go_ret
      exact ⟨_, rfl, hown, HW.out⟩
end Go.Proofs.Ybulkdvki
