import Derived.Test.YbulkdvkiTwo
import Derived.Deep.RegionHeld3
import Derived.Deep.DeepCutAuto
import Derived.Lib.Builder
namespace Go.Proofs.Ybulkdvki
open Go Go.RowKit
set_option linter.unusedSimpArgs false

def none_ : Nat → Prop := fun _ => False

/-- the slice of teams that came in: ag: what each element reads ag -/
def ArgT (w : World) (p : Option Addr) (ag : List Tm) : Prop :=
  ag = [] ∨ ∃ b off, p = some ⟨b, off, none⟩ ∧ ∀ j (hj : j < ag.length), w.cell? ⟨b, off + j * 3, none⟩ = some (.string ag[j].nm) ∧
    (∃ v, w.cell? ⟨b, off + j * 3 + 1, none⟩ = some v ∧ SV none_ w v ag[j].adm) ∧ (∃ v, w.cell? ⟨b, off + j * 3 + 2, none⟩ = some v ∧ SV none_ w v ag[j].mem)

/-- the sum that the law reckons -/
def sumT (ag : List Tm) : Nat := (ag.map fun t => t.adm.length + t.mem.length).sum

theorem sumT_snoc (ag : List Tm) (k : Nat) (hk : k < ag.length) : sumT (ag.take (k + 1)) = sumT (ag.take k) + (ag[k].adm.length + ag[k].mem.length) := by
  unfold sumT
  rw [List.take_succ_eq_append_getElem hk, List.map_append, List.sum_append]
  simp

/-- the teams ts are built like those that came in -/
def Like (ag ts : List Tm) : Prop := ts.map (fun t => (t.nm, t.mem, t.adm)) = ag.map (fun t => (nameB t.nm, t.mem, t.adm))
theorem Like.nil : Like [] [] := rfl
theorem Like.length {ag ts : List Tm} (h : Like ag ts) : ts.length = ag.length := by
  have := congrArg List.length h
  simpa using this
theorem Like.snoc {ag ts : List Tm} {k : Nat} (hk : k < ag.length) (h : Like (ag.take k) ts) (b : Nat) : Like (ag.take (k + 1)) (ts ++ [⟨b, nameB ag[k].nm, ag[k].mem, ag[k].adm⟩]) := by
  unfold Like at *
  rw [List.take_succ_eq_append_getElem hk, List.map_append, List.map_append, h]
  rfl
def admL (h : Bool) (tb : Nat) (l2 l3 : List ByteArray) : List Tm := if h then [⟨tb, ⟨#[97, 100, 109, 105, 110]⟩, l2, l3⟩] else []

theorem sumT_le (ag : List Tm) (k : Nat) (hk : k < ag.length) : ag[k].adm.length + ag[k].mem.length ≤ sumT ag := by
  have h1 := sumT_snoc ag k hk
  have h2 : sumT ag = sumT (ag.take (k + 1)) + sumT (ag.drop (k + 1)) := by
    unfold sumT
    rw [← List.sum_append, ← List.map_append, List.take_append_drop]
  omega

theorem as44 (v : Value) (w : World) : (Instr.typeAssert (.iface 44 v) 39 44 true).run Yba.prog w = .ok (.tuple #[v, .bool true]) w := by kernel_rfl

theorem i33 : ∃ j, Yba.prog.info? 33 = some j := by
  have h : (Yba.prog.info? 33).isSome = true := by kernel_rfl
  exact Option.isSome_iff_exists.1 h
theorem ptr_same (a : Addr) (w : World) : (binOp .neq 30 (.pointer (some a)) (.pointer (some a))).run Yba.prog w = .ok (.bool false) w := by
  obtain ⟨j, hj⟩ := i33
  exact Lib.run_neq_ptr_same w a Yba.underlying30 hj

theorem like_at {ts0 ts T ag : List Tm} (hT : ts0 ++ ts = T) (hl : Like ag ts) {k : Nat} (hk : k < ag.length) :
    ∃ h : ts0.length + k < T.length, T[ts0.length + k].nm = nameB ag[k].nm ∧ T[ts0.length + k].mem = ag[k].mem ∧ T[ts0.length + k].adm = ag[k].adm := by
  have hlen := hl.length
  subst hT
  refine ⟨by rw [List.length_append]; omega, ?_⟩
  rw [List.getElem_append_right (by omega)]
  have h1 : ts0.length + k - ts0.length = k := by omega
  have hk' : k < ts.length := by omega
  have h2 : (ts.map fun t => (t.nm, t.mem, t.adm))[k]'(by simpa using hk') = (ag.map fun t => (nameB t.nm, t.mem, t.adm))[k]'(by simpa using hk) := by
    have := hl
    unfold Like at this
    simp only [this]
  simp only [List.getElem_map, Prod.mk.injEq] at h2
  simp only [h1]
  exact h2

theorem lens_T {h : Bool} {tb : Nat} {l2 l3 : List ByteArray} {ts0 ts ag : List Tm} (h0 : admL h tb l2 l3 = ts0) (hl : Like ag ts) (h2 : l2.length ≤ 4096) (h3 : l3.length ≤ 4096)
    (hs : ∀ j (hj : j < ag.length), ag[j].adm.length + ag[j].mem.length ≤ 4096) : ∀ t ∈ ts0 ++ ts, t.mem.length ≤ 4096 ∧ t.adm.length ≤ 4096 := by
  intro t ht
  rcases List.mem_append.1 ht with h1 | h1
  · subst h0
    cases h with
    | false => cases h1
    | true =>
      simp [admL] at h1
      subst h1
      exact ⟨h2, h3⟩
  · have hm : (t.nm, t.mem, t.adm) ∈ ag.map (fun t => (nameB t.nm, t.mem, t.adm)) := by
      rw [← hl]
      exact List.mem_map.2 ⟨t, h1, rfl⟩
    obtain ⟨a, ha, he⟩ := List.mem_map.1 hm
    obtain ⟨j, hj, rfl⟩ := List.getElem_of_mem ha
    have := hs j hj
    injection he with _ he
    injection he with he1 he2
    rw [← he1, ← he2]
    omega

set_option maxHeartbeats 60000000 in
set_option maxRecDepth 100000 in
theorem law_any (p0 : Option Addr) (c0 : Nat) (ag : List Tm) (hasAdmin : Bool) (v2 v3 : Value) (l2 l3 : List ByteArray) (u n : ByteArray) (loc : Bool) (w : World)
    (hA : ArgT w p0 ag) (h2 : SV none_ w v2 l2) (h3 : SV none_ w v3 l3) (hN : ag.length ≤ 8796093022208) (hN2 : l2.length ≤ 8796093022208) (hN3 : l3.length ≤ 8796093022208)
    (hE : ∀ j (hj : j < ag.length), ag[j].adm.length ≤ 8796093022208 ∧ ag[j].mem.length ≤ 8796093022208) :
    Calls Yba.prog 3 #[.slice p0 ag.length c0, .bool hasAdmin, v2, v3, .string u, .string n, .bool loc] w fun e w' => e = .returned (.bool true) ∧ Below w.heap.size w w' := by
  have HA : Hid (ArgT w p0 ag) := hA
  have H2 : Hid (SV none_ w v2 l2) := h2
  have H3 : Hid (SV none_ w v3 l3) := h3
  have HE : Hid (∀ j (hj : j < ag.length), ag[j].adm.length ≤ 8796093022208 ∧ ag[j].mem.length ≤ 8796093022208) := hE
  obtain ⟨p2, c2, rfl, _⟩ := h2
  obtain ⟨p3, c3, rfl, _⟩ := h3
  clear hA hE
  go_enter Yba.func3, Yba.ntmps3
  go_wp2_with fail
  go_loopw [15, 16] (fun t i wr => ∃ k : Nat, k ≤ ag.length ∧ i = .int .i64 k ∧ t = .int .i64 ((ag.length : Int) + (l2.length : Int) + (l3.length : Int) + (sumT (ag.take k) : Int)) ∧ ag.length + l2.length + l3.length + sumT (ag.take k) ≤ 100000000000000 ∧ ∃ q, wr = w.drewN q) (fun _ i _ => ag.length - (intOf i).toNat)
  case atStart => exact ⟨0, Nat.zero_le _, rfl, by simp [sumT], by simp [sumT]; omega, 0, rfl⟩
  case round =>
    obtain ⟨k, hk, rfl, rfl, htb, q, rfl⟩ := hrel
    by_cases hlt : k < ag.length
    · by_cases hle : ag.length + l2.length + l3.length + sumT (ag.take k) ≤ 4096
      · rcases HA.out with rfl | ⟨b, off, rfl, hcl⟩
        · simp at hlt
        · obtain ⟨x0, ⟨va, xa, sa⟩, ⟨vm, xm, sm⟩⟩ := hcl k hlt
          obtain ⟨pa, ca, rfl, _⟩ := sa
          obtain ⟨pm, cm, rfl, _⟩ := sm
          have hE := HE.out k hlt
          have hE1 := hE.1
          have hE2 := hE.2
          have HSn : Hid (sumT (ag.take (k + 1)) = sumT (ag.take k) + (ag[k].adm.length + ag[k].mem.length)) := sumT_snoc ag k hlt
          generalize hgs : sumT (ag.take k) = sg at *
          clear hcl hE hgs
          go_wp2_with fail
          go_quiet (fail)
          go_wp2_with fail
          go_roundw
          case rel => exact ⟨k + 1, by omega, by go_num, by rw [HSn.out]; go_num, by rw [HSn.out]; omega, _, rfl⟩
          case measure => simp [intOf]; omega
      · have hgt : ¬ ((ag.length : Int) + l2.length + l3.length + sumT (ag.take k) ≤ 4096) := by omega
        have hgt' : (4096 : Int) < (ag.length : Int) + l2.length + l3.length + sumT (ag.take k) := by omega
        generalize sumT (ag.take k) = sg at *
        clear hle htb
        go_wp2_with fail
        go_ret
        exact ⟨rfl, below_drewN (Below.refl _ _) _⟩
    · have hkn : ag.take k = ag := List.take_of_length_le (by omega)
      rw [hkn] at htb ⊢
      clear hkn
      by_cases hle : ag.length + l2.length + l3.length + sumT ag ≤ 4096
      · have hSm : ∀ j (hj : j < ag.length), ag[j].adm.length + ag[j].mem.length ≤ 4096 := fun j hj => Nat.le_trans (sumT_le ag j hj) (by omega)
        have HSm : Hid (∀ j (hj : j < ag.length), ag[j].adm.length + ag[j].mem.length ≤ 4096) := hSm
        have hn0 : ag.length ≤ 4096 := by omega
        have hn2 : l2.length ≤ 4096 := by omega
        have hn3 : l3.length ≤ 4096 := by omega
        have hgt' : ¬ (4096 : Int) < (ag.length : Int) + l2.length + l3.length + sumT ag := by omega
        have hle' : (ag.length : Int) + l2.length + l3.length + sumT ag ≤ 4096 := by omega
        generalize sumT ag = sg at *
        clear hle htb hSm HE hN hN2 hN3
        obtain ⟨i0, hi, hz0, hz1, hz2⟩ := info_parts i30
        go_upto_if 72 with (fail)
        go_cut [17] from 73 to 87 (fun s wx => s = .pointer (some ⟨w.heap.size, 0, none⟩) ∧ ∃ tb, BuiltAt w (admL hasAdmin tb l2 l3) wx)
        case first =>
          --BEGIN R10
          cases hasAdmin with
          | false =>
            go_wp2_with fail
            go_meet
            case rel => exact ⟨rfl, 0, BuiltAt.start w q⟩
          | true =>
            go_wp2_with fail
            have hS00 : RA w (.slice none 0 0) ((w.drewN q).alloc (.cells #[.slice none 0 0] 29)) := ⟨(below_drewN (Below.refl _ _) _).alloc (Nat.le_refl _) _, World.cell?_alloc_new (w.drewN q) _ _ _⟩
            refine Ord.wp_region_T (RA w (.slice none 0 0)) 15 (by kernel_rfl) ?_
            have hS0 : RA w (.slice none 0 0) ((w.drewN q).alloc (.cells #[.slice none 0 0] 29)).drew := hS00.mk (Below.refl _ _).drew
            refine Ord.wpT_take 0 (v := Value.pointer (some ⟨w.heap.size, 0, none⟩)) rfl (by kernel_rfl) (by kernel_rfl) (by kernel_rfl) (by kernel_rfl) (by kernel_rfl) (fun _ _ _ h => h) (Or.inl ⟨by rfl, fun w' hSw => ?_⟩) hS0 ?_
            · obtain ⟨_, hx1⟩ := hSw
              go_simp
            simp only [Act.put, List.setIfInBounds_toArray, List.set_cons_zero, List.set_cons_succ]
            refine Ord.wpT_take 1 (v := Value.pointer (some ⟨w.heap.size, 0, none⟩)) rfl (by kernel_rfl) (by kernel_rfl) (by kernel_rfl) (by kernel_rfl) (by kernel_rfl) (fun _ _ _ h => h) (Or.inl ⟨by rfl, fun w' hSw => ?_⟩) hS0 ?_
            · obtain ⟨_, hx1⟩ := hSw
              go_simp
            simp only [Act.put, List.setIfInBounds_toArray, List.set_cons_zero, List.set_cons_succ]
            refine Ord.wpT_take 2 (v := Value.pointer (some ⟨w.heap.size, 0, none⟩)) rfl (by kernel_rfl) (by kernel_rfl) (by kernel_rfl) (by kernel_rfl) (by kernel_rfl) (fun _ _ _ h => h) (Or.inl ⟨by rfl, fun w' hSw => ?_⟩) hS0 ?_
            · obtain ⟨_, hx1⟩ := hSw
              go_simp
            simp only [Act.put, List.setIfInBounds_toArray, List.set_cons_zero, List.set_cons_succ]
            refine Ord.wpT_take 3 (v := Value.pointer (some ⟨w.heap.size, 0, none⟩)) rfl (by kernel_rfl) (by kernel_rfl) (by kernel_rfl) (by kernel_rfl) (by kernel_rfl) (fun _ _ _ h => h) (Or.inl ⟨by rfl, fun w' hSw => ?_⟩) hS0 ?_
            · obtain ⟨_, hx1⟩ := hSw
              go_simp
            simp only [Act.put, List.setIfInBounds_toArray, List.set_cons_zero, List.set_cons_succ]
            refine Ord.wpT_take 4 (v := Value.slice none 0 0) rfl (by kernel_rfl) (by kernel_rfl) (by kernel_rfl) (by kernel_rfl) (by kernel_rfl) (fun _ _ _ h => h) (Or.inl ⟨by rfl, fun w' hSw => ?_⟩) hS0 ?_
            · obtain ⟨_, hx1⟩ := hSw
              go_simp
            simp only [Act.put, List.setIfInBounds_toArray, List.set_cons_zero, List.set_cons_succ]
            refine Ord.wpT_take 5 (v := Value.slice p2 l2.length c2) rfl (by kernel_rfl) (by kernel_rfl) (by kernel_rfl) (by kernel_rfl) (by kernel_rfl) (fun _ _ _ h => h) (Or.inl ⟨by rfl, fun w' hSw => ?_⟩) hS0 ?_
            · obtain ⟨_, hx1⟩ := hSw
              go_simp
            simp only [Act.put, List.setIfInBounds_toArray, List.set_cons_zero, List.set_cons_succ]
            refine Ord.wpT_take 7 (v := Value.slice p3 l3.length c3) rfl (by kernel_rfl) (by kernel_rfl) (by kernel_rfl) (by kernel_rfl) (by kernel_rfl) (fun _ _ _ h => h) (Or.inl ⟨by rfl, fun w' hSw => ?_⟩) hS0 ?_
            · obtain ⟨_, hx1⟩ := hSw
              go_simp
            simp only [Act.put, List.setIfInBounds_toArray, List.set_cons_zero, List.set_cons_succ]
            have hz0' : w.heap.size + 1 ≤ ((w.drewN q).alloc (.cells #[.slice none 0 0] 29)).drew.heap.size := by simp
            have hr0 : Below ((w.drewN q).alloc (.cells #[.slice none 0 0] 29)).heap.size ((w.drewN q).alloc (.cells #[.slice none 0 0] 29)) ((w.drewN q).alloc (.cells #[.slice none 0 0] 29)).drew := (Below.refl _ _).drew
            refine Ord.wpT_one 6 (by kernel_rfl) (Ord.wpOp_run rfl rfl ?_)
            go_simp
            refine (clone_SV _ hn2 (H2.out.below hS0.1)).mono ?_
            rintro e w1 ⟨v1, rfl, sv1, hb1⟩
            have hS1 := hS0.mk hb1
            have hr1 := hr0.trans (hb1.mono hr0.size)
            have H1 : Hid (SV (fun k => k < w.heap.size + 1) w1 v1 l2) := sv1.weaken (fun i hi h => Nat.lt_of_lt_of_le h hz0')
            obtain ⟨pm, cm, rfl, _⟩ := sv1
            refine ⟨hS1, ?_⟩
            refine Ord.wpT_one 8 (by kernel_rfl) (Ord.wpOp_run rfl rfl ?_)
            go_simp
            refine (clone_SV _ hn3 (H3.out.below hS1.1)).mono ?_
            rintro e w2 ⟨v2, rfl, sv2, hb2⟩
            have hS2 := hS1.mk hb2
            have hr2 := hr1.trans (hb2.mono hr1.size)
            have H1' : Hid (SV (fun k => k < w.heap.size + 1) w2 (.slice pm l2.length cm) l2) := H1.out.below hb2
            have H2' : Hid (SV (fun k => k < w.heap.size + 1) w2 v2 l3) := sv2.weaken (fun i hi h => Nat.lt_of_lt_of_le h (Nat.le_trans hz0' hb1.size))
            obtain ⟨pa, ca, rfl, _⟩ := sv2
            refine ⟨hS2, ?_⟩
            refine Ord.wpT_take 9 (v := Value.agg #[.string ⟨#[97, 100, 109, 105, 110]⟩, .slice pa l3.length ca, .slice pm l2.length cm, .slice none 0 0, .slice none 0 0, .slice none 0 0]) rfl (by kernel_rfl) (by kernel_rfl) (by kernel_rfl) (by kernel_rfl) (by kernel_rfl) (fun _ _ _ h => h) (Or.inl ⟨by rfl, fun w' hSw => ?_⟩) hS2 ?_
            · obtain ⟨_, hx1⟩ := hSw
              go_simp
            simp only [Act.put, List.setIfInBounds_toArray, List.set_cons_zero, List.set_cons_succ]
            refine Ord.wpT_one 10 (by kernel_rfl) (Ord.wpOp_run rfl rfl ?_)
            go_simp
            have hS3 := hS2.mk (below_alloc w2 (.cells #[.string ⟨#[97, 100, 109, 105, 110]⟩, .slice pa l3.length ca, .slice pm l2.length cm, .slice none 0 0, .slice none 0 0, .slice none 0 0] 33))
            have hT3 := team_new (nm := ⟨#[97, 100, 109, 105, 110]⟩) (B := w.heap.size + 1) (Nat.le_trans hz0' (Nat.le_trans hb1.size hb2.size)) H2'.out H1'.out
            refine ⟨hS3, ?_⟩
            refine Ord.wpT_one 11 (by kernel_rfl) (Ord.wpOp_run rfl rfl ?_)
            go_simp
            have hS4 := hS3.mk (below_alloc _ (.cells #[.pointer (some ⟨w2.heap.size, 0, none⟩)] 30))
            refine ⟨hS4, ?_⟩
            refine Ord.wpT_one 12 (by kernel_rfl) (Ord.wpOp_run rfl rfl ?_)
            refine wp_append_lies _ (.tmp 77) (.tmp 84) 27 rfl (w.heap.size + 1) 30 i0 (.pointer none) 1 8 Yba.underlying27 hi hz0 hz1 hz2 rfl (by decide) (.slice none 0 0) 0 [] rfl (World.ownsRow_nil _ _ _ _) ⟨w2.heap.size + 1, 0, none⟩ 1 1 [ptrV w2.heap.size] rfl rfl ?n1 ?n2 (by decide) (by unfold maxLen; omega) (by omega) ?n3 (w2.heap.size + 2) ?n4 ?_
            case n1 =>
              have hnw := one_new (w2.alloc (.cells #[.string ⟨#[97, 100, 109, 105, 110]⟩, .slice pa l3.length ca, .slice pm l2.length cm, .slice none 0 0, .slice none 0 0, .slice none 0 0] 33)) (.pointer (some ⟨w2.heap.size, 0, none⟩)) 30
              rw [World.size_alloc] at hnw
              exact hnw
            case n2 => intro u hu; simp at hu; subst hu; rfl
            case n3 => have h1 := hb1.size; have h2 := hb2.size; simp at h1 ⊢; omega
            case n4 => simp
            intro g cap w5 hown5 hgrow hat hlt5
            have hS5 := hS4.grown hgrow (fun k hk => by cases hk)
            have hf5 : w5.frozen? ⟨w.heap.size, 0, none⟩ = false := by
              rw [hgrow.frozen_far _ (cell_lt hS4.2) (by simp [Value.ownBlock])]
              have h1 : ((w.drewN q).alloc (.cells #[.slice none 0 0] 29)).frozen? ⟨w.heap.size, 0, none⟩ = false := World.frozen?_alloc_new (w.drewN q) _ _ _
              rw [← h1]
              exact ((hr2.trans ((below_alloc _ _).mono hr2.size)).trans ((below_alloc _ _).mono (Nat.le_trans hr2.size (by simp)))).frozen (by simp)
            refine ⟨fun _ => hS5, ?_⟩
            simp only [Act.put, List.setIfInBounds_toArray, List.set_cons_zero, List.set_cons_succ]
            refine Ord.wpT_one 13 (by kernel_rfl) (Ord.wpOp_run rfl rfl ?_)
            go_simp
            refine Ord.wpT_one 14 (by kernel_rfl) (Ord.wpOp_run rfl rfl ?_)
            go_simp
            refine Ord.wpT_one 15 (by kernel_rfl) (Ord.wpOp_run rfl rfl ?_)
            have hc5 := hS5.2
            go_simp
            refine Ord.wpT_done (by kernel_rfl) ?_ _
            go_wp2_with fail
            go_meet
            case rel =>
              have hT4 := hT3.below (below_alloc _ (.cells #[.pointer (some ⟨w2.heap.size, 0, none⟩)] 30))
              have hr4 := (hr2.trans ((below_alloc w2 (.cells #[.string ⟨#[97, 100, 109, 105, 110]⟩, .slice pa l3.length ca, .slice pm l2.length cm, .slice none 0 0, .slice none 0 0, .slice none 0 0] 33)).mono hr2.size)).trans ((below_alloc _ (.cells #[.pointer (some ⟨w2.heap.size, 0, none⟩)] 30)).mono (Nat.le_trans hr2.size (by simp)))
              have hst := built_step (w := w) (ts := []) (t := ⟨w2.heap.size, ⟨#[97, 100, 109, 105, 110]⟩, l2, l3⟩) hS00.2 (World.frozen?_alloc_new (w.drewN q) _ _ _) (World.ownsRow_nil _ _ _ _) (fun t ht => by cases ht) hS00.1 (by simp) hr4 (by simpa using hT4) hown5 hgrow hat (by simp)
              exact ⟨rfl, w2.heap.size, hst⟩
          --END R10
        case rest =>
          obtain ⟨rfl, tb0, hbuilt⟩ := hcut
          have HBu : Hid (BuiltAt w (admL hasAdmin tb0 l2 l3) wc) := hbuilt
          clear hbuilt
          clear hk hlt
          have hadl : (admL hasAdmin tb0 l2 l3).length ≤ 1 := by cases hasAdmin <;> simp [admL]
          generalize hts0 : admL hasAdmin tb0 l2 l3 = ts0 at *
          have HTs0 : Hid (admL hasAdmin tb0 l2 l3 = ts0) := hts0
          clear hts0
          go_wp2_with fail
          go_loopw [18] (fun i wr => ∃ k : Nat, k ≤ ag.length ∧ i = .int .i64 k ∧ ∃ ts, Like (ag.take k) ts ∧ BuiltAt w (ts0 ++ ts) wr) (fun i _ => ag.length - (intOf i).toNat)
          case atStart => exact ⟨0, Nat.zero_le _, rfl, [], Like.nil, by simpa using HBu.out⟩
          case round =>
            obtain ⟨k, hk, rfl, ts, hlike, v, hcv, hfv, hown, htm, hbel, hsz⟩ := hrel
            have hlk : ts.length = k := by rw [hlike.length, List.length_take]; omega
            have HLk : Hid (Like (ag.take k) ts) := hlike
            have HOw : Hid (wr.ownsRow (w.heap.size + 1) 30 1 v (ts0 ++ ts).length (((ts0 ++ ts).map Tm.b).map ptrV)) := hown
            have HTm : Hid (∀ t ∈ ts0 ++ ts, TeamAt (fun k => k ≤ w.heap.size ∨ v.ownBlock = some k) wr t) := htm
            have HBe : Hid (Below w.heap.size w wr) := hbel
            have HSz : Hid (w.heap.size + 1 ≤ wr.heap.size) := hsz
            have hnl : (ts0 ++ ts).length ≤ 4097 := by rw [List.length_append]; omega
            have HHl : Hid (ts.length = k) := hlk
            clear hlike hown htm hlk
            by_cases hlt : k < ag.length
            · --BEGIN R14
              rcases HA.out with rfl | ⟨b, off, rfl, hcl⟩
              · simp at hlt
              obtain ⟨x0, ⟨va, xa, sa⟩, ⟨vm, xm, sm⟩⟩ := hcl k hlt
              have hbB := cell_lt x0
              have hE := HSm.out k hlt
              have hEa : ag[k].adm.length ≤ 4096 := by omega
              have hEm : ag[k].mem.length ≤ 4096 := by omega
              have hS00 : RS w v b (off + k * 3) ag[k].nm va vm wr := ⟨hbel, hcv, (hbel.cell (p := ⟨b, off + k * 3, none⟩) hbB).trans x0, (hbel.cell (p := ⟨b, off + k * 3 + 1, none⟩) hbB).trans xa, (hbel.cell (p := ⟨b, off + k * 3 + 2, none⟩) hbB).trans xm⟩
              have HSa : Hid (SV none_ w va ag[k].adm) := sa
              have HSm' : Hid (SV none_ w vm ag[k].mem) := sm
              obtain ⟨pa, ca, rfl, _⟩ := sa
              obtain ⟨pm, cm, rfl, _⟩ := sm
              have hi1 : (k : Int) < (ag.length : Int) := by omega
              have hi2 : (0 : Int) ≤ (k : Int) := by omega
              clear hcl hE hbel x0 xa xm hsz
              have HCv : Hid (wr.cell? ⟨w.heap.size, 0, none⟩ = some v) := hcv
              clear hcv
              go_wp2_with fail
              refine Ord.wp_region_T (RS w v b (off + k * 3) ag[k].nm (Value.slice pa ag[k].adm.length ca) (Value.slice pm ag[k].mem.length cm)) 29 (by kernel_rfl) ?_
              have hS0 : RS w v b (off + k * 3) ag[k].nm (Value.slice pa ag[k].adm.length ca) (Value.slice pm ag[k].mem.length cm) wr.drew := hS00.mk (Below.refl _ _).drew
              refine Ord.wpT_take 0 (v := Value.pointer (some ⟨w.heap.size, 0, none⟩)) rfl (by kernel_rfl) (by kernel_rfl) (by kernel_rfl) (by kernel_rfl) (by kernel_rfl) (fun _ _ _ h => h) (Or.inl ⟨by rfl, fun w' hSw => ?_⟩) hS0 ?_
              · obtain ⟨_, hx1, hx2, hx3, hx4⟩ := hSw
                go_simp
              simp only [Act.put, List.setIfInBounds_toArray, List.set_cons_zero, List.set_cons_succ]
              refine Ord.wpT_take 1 (v := Value.pointer (some ⟨w.heap.size, 0, none⟩)) rfl (by kernel_rfl) (by kernel_rfl) (by kernel_rfl) (by kernel_rfl) (by kernel_rfl) (fun _ _ _ h => h) (Or.inl ⟨by rfl, fun w' hSw => ?_⟩) hS0 ?_
              · obtain ⟨_, hx1, hx2, hx3, hx4⟩ := hSw
                go_simp
              simp only [Act.put, List.setIfInBounds_toArray, List.set_cons_zero, List.set_cons_succ]
              refine Ord.wpT_take 2 (v := Value.pointer (some ⟨w.heap.size, 0, none⟩)) rfl (by kernel_rfl) (by kernel_rfl) (by kernel_rfl) (by kernel_rfl) (by kernel_rfl) (fun _ _ _ h => h) (Or.inl ⟨by rfl, fun w' hSw => ?_⟩) hS0 ?_
              · obtain ⟨_, hx1, hx2, hx3, hx4⟩ := hSw
                go_simp
              simp only [Act.put, List.setIfInBounds_toArray, List.set_cons_zero, List.set_cons_succ]
              refine Ord.wpT_take 3 (v := Value.pointer (some ⟨w.heap.size, 0, none⟩)) rfl (by kernel_rfl) (by kernel_rfl) (by kernel_rfl) (by kernel_rfl) (by kernel_rfl) (fun _ _ _ h => h) (Or.inl ⟨by rfl, fun w' hSw => ?_⟩) hS0 ?_
              · obtain ⟨_, hx1, hx2, hx3, hx4⟩ := hSw
                go_simp
              simp only [Act.put, List.setIfInBounds_toArray, List.set_cons_zero, List.set_cons_succ]
              refine Ord.wpT_take 4 (v := v) rfl (by kernel_rfl) (by kernel_rfl) (by kernel_rfl) (by kernel_rfl) (by kernel_rfl) (fun _ _ _ h => h) (Or.inl ⟨by rfl, fun w' hSw => ?_⟩) hS0 ?_
              · obtain ⟨_, hx1, hx2, hx3, hx4⟩ := hSw
                go_simp
              simp only [Act.put, List.setIfInBounds_toArray, List.set_cons_zero, List.set_cons_succ]
              refine Ord.wpT_take 5 (v := Value.slice (some ⟨b, off, none⟩) ag.length c0) rfl (by kernel_rfl) (by kernel_rfl) (by kernel_rfl) (by kernel_rfl) (by kernel_rfl) (fun _ _ _ h => h) (Or.inl ⟨by rfl, fun w' hSw => ?_⟩) hS0 ?_
              · obtain ⟨_, hx1, hx2, hx3, hx4⟩ := hSw
                go_simp
              simp only [Act.put, List.setIfInBounds_toArray, List.set_cons_zero, List.set_cons_succ]
              refine Ord.wpT_take 6 (v := Value.int .i64 (k : Int)) rfl (by kernel_rfl) (by kernel_rfl) (by kernel_rfl) (by kernel_rfl) (by kernel_rfl) (fun _ _ _ h => h) (Or.inl ⟨by rfl, fun w' hSw => ?_⟩) hS0 ?_
              · obtain ⟨_, hx1, hx2, hx3, hx4⟩ := hSw
                go_simp
              simp only [Act.put, List.setIfInBounds_toArray, List.set_cons_zero, List.set_cons_succ]
              refine Ord.wpT_take 7 (v := Value.pointer (some ⟨b, off + k * 3, none⟩)) rfl (by kernel_rfl) (by kernel_rfl) (by kernel_rfl) (by kernel_rfl) (by kernel_rfl) (fun _ _ _ h => h) (Or.inl ⟨by rfl, fun w' hSw => ?_⟩) hS0 ?_
              · obtain ⟨_, hx1, hx2, hx3, hx4⟩ := hSw
                go_simp
              simp only [Act.put, List.setIfInBounds_toArray, List.set_cons_zero, List.set_cons_succ]
              refine Ord.wpT_take 8 (v := Value.pointer (some ⟨b, off + k * 3, none⟩)) rfl (by kernel_rfl) (by kernel_rfl) (by kernel_rfl) (by kernel_rfl) (by kernel_rfl) (fun _ _ _ h => h) (Or.inl ⟨by rfl, fun w' hSw => ?_⟩) hS0 ?_
              · obtain ⟨_, hx1, hx2, hx3, hx4⟩ := hSw
                go_simp
              simp only [Act.put, List.setIfInBounds_toArray, List.set_cons_zero, List.set_cons_succ]
              refine Ord.wpT_take 9 (v := Value.string ag[k].nm) rfl (by kernel_rfl) (by kernel_rfl) (by kernel_rfl) (by kernel_rfl) (by kernel_rfl) (fun _ _ _ h => h) (Or.inl ⟨by rfl, fun w' hSw => ?_⟩) hS0 ?_
              · obtain ⟨_, hx1, hx2, hx3, hx4⟩ := hSw
                go_simp
              simp only [Act.put, List.setIfInBounds_toArray, List.set_cons_zero, List.set_cons_succ]
              refine Ord.wpT_take 11 (v := Value.slice (some ⟨b, off, none⟩) ag.length c0) rfl (by kernel_rfl) (by kernel_rfl) (by kernel_rfl) (by kernel_rfl) (by kernel_rfl) (fun _ _ _ h => h) (Or.inl ⟨by rfl, fun w' hSw => ?_⟩) hS0 ?_
              · obtain ⟨_, hx1, hx2, hx3, hx4⟩ := hSw
                go_simp
              simp only [Act.put, List.setIfInBounds_toArray, List.set_cons_zero, List.set_cons_succ]
              refine Ord.wpT_take 12 (v := Value.int .i64 (k : Int)) rfl (by kernel_rfl) (by kernel_rfl) (by kernel_rfl) (by kernel_rfl) (by kernel_rfl) (fun _ _ _ h => h) (Or.inl ⟨by rfl, fun w' hSw => ?_⟩) hS0 ?_
              · obtain ⟨_, hx1, hx2, hx3, hx4⟩ := hSw
                go_simp
              simp only [Act.put, List.setIfInBounds_toArray, List.set_cons_zero, List.set_cons_succ]
              refine Ord.wpT_take 13 (v := Value.pointer (some ⟨b, off + k * 3, none⟩)) rfl (by kernel_rfl) (by kernel_rfl) (by kernel_rfl) (by kernel_rfl) (by kernel_rfl) (fun _ _ _ h => h) (Or.inl ⟨by rfl, fun w' hSw => ?_⟩) hS0 ?_
              · obtain ⟨_, hx1, hx2, hx3, hx4⟩ := hSw
                go_simp
              simp only [Act.put, List.setIfInBounds_toArray, List.set_cons_zero, List.set_cons_succ]
              refine Ord.wpT_take 14 (v := Value.pointer (some ⟨b, off + k * 3 + 2, none⟩)) rfl (by kernel_rfl) (by kernel_rfl) (by kernel_rfl) (by kernel_rfl) (by kernel_rfl) (fun _ _ _ h => h) (Or.inl ⟨by rfl, fun w' hSw => ?_⟩) hS0 ?_
              · obtain ⟨_, hx1, hx2, hx3, hx4⟩ := hSw
                go_simp
              simp only [Act.put, List.setIfInBounds_toArray, List.set_cons_zero, List.set_cons_succ]
              refine Ord.wpT_take 15 (v := Value.slice pm ag[k].mem.length cm) rfl (by kernel_rfl) (by kernel_rfl) (by kernel_rfl) (by kernel_rfl) (by kernel_rfl) (fun _ _ _ h => h) (Or.inl ⟨by rfl, fun w' hSw => ?_⟩) hS0 ?_
              · obtain ⟨_, hx1, hx2, hx3, hx4⟩ := hSw
                go_simp
              simp only [Act.put, List.setIfInBounds_toArray, List.set_cons_zero, List.set_cons_succ]
              refine Ord.wpT_take 17 (v := Value.slice (some ⟨b, off, none⟩) ag.length c0) rfl (by kernel_rfl) (by kernel_rfl) (by kernel_rfl) (by kernel_rfl) (by kernel_rfl) (fun _ _ _ h => h) (Or.inl ⟨by rfl, fun w' hSw => ?_⟩) hS0 ?_
              · obtain ⟨_, hx1, hx2, hx3, hx4⟩ := hSw
                go_simp
              simp only [Act.put, List.setIfInBounds_toArray, List.set_cons_zero, List.set_cons_succ]
              refine Ord.wpT_take 18 (v := Value.int .i64 (k : Int)) rfl (by kernel_rfl) (by kernel_rfl) (by kernel_rfl) (by kernel_rfl) (by kernel_rfl) (fun _ _ _ h => h) (Or.inl ⟨by rfl, fun w' hSw => ?_⟩) hS0 ?_
              · obtain ⟨_, hx1, hx2, hx3, hx4⟩ := hSw
                go_simp
              simp only [Act.put, List.setIfInBounds_toArray, List.set_cons_zero, List.set_cons_succ]
              refine Ord.wpT_take 19 (v := Value.pointer (some ⟨b, off + k * 3, none⟩)) rfl (by kernel_rfl) (by kernel_rfl) (by kernel_rfl) (by kernel_rfl) (by kernel_rfl) (fun _ _ _ h => h) (Or.inl ⟨by rfl, fun w' hSw => ?_⟩) hS0 ?_
              · obtain ⟨_, hx1, hx2, hx3, hx4⟩ := hSw
                go_simp
              simp only [Act.put, List.setIfInBounds_toArray, List.set_cons_zero, List.set_cons_succ]
              refine Ord.wpT_take 20 (v := Value.pointer (some ⟨b, off + k * 3 + 1, none⟩)) rfl (by kernel_rfl) (by kernel_rfl) (by kernel_rfl) (by kernel_rfl) (by kernel_rfl) (fun _ _ _ h => h) (Or.inl ⟨by rfl, fun w' hSw => ?_⟩) hS0 ?_
              · obtain ⟨_, hx1, hx2, hx3, hx4⟩ := hSw
                go_simp
              simp only [Act.put, List.setIfInBounds_toArray, List.set_cons_zero, List.set_cons_succ]
              refine Ord.wpT_take 21 (v := Value.slice pa ag[k].adm.length ca) rfl (by kernel_rfl) (by kernel_rfl) (by kernel_rfl) (by kernel_rfl) (by kernel_rfl) (fun _ _ _ h => h) (Or.inl ⟨by rfl, fun w' hSw => ?_⟩) hS0 ?_
              · obtain ⟨_, hx1, hx2, hx3, hx4⟩ := hSw
                go_simp
              simp only [Act.put, List.setIfInBounds_toArray, List.set_cons_zero, List.set_cons_succ]
              refine Ord.wpT_one 10 (by kernel_rfl) (Ord.wpOp_run rfl rfl ?_)
              go_simp
              refine (teamname_any ag[k].nm _).mono ?_
              rintro e w0 ⟨rfl, rfl⟩
              refine ⟨hS0, ?_⟩
              have hr0 : Below wr.heap.size wr wr.drew := (Below.refl _ _).drew
              generalize hnb : nameB ag[k].nm = nb
              have HNb : Hid (nameB ag[k].nm = nb) := hnb
              clear hnb
              refine Ord.wpT_one 16 (by kernel_rfl) (Ord.wpOp_run rfl rfl ?_)
              go_simp
              refine (clone_SV _ hEm (HSm'.out.below hS0.1)).mono ?_
              rintro e w1 ⟨v1, rfl, sv1, hb1⟩
              have hS1 := hS0.mk hb1
              have hr1 := hr0.trans (hb1.mono hr0.size)
              have H1 : Hid (SV (fun k => k < wr.heap.size) w1 v1 ag[k].mem) := sv1
              obtain ⟨qm, dm, rfl, _⟩ := sv1
              refine ⟨hS1, ?_⟩
              refine Ord.wpT_one 22 (by kernel_rfl) (Ord.wpOp_run rfl rfl ?_)
              go_simp
              refine (clone_SV _ hEa (HSa.out.below hS1.1)).mono ?_
              rintro e w2 ⟨v2, rfl, sv2, hb2⟩
              have hS2 := hS1.mk hb2
              have hr2 := hr1.trans (hb2.mono hr1.size)
              have H1' : Hid (SV (fun k => k < wr.heap.size) w2 (.slice qm ag[k].mem.length dm) ag[k].mem) := H1.out.below hb2
              have H2' : Hid (SV (fun k => k < wr.heap.size) w2 v2 ag[k].adm) := sv2.weaken (fun i hi h => Nat.lt_of_lt_of_le h hr1.size)
              obtain ⟨qa, da, rfl, _⟩ := sv2
              refine ⟨hS2, ?_⟩
              refine Ord.wpT_take 23 (v := Value.agg #[.string nb, .slice qa ag[k].adm.length da, .slice qm ag[k].mem.length dm, .slice none 0 0, .slice none 0 0, .slice none 0 0]) rfl (by kernel_rfl) (by kernel_rfl) (by kernel_rfl) (by kernel_rfl) (by kernel_rfl) (fun _ _ _ h => h) (Or.inl ⟨by rfl, fun w' hSw => ?_⟩) hS2 ?_
              · obtain ⟨_, hx1, hx2, hx3, hx4⟩ := hSw
                go_simp
              simp only [Act.put, List.setIfInBounds_toArray, List.set_cons_zero, List.set_cons_succ]
              refine Ord.wpT_one 24 (by kernel_rfl) (Ord.wpOp_run rfl rfl ?_)
              go_simp
              have hS3 := hS2.mk (below_alloc w2 (.cells #[.string nb, .slice qa ag[k].adm.length da, .slice qm ag[k].mem.length dm, .slice none 0 0, .slice none 0 0, .slice none 0 0] 33))
              have hT3 := team_new (nm := nb) (B := wr.heap.size) hr2.size H2'.out H1'.out
              refine ⟨hS3, ?_⟩
              refine Ord.wpT_one 25 (by kernel_rfl) (Ord.wpOp_run rfl rfl ?_)
              go_simp
              have hS4 := hS3.mk (below_alloc _ (.cells #[.pointer (some ⟨w2.heap.size, 0, none⟩)] 30))
              refine ⟨hS4, ?_⟩
              have hr4 := (hr2.trans ((below_alloc w2 (.cells #[.string nb, .slice qa ag[k].adm.length da, .slice qm ag[k].mem.length dm, .slice none 0 0, .slice none 0 0, .slice none 0 0] 33)).mono hr2.size)).trans ((below_alloc _ (.cells #[.pointer (some ⟨w2.heap.size, 0, none⟩)] 30)).mono (Nat.le_trans hr2.size (by simp)))
              refine Ord.wpT_one 26 (by kernel_rfl) (Ord.wpOp_run rfl rfl ?_)
              refine wp_append_lies _ (.tmp 98) (.tmp 119) 27 rfl (w.heap.size + 1) 30 i0 (.pointer none) 1 8 Yba.underlying27 hi hz0 hz1 hz2 rfl (by decide) v (ts0 ++ ts).length (((ts0 ++ ts).map Tm.b).map ptrV) rfl (owns_below HOw.out hr4) ⟨w2.heap.size + 1, 0, none⟩ 1 1 [ptrV w2.heap.size] rfl rfl ?n1 ?n2 (by decide) (by unfold maxLen; omega) (by omega) ?n3 (w2.heap.size + 2) ?n4 ?_
              case n1 =>
                have hnw := one_new (w2.alloc (.cells #[.string nb, .slice qa ag[k].adm.length da, .slice qm ag[k].mem.length dm, .slice none 0 0, .slice none 0 0, .slice none 0 0] 33)) (.pointer (some ⟨w2.heap.size, 0, none⟩)) 30
                rw [World.size_alloc] at hnw
                exact hnw
              case n2 => intro u hu; simp at hu; subst hu; rfl
              case n3 => exact Nat.le_trans HSz.out hr4.size
              case n4 => simp
              intro g cap w5 hown5 hgrow hat hlt5
              have hvl := HOw.out.lt
              have hrow : ∀ k, v.ownBlock = some k → w.heap.size + 1 ≤ k := fun k hk => (hvl k hk).1
              have hS5 := hS4.grown hgrow hrow hbB
              have hf5 : w5.frozen? ⟨w.heap.size, 0, none⟩ = false := by
                rw [hgrow.frozen_far _ (cell_lt hS4.2.1) (fun e => absurd (hrow _ e.symm) (by show ¬ w.heap.size + 1 ≤ w.heap.size; omega)), ← hfv]
                exact hr4.frozen (Nat.lt_of_lt_of_le (Nat.lt_succ_self _) HSz.out)
              refine ⟨fun _ => hS5, ?_⟩
              simp only [Act.put, List.setIfInBounds_toArray, List.set_cons_zero, List.set_cons_succ]
              refine Ord.wpT_one 27 (by kernel_rfl) (Ord.wpOp_run rfl rfl ?_)
              go_simp
              refine Ord.wpT_one 28 (by kernel_rfl) (Ord.wpOp_run rfl rfl ?_)
              go_simp
              refine Ord.wpT_one 29 (by kernel_rfl) (Ord.wpOp_run rfl rfl ?_)
              have hc5 := hS5.2.1
              go_simp
              refine Ord.wpT_done (by kernel_rfl) ?_ _
              have hT4 := hT3.below (below_alloc _ (.cells #[.pointer (some ⟨w2.heap.size, 0, none⟩)] 30))
              have hst := built_step (w := w) (ts := ts0 ++ ts) (t := ⟨w2.heap.size, nb, ag[k].mem, ag[k].adm⟩) HCv.out hfv HOw.out HTm.out HBe.out HSz.out hr4 hT4 hown5 hgrow hat (by simp)
              have HST : Hid (BuiltAt w (ts0 ++ ts ++ [⟨w2.heap.size, nb, ag[k].mem, ag[k].adm⟩]) (w5.setCell ⟨w.heap.size, 0, none⟩ (.slice (some ⟨g, 0, none⟩) ((ts0 ++ ts).length + 1) cap))) := hst
              clear hst hT4 hT3 hown5 hgrow hS5 hS4 hS3 hS2 hS1 hS0 hr4 hr2 hr1 hr0 hb1 hb2 hS00 hc5 hf5 hvl hrow hat
              go_wp2_with fail
              go_roundw
              case rel => exact ⟨k + 1, by omega, by go_num, ts ++ [⟨w2.heap.size, nb, ag[k].mem, ag[k].adm⟩], by have h1 := HLk.out.snoc hlt w2.heap.size; rw [HNb.out] at h1; exact h1, by simpa [List.append_assoc] using HST.out⟩
              case measure => simp [intOf]; omega
              --END R14
            · --BEGIN EXIT2
              have hkn : ag.take k = ag := List.take_of_length_le (by omega)
              have HLike : Hid (Like ag ts) := by have h1 := HLk.out; rw [hkn] at h1; exact h1
              have HBT : BuiltAt w (ts0 ++ ts) wr := ⟨v, hcv, hfv, HOw.out, HTm.out, HBe.out, HSz.out⟩
              obtain ⟨v', hcv', hpv, hst⟩ := HBT.state
              have hTl : (ts0 ++ ts).length ≤ 8192 := by omega
              have HTl : Hid (∀ t ∈ ts0 ++ ts, t.mem.length ≤ 4096 ∧ t.adm.length ≤ 4096) := lens_T HTs0.out HLike.out hn2 hn3 HSm.out
              have hB := HBe.out
              have hz := HSz.out
              clear hkn HLk HOw HTm HBe HSz HHl hcv hfv HBT HBu
              generalize hTT : ts0 ++ ts = T at *
              have HTT : Hid (ts0 ++ ts = T) := hTT
              clear hTT hnl hbel hsz
              have hCl := clone_PV wr (by rw [List.length_map]; exact hTl) hpv
              obtain ⟨pv, cv, rfl, _⟩ := hpv.at
              go_wp2_with fail
              refine hCl.mono ?_
              rintro e w1 ⟨vk, rfl, hpk, hb1⟩
              have hst1 := hst.below hb1
              have hB1 := hB.trans (hb1.mono hB.size)
              have hz1' : w.heap.size + 1 ≤ w1.heap.size := Nat.le_trans hz hb1.size
              have hL := list_all w.heap.size T u n loc (w1.alloc (.cells #[.string u, .string n, .bool loc] 37)) hTl (fun t ht => (HTl.out t ht).1) (fun t ht => (HTl.out t ht).2) (hst1.below (below_alloc _ _))
              clear hst hB hb1 hcv' hCl
              go_wp2_with fail
              refine hL.mono ?_
              rintro e w2 ⟨g, m, lg, rfl, hperm, hsort, hg, hm, hrow, hb2⟩
              have hb2' : Below w1.heap.size w1 w2 := (below_alloc _ _).trans (hb2.mono (by simp))
              have hst2 := hst1.below hb2'
              have hpk2 := hpk.below hb2'
              have hB2 := hB1.trans (hb2'.mono hB1.size)
              have HGot : Hid (lg.Perm ((visT (unresB T u n loc) n T).map Tm.nm) ∧ SortedB lg ∧ m = lg.length ∧ RowS w2 g 0 lg ∧ w.heap.size ≤ g) := ⟨hperm, hsort, hm, hrow, Nat.le_trans (Nat.le_trans hB1.size (by simp)) hg⟩
              have hgl : m ≤ 8192 := by
                rw [hm, hperm.length_eq, List.length_map]
                exact Nat.le_trans (List.length_filter_le _ _) hTl
              clear hperm hsort hg hm hrow hb2 hb2' hst1 hpk hB1 hz1' hL
              have q44 : ∀ (w : World) (a : Option Addr) (n c n' c' : Nat), (binOp .eql 44 (.slice a n c) (.slice none n' c')).run Yba.prog w = .ok (.bool a.isNone) w := fun w a n c n' c' => Lib.run_eql_slice_nil w _ _ a n c n' c' Yba.underlying44
              obtain ⟨⟨vs, hvs, hps⟩, hts⟩ := hst2
              have HTs : Hid (∀ t ∈ T, TeamAt (fun _ => False) w2 t) := hts
              obtain ⟨ps, cs, rfl, hpsr⟩ := hps.at
              obtain ⟨pk, ck, rfl, hpkr⟩ := hpk2.at
              have HPS : Hid (T = [] ∨ ∃ b off, ps = some ⟨b, off, none⟩ ∧ ¬ False ∧ ∀ j (hj : j < T.length), w2.cell? ⟨b, off + j, none⟩ = some (.pointer (some ⟨T[j].b, 0, none⟩))) := hpsr
              have HPK : Hid (T = [] ∨ ∃ b off, pk = some ⟨b, off, none⟩ ∧ ¬ False ∧ ∀ j (hj : j < T.length), w2.cell? ⟨b, off + j, none⟩ = some (.pointer (some ⟨T[j].b, 0, none⟩))) := hpkr
              have HB2 : Hid (Below w.heap.size w w2) := hB2
              have HVs : Hid (w2.cell? ⟨w.heap.size, 0, none⟩ = some (.slice ps T.length cs)) := hvs
              clear hts hps hpk2 hpsr hpkr hB2
              have hta := as44
              go_wp2_with fail
              clear hta q44 hvs
              go_loopw [26] (fun i wr => ∃ k : Nat, k ≤ T.length ∧ i = .int .i64 k ∧ ∃ q, wr = w2.drewN q) (fun i _ => T.length - (intOf i).toNat)
              case atStart => exact ⟨0, Nat.zero_le _, rfl, 0, rfl⟩
              case round =>
                obtain ⟨k3, hk3, rfl, q3, rfl⟩ := hrel
                by_cases hlt3 : k3 < T.length
                · --BEGIN L3
                  as_aux_lemma =>
                  rcases HPS.out with rfl | ⟨bs, os, rfl, _, hcs⟩
                  · simp at hlt3
                  rcases HPK.out with rfl | ⟨bk, ok, rfl, _, hck⟩
                  · simp at hlt3
                  have c1 := hcs k3 hlt3
                  have c2 := hck k3 hlt3
                  have hj1 : (k3 : Int) < (T.length : Int) := by omega
                  have hvs' : w2.cell? ⟨w.heap.size, 0, none⟩ = some (.slice (some ⟨bs, os, none⟩) T.length cs) := HVs.out
                  clear hcs hck
                  have hpn := ptr_same
                  go_wp2_with fail
                  go_quiet (fail)
                  go_wp2_with fail
                  go_roundw
                  case rel => exact ⟨k3 + 1, by omega, by go_num, _, rfl⟩
                  case measure => simp [intOf]; omega
                  --END L3
                · --BEGIN EXIT3
                  clear hk3
                  go_upto_if 178 with (fail)
                  go_cut [27, 28] from 179 to 225 (fun o _ wx => o = .int .i64 (ts0.length : Int) ∧ ∃ q, wx = w2.drewN q)
                  case first =>
                    cases hasAdmin with
                    | false =>
                      have h0 : ts0 = [] := by rw [← HTs0.out]; rfl
                      subst h0
                      go_wp2_with fail
                      go_meet
                      case rel => exact ⟨rfl, _, rfl⟩
                    | true =>
                      as_aux_lemma =>
                      have h0 : ts0 = [⟨tb0, ⟨#[97, 100, 109, 105, 110]⟩, l2, l3⟩] := by rw [← HTs0.out]; rfl
                      subst h0
                      have hTc : T = ⟨tb0, ⟨#[97, 100, 109, 105, 110]⟩, l2, l3⟩ :: ts := HTT.out.symm
                      have hmem : (⟨tb0, ⟨#[97, 100, 109, 105, 110]⟩, l2, l3⟩ : Tm) ∈ T := by rw [hTc]; exact List.mem_cons_self
                      have h0T : 0 < T.length := by rw [hTc]; simp
                      obtain ⟨bk, ok, hpk, hck⟩ : ∃ bk ok, pk = some ⟨bk, ok, none⟩ ∧ w2.cell? ⟨bk, ok, none⟩ = some (.pointer (some ⟨tb0, 0, none⟩)) := by
                        rcases HPK.out with h | ⟨bk, ok, h, _, hck⟩
                        · rw [h] at h0T; cases h0T
                        · refine ⟨bk, ok, h, ?_⟩
                          have h1 := hck 0 h0T
                          have h2 : (T[0]'h0T).b = tb0 := by simp [hTc]
                          rw [h2] at h1
                          exact h1
                      subst hpk
                      obtain ⟨_, t0, ⟨va, ta, sa⟩, ⟨vm, tm, sm⟩, t3, t4, t5⟩ := HTs.out _ hmem
                      have hEm : ∀ q, Calls Yba.prog 8 #[vm, .slice p2 l2.length c2] (w2.drewN q) fun e w' => e = .returned (.bool true) ∧ ∃ n, w' = (w2.drewN q).drewN n := fun q => by
                        have h1 := eq_SV (l := l2) (m := l2) (w2.drewN q) (by omega) (sm.below (below_drewN (Below.refl _ _) q)) (H2.out.below (below_drewN HB2.out q))
                        rw [show eqB l2 l2 = true from decide_eq_true rfl] at h1
                        exact h1
                      have hEa : ∀ q, Calls Yba.prog 8 #[va, .slice p3 l3.length c3] (w2.drewN q) fun e w' => e = .returned (.bool true) ∧ ∃ n, w' = (w2.drewN q).drewN n := fun q => by
                        have h1 := eq_SV (l := l3) (m := l3) (w2.drewN q) (by omega) (sa.below (below_drewN (Below.refl _ _) q)) (H3.out.below (below_drewN HB2.out q))
                        rw [show eqB l3 l3 = true from decide_eq_true rfl] at h1
                        exact h1
                      obtain ⟨pa, ca, rfl, _⟩ := sa
                      obtain ⟨pm, cm, rfl, _⟩ := sm
                      have q23 : ∀ (w : World) (a : Option Addr) (n c n' c' : Nat), (binOp .neq 23 (.slice a n c) (.slice none n' c')).run Yba.prog w = .ok (.bool !a.isNone) w := fun w a n c n' c' => run_neq_slice_nil_any w _ _ a n c n' c' Yba.underlying23
                      have HEm : Hid (∀ q, Calls Yba.prog 8 #[.slice pm l2.length cm, .slice p2 l2.length c2] (w2.drewN q) fun e w' => e = .returned (.bool true) ∧ ∃ n, w' = (w2.drewN q).drewN n) := hEm
                      have HEa : Hid (∀ q, Calls Yba.prog 8 #[.slice pa l3.length ca, .slice p3 l3.length c3] (w2.drewN q) fun e w' => e = .returned (.bool true) ∧ ∃ n, w' = (w2.drewN q).drewN n) := hEa
                      have HHT : Hid (T = ⟨tb0, ⟨#[97, 100, 109, 105, 110]⟩, l2, l3⟩ :: ts) := hTc
                      clear hTc hmem hEm hEa
                      go_wp2_with fail
                      refine (HEm.out _).mono ?_
                      rintro e w3 ⟨rfl, q4, rfl⟩
                      go_wp2_with fail
                      refine (HEa.out _).mono ?_
                      rintro e w4 ⟨rfl, q5, rfl⟩
                      go_wp2_with fail
                      go_meet
                      case rel => exact ⟨rfl, _, rfl⟩
                  case rest =>
                    obtain ⟨rfl, q6, rfl⟩ := hcut
                    clear hlt3
                    go_wp2_with fail
                    go_loopw [29, 30] (fun i _ wr => ∃ k : Nat, k ≤ ag.length ∧ i = .int .i64 k ∧ ∃ q, wr = w2.drewN q) (fun i _ _ => ag.length - (intOf i).toNat)
                    case atStart => exact ⟨0, Nat.zero_le _, rfl, q6, rfl⟩
                    case round =>
                      obtain ⟨k4, hk4, rfl, q7, hwr⟩ := hrel
                      have HWr : Hid (wr = w2.drewN q7) := hwr
                      have hbw : Below w2.heap.size w2 wr := by rw [hwr]; exact below_drewN (Below.refl _ _) _
                      clear hwr
                      by_cases hlt4 : k4 < ag.length
                      · --BEGIN L4
                        as_aux_lemma =>
                        have hidx := like_at HTT.out HLike.out hlt4
                        obtain ⟨hix, hnm, hme, had⟩ := hidx
                        obtain ⟨tt, htt⟩ : ∃ tt, tt = T[ts0.length + k4] := ⟨_, rfl⟩
                        rw [← htt] at hnm hme had
                        obtain ⟨bk, ok, hpk, hck⟩ : ∃ bk ok, pk = some ⟨bk, ok, none⟩ ∧ wr.cell? ⟨bk, ok + (ts0.length + k4), none⟩ = some (.pointer (some ⟨tt.b, 0, none⟩)) := by
                          rcases HPK.out with h | ⟨bk, ok, h, _, hck⟩
                          · rw [h] at hix; cases hix
                          · refine ⟨bk, ok, h, ?_⟩
                            have h1 := hck _ hix
                            rw [← htt] at h1
                            exact (hbw.cell (cell_lt h1)).trans h1
                        subst hpk
                        obtain ⟨_, t0, ⟨va, ta, sa⟩, ⟨vm, tm, sm⟩, t3, t4, t5⟩ := (HTs.out tt (by rw [htt]; exact List.getElem_mem hix)).below hbw
                        clear htt
                        rcases HA.out with rfl | ⟨b, off, rfl, hcl⟩
                        · simp at hlt4
                        obtain ⟨x0, ⟨ua, xa, ra⟩, ⟨um, xm, rm⟩⟩ := hcl k4 hlt4
                        have hbB := cell_lt x0
                        have hBw := HB2.out.trans (hbw.mono HB2.out.size)
                        have y0 : wr.cell? ⟨b, off + k4 * 3, none⟩ = some (.string ag[k4].nm) := (hBw.cell hbB).trans x0
                        have ya : wr.cell? ⟨b, off + k4 * 3 + 1, none⟩ = some ua := (hBw.cell (p := ⟨b, off + k4 * 3 + 1, none⟩) hbB).trans xa
                        have ym : wr.cell? ⟨b, off + k4 * 3 + 2, none⟩ = some um := (hBw.cell (p := ⟨b, off + k4 * 3 + 2, none⟩) hbB).trans xm
                        have hE := HSm.out k4 hlt4
                        have hEm : ∀ q, Calls Yba.prog 8 #[vm, um] (wr.drewN q) fun e w' => e = .returned (.bool true) ∧ ∃ n, w' = (wr.drewN q).drewN n := fun q => by
                          have h1 := eq_SV (wr.drewN q) (by rw [hme]; omega) (sm.below (below_drewN (Below.refl _ _) q)) (rm.below (below_drewN (HB2.out.trans (hbw.mono HB2.out.size)) q))
                          rw [show eqB tt.mem ag[k4].mem = true from decide_eq_true hme] at h1
                          exact h1
                        have hEa : ∀ q, Calls Yba.prog 8 #[va, ua] (wr.drewN q) fun e w' => e = .returned (.bool true) ∧ ∃ n, w' = (wr.drewN q).drewN n := fun q => by
                          have h1 := eq_SV (wr.drewN q) (by rw [had]; omega) (sa.below (below_drewN (Below.refl _ _) q)) (ra.below (below_drewN (HB2.out.trans (hbw.mono HB2.out.size)) q))
                          rw [show eqB tt.adm ag[k4].adm = true from decide_eq_true had] at h1
                          exact h1
                        obtain ⟨pa, ca, rfl, _⟩ := sa
                        obtain ⟨pm, cm, rfl, _⟩ := sm
                        obtain ⟨qa, da, rfl, _⟩ := ra
                        obtain ⟨qm, dm, rfl, _⟩ := rm
                        have q23 : ∀ (w : World) (a : Option Addr) (n c n' c' : Nat), (binOp .neq 23 (.slice a n c) (.slice none n' c')).run Yba.prog w = .ok (.bool !a.isNone) w := fun w a n c n' c' => run_neq_slice_nil_any w _ _ a n c n' c' Yba.underlying23
                        have HNm : Hid (tt.nm = nameB ag[k4].nm) := hnm
                        have hTn := fun q => teamname_any ag[k4].nm (wr.drewN q)
                        have hi1 : (k4 : Int) < (ag.length : Int) := by omega
                        have hi2 : (ts0.length : Int) + (k4 : Int) < (T.length : Int) := by omega
                        have hi3 : (0 : Int) ≤ (ts0.length : Int) + (k4 : Int) := by omega
                        rw [hnm] at t0
                        generalize nameB ag[k4].nm = nb at *
                        clear hcl hE hme had hnm x0 xa xm hBw hbw
                        go_wp2_with fail
                        go_quiet (first
                          | (go_at_call 5; exact Calls.quiet_of_same (hTn _))
                          | (go_at_call_of 8 (Value.slice pm tt.mem.length cm); exact Calls.quiet_of (hEm _))
                          | (go_at_call_of 8 (Value.slice pa tt.adm.length ca); exact Calls.quiet_of (hEa _)))
                        go_wp2_with fail
                        go_roundw
                        case rel => exact ⟨k4 + 1, by omega, by go_num, q7 + nq, by rw [HWr.out, World.drewN_drewN]⟩
                        case measure => simp [intOf]; omega
                        --END L4
                      · --BEGIN EXIT4
                        have hBw := HB2.out.trans (hbw.mono HB2.out.size)
                        have hrw : RowS wr g 0 lg := by rw [HWr.out]; exact (HGot.out.2.2.2.1).drewN q7
                        have HRw : Hid (RowS wr g 0 lg) := hrw
                        have HBw : Hid (Below w.heap.size w wr) := hBw
                        clear hrw hBw hbw hk4 HWr HTs HPS HPK
                        obtain ⟨j0, hj, hj0, hj1, hj2⟩ := info_parts i9
                        go_upto_if 296 with (fail)
                        go_cut [31, 32] from 297 to 310 (fun a f wx => Two wr.heap.size wr a f (ts0.map Tm.nm) ((ts0.filter fun t => belA t n).map Tm.nm) wx)
                        case first =>
                          cases hasAdmin with
                          | false =>
                            have h0 : ts0 = [] := by rw [← HTs0.out]; rfl
                            subst h0
                            go_wp2_with fail
                            go_meet
                            case rel => exact Two.start _
                          | true =>
                            have h0 : ts0 = [⟨tb0, ⟨#[97, 100, 109, 105, 110]⟩, l2, l3⟩] := by rw [← HTs0.out]; rfl
                            subst h0
                            go_wp2_with (at_builtin; refine wpList_append_lies _ rfl (.tmp 297) (.tmp 298) 23 rfl wr.heap.size 9 j0 (.string ⟨#[]⟩) 1 16 Yba.underlying23 hj hj0 hj1 hj2 rfl (by decide) (.slice none 0 0) 0 [] rfl (World.ownsRow_nil _ _ _ _) ⟨wr.heap.size, 0, none⟩ 1 1 [.string ⟨#[97, 100, 109, 105, 110]⟩] rfl rfl (one_new _ _ _) (by intro u hu; simp at hu; subst hu; rfl) (by decide) (by unfold maxLen; omega) (by omega) (by simp) (wr.heap.size + 1) (by simp) ?_)
                            intro g1 cap1 w3 hown1 hgrow1 hat1 hlt1
                            have hT1 := ((Two.start wr).below (below_alloc _ (.cells #[.string ⟨#[97, 100, 109, 105, 110]⟩] 9))).all (s := ⟨#[97, 100, 109, 105, 110]⟩) hown1 hgrow1 hat1 (by simp)
                            have hBw3 : Below w.heap.size w w3 := HBw.out.trans (hT1.2.2.2.1.mono HBw.out.size)
                            have hA2 := has_SV n w3 hn2 (H2.out.below hBw3)
                            have hA3 := has_SV n w3 hn3 (H3.out.below hBw3)
                            have HT1 : Hid (Two wr.heap.size wr (.slice (some ⟨g1, 0, none⟩) (0 + 1) cap1) (.slice none 0 0) [⟨#[97, 100, 109, 105, 110]⟩] [] w3) := hT1
                            clear hT1 hown1 hgrow1 hat1 hBw3
                            rcases hc2 : hasB l2 n with _ | _
                            · rw [hc2] at hA2
                              rcases hc3 : hasB l3 n with _ | _
                              · rw [hc3] at hA3
                                have HF : Hid (([⟨tb0, ⟨#[97, 100, 109, 105, 110]⟩, l2, l3⟩] : List Tm).filter (fun t => belA t n) = []) := by
                                  have : belA ⟨tb0, ⟨#[97, 100, 109, 105, 110]⟩, l2, l3⟩ n = false := by unfold belA; rw [hc2, hc3]; rfl
                                  show _ = _
                                  simp [this]
                                clear hc2 hc3
                                go_wp2_with fail
                                refine hA2.mono ?_
                                rintro e w4 ⟨rfl, rfl⟩
                                go_wp2_with fail
                                refine hA3.mono ?_
                                rintro e w5 ⟨rfl, rfl⟩
                                go_wp2_with fail
                                go_meet
                                case rel => rw [HF.out]; exact HT1.out
                              · have HF : Hid (([⟨tb0, ⟨#[97, 100, 109, 105, 110]⟩, l2, l3⟩] : List Tm).filter (fun t => belA t n) = [⟨tb0, ⟨#[97, 100, 109, 105, 110]⟩, l2, l3⟩]) := by
                                  have : belA ⟨tb0, ⟨#[97, 100, 109, 105, 110]⟩, l2, l3⟩ n = true := by unfold belA; rw [hc2, hc3]; rfl
                                  show _ = _
                                  simp [this]
                                rw [hc3] at hA3
                                clear hc2 hc3
                                go_wp2_with fail
                                refine hA2.mono ?_
                                rintro e w4 ⟨rfl, rfl⟩
                                go_wp2_with fail
                                refine hA3.mono ?_
                                rintro e w5 ⟨rfl, rfl⟩
                                go_wp2_with (at_builtin; refine wpList_append_lies _ rfl (.tmp 308) (.tmp 309) 23 rfl wr.heap.size 9 j0 (.string ⟨#[]⟩) 1 16 Yba.underlying23 hj hj0 hj1 hj2 rfl (by decide) (.slice none 0 0) 0 [] rfl (World.ownsRow_nil _ _ _ _) ⟨w5.heap.size, 0, none⟩ 1 1 [.string ⟨#[97, 100, 109, 105, 110]⟩] rfl rfl (one_new _ _ _) (by intro u hu; simp at hu; subst hu; rfl) (by decide) (by unfold maxLen; omega) (by omega) (Nat.le_trans HT1.out.2.2.2.2 (by simp)) (w5.heap.size + 1) (by simp) ?_)
                                intro g2 cap2 w6 hown2 hgrow2 hat2 hlt2
                                have hT2 := (HT1.out.below (below_alloc _ (.cells #[.string ⟨#[97, 100, 109, 105, 110]⟩] 9))).fil (s := ⟨#[97, 100, 109, 105, 110]⟩) hown2 hgrow2 hat2 (by simp)
                                have HT2 : Hid (Two wr.heap.size wr (.slice (some ⟨g1, 0, none⟩) (0 + 1) cap1) (.slice (some ⟨g2, 0, none⟩) (0 + 1) cap2) [⟨#[97, 100, 109, 105, 110]⟩] [⟨#[97, 100, 109, 105, 110]⟩] w6) := hT2
                                clear hT2 hown2 hgrow2 hat2
                                go_wp2_with fail
                                go_meet
                                case rel => rw [HF.out]; exact HT2.out
                            · have HF : Hid (([⟨tb0, ⟨#[97, 100, 109, 105, 110]⟩, l2, l3⟩] : List Tm).filter (fun t => belA t n) = [⟨tb0, ⟨#[97, 100, 109, 105, 110]⟩, l2, l3⟩]) := by
                                have : belA ⟨tb0, ⟨#[97, 100, 109, 105, 110]⟩, l2, l3⟩ n = true := by unfold belA; rw [hc2]; rfl
                                show _ = _
                                simp [this]
                              rw [hc2] at hA2
                              clear hc2 hA3
                              go_wp2_with fail
                              refine hA2.mono ?_
                              rintro e w4 ⟨rfl, rfl⟩
                              go_wp2_with (at_builtin; refine wpList_append_lies _ rfl (.tmp 308) (.tmp 309) 23 rfl wr.heap.size 9 j0 (.string ⟨#[]⟩) 1 16 Yba.underlying23 hj hj0 hj1 hj2 rfl (by decide) (.slice none 0 0) 0 [] rfl (World.ownsRow_nil _ _ _ _) ⟨w4.heap.size, 0, none⟩ 1 1 [.string ⟨#[97, 100, 109, 105, 110]⟩] rfl rfl (one_new _ _ _) (by intro u hu; simp at hu; subst hu; rfl) (by decide) (by unfold maxLen; omega) (by omega) (Nat.le_trans HT1.out.2.2.2.2 (by simp)) (w4.heap.size + 1) (by simp) ?_)
                              intro g2 cap2 w6 hown2 hgrow2 hat2 hlt2
                              have hT2 := (HT1.out.below (below_alloc _ (.cells #[.string ⟨#[97, 100, 109, 105, 110]⟩] 9))).fil (s := ⟨#[97, 100, 109, 105, 110]⟩) hown2 hgrow2 hat2 (by simp)
                              have HT2 : Hid (Two wr.heap.size wr (.slice (some ⟨g1, 0, none⟩) (0 + 1) cap1) (.slice (some ⟨g2, 0, none⟩) (0 + 1) cap2) [⟨#[97, 100, 109, 105, 110]⟩] [⟨#[97, 100, 109, 105, 110]⟩] w6) := hT2
                              clear hT2 hown2 hgrow2 hat2
                              go_wp2_with fail
                              go_meet
                              case rel => rw [HF.out]; exact HT2.out
                        case rest =>
                          have HC : Hid (Two wr.heap.size wr u31 u32 (ts0.map Tm.nm) ((ts0.filter fun t => belA t n).map Tm.nm) wc) := hcut
                          clear hcut
                          obtain ⟨wo, rfl⟩ : ∃ wo : World, wo = wr := ⟨_, rfl⟩
                          go_wp2_with fail
                          go_loopw [31, 32, 33, 34] (fun a f i _ wx => ∃ k : Nat, k ≤ ag.length ∧ i = .int .i64 k ∧ Two wo.heap.size wo a f (ts0.map Tm.nm ++ (ag.take k).map fun t => nameB t.nm) ((ts0.filter fun t => belA t n).map Tm.nm ++ ((ag.take k).filter fun t => belA t n).map fun t => nameB t.nm) wx) (fun _ _ i _ _ => ag.length - (intOf i).toNat)
                          case atStart => exact ⟨0, Nat.zero_le _, rfl, by simpa using HC.out⟩
                          case round =>
                            obtain ⟨k5, hk5, rfl, htwo⟩ := hrel
                            by_cases hlt5 : k5 < ag.length
                            · --BEGIN L5
                              as_aux_lemma =>
                              rcases HA.out with rfl | ⟨b, off, rfl, hcl⟩
                              · simp at hlt5
                              obtain ⟨x0, ⟨ua, xa, ra⟩, ⟨um, xm, rm⟩⟩ := hcl k5 hlt5
                              have hbB := cell_lt x0
                              have hBr : Below w.heap.size w wr := HBw.out.trans (htwo.2.2.2.1.mono HBw.out.size)
                              have y0 : wr.cell? ⟨b, off + k5 * 3, none⟩ = some (.string ag[k5].nm) := (hBr.cell hbB).trans x0
                              have hE := HSm.out k5 hlt5
                              have hTn := teamname_any ag[k5].nm wr
                              obtain ⟨lA, hlA⟩ : ∃ l, l = ts0.map Tm.nm ++ (ag.take k5).map fun t => nameB t.nm := ⟨_, rfl⟩
                              obtain ⟨lF, hlF⟩ : ∃ l, l = (ts0.filter fun t => belA t n).map Tm.nm ++ ((ag.take k5).filter fun t => belA t n).map fun t => nameB t.nm := ⟨_, rfl⟩
                              rw [← hlA, ← hlF] at htwo
                              have hla : lA.length ≤ 8192 := by rw [hlA]; simp; omega
                              have hlf : lF.length ≤ 8192 := by
                                rw [hlF, List.length_append, List.length_map, List.length_map]
                                have h1 := List.length_filter_le (fun t => belA t n) ts0
                                have h2 := List.length_filter_le (fun t => belA t n) (ag.take k5)
                                have h3 := List.length_take_le k5 ag
                                omega
                              have HlA : Hid (ts0.map Tm.nm ++ (ag.take (k5 + 1)).map (fun t => nameB t.nm) = lA ++ [nameB ag[k5].nm]) := by
                                have e1 : ts0.map Tm.nm ++ (ag.take (k5 + 1)).map (fun t => nameB t.nm) = lA ++ [nameB ag[k5].nm] := by
                                  rw [hlA, List.take_succ_eq_append_getElem hlt5, List.map_append, List.append_assoc]
                                  rfl
                                exact e1
                              have HlF : Hid (((ts0.filter fun t => belA t n).map Tm.nm ++ ((ag.take (k5 + 1)).filter fun t => belA t n).map fun t => nameB t.nm) = lF ++ (if belA ag[k5] n then [nameB ag[k5].nm] else [])) := by
                                have e1 : ((ts0.filter fun t => belA t n).map Tm.nm ++ ((ag.take (k5 + 1)).filter fun t => belA t n).map fun t => nameB t.nm) = lF ++ (if belA ag[k5] n then [nameB ag[k5].nm] else []) := by
                                  rw [hlF, List.take_succ_eq_append_getElem hlt5, List.filter_append, List.map_append, ← List.append_assoc]
                                  congr 1
                                  rcases hb : belA ag[k5] n with _ | _ <;> simp [hb]
                                exact e1
                              have HTwo : Hid (Two wo.heap.size wo u31 u32 lA lF wr) := htwo
                              generalize nameB ag[k5].nm = nb at *
                              have hows := htwo.1
                              clear hlA hlF hcl
                              go_wp2_with fail
                              refine hTn.mono ?_
                              rintro e w7 ⟨rfl, rfl⟩
                              go_wp2_with (at_builtin; refine wpList_append_lies _ rfl (.tmp 323) (.tmp 325) 23 rfl wo.heap.size 9 j0 (.string ⟨#[]⟩) 1 16 Yba.underlying23 hj hj0 hj1 hj2 rfl (by decide) _ lA.length (lA.map Value.string) rfl (hows.alloc _) ⟨w7.heap.size, 0, none⟩ 1 1 [.string nb] rfl rfl (one_new _ _ _) (by intro u hu; simp at hu; subst hu; rfl) (by decide) (by unfold maxLen; omega) (by omega) (Nat.le_trans HTwo.out.2.2.2.2 (by simp)) (w7.heap.size + 1) (by simp) ?_)
                              intro g1 cap1 w8 hown1 hgrow1 hat1 hlt1
                              have hT1 := (HTwo.out.below (below_alloc _ (.cells #[.string nb] 9))).all (s := nb) hown1 hgrow1 hat1 (by simp)
                              have hBr8 : Below w.heap.size w w8 := HBw.out.trans (hT1.2.2.2.1.mono HBw.out.size)
                              have za : w8.cell? ⟨b, off + k5 * 3 + 1, none⟩ = some ua := (hBr8.cell (p := ⟨b, off + k5 * 3 + 1, none⟩) hbB).trans xa
                              have zm : w8.cell? ⟨b, off + k5 * 3 + 2, none⟩ = some um := (hBr8.cell (p := ⟨b, off + k5 * 3 + 2, none⟩) hbB).trans xm
                              have hM := has_SV n w8 (by omega) (rm.below hBr8)
                              have hAd := has_SV n w8 (by omega) (ra.below hBr8)
                              obtain ⟨pa, ca, rfl, _⟩ := ra
                              obtain ⟨pm, cm, rfl, _⟩ := rm
                              have HT1 : Hid (Two wo.heap.size wo (.slice (some ⟨g1, 0, none⟩) (lA.length + 1) cap1) u32 (lA ++ [nb]) lF w8) := hT1
                              have hows2 := hT1.2.1
                              clear hT1 hown1 hgrow1 hat1 hBr8 hBr y0 htwo hows hTn HTwo xa xm x0
                              rcases hc2 : hasB ag[k5].mem n with _ | _
                              · rw [hc2] at hM
                                rcases hc3 : hasB ag[k5].adm n with _ | _
                                · rw [hc3] at hAd
                                  have HB : Hid (belA ag[k5] n = false) := by
                                    have e1 : belA ag[k5] n = false := by unfold belA; rw [hc2, hc3]; rfl
                                    exact e1
                                  clear hc2 hc3
                                  go_wp2_with fail
                                  refine hM.mono ?_
                                  rintro e w9 ⟨rfl, rfl⟩
                                  go_wp2_with fail
                                  refine hAd.mono ?_
                                  rintro e w10 ⟨rfl, rfl⟩
                                  go_wp2_with fail
                                  go_roundw
                                  case rel => exact ⟨k5 + 1, by omega, by go_num, by rw [HlA.out, HlF.out, HB.out]; simpa using HT1.out⟩
                                  case measure => simp [intOf]; omega
                                · have HB : Hid (belA ag[k5] n = true) := by
                                    have e1 : belA ag[k5] n = true := by unfold belA; rw [hc2, hc3]; rfl
                                    exact e1
                                  rw [hc3] at hAd
                                  clear hc2 hc3
                                  go_wp2_with fail
                                  refine hM.mono ?_
                                  rintro e w9 ⟨rfl, rfl⟩
                                  go_wp2_with fail
                                  refine hAd.mono ?_
                                  rintro e w10 ⟨rfl, rfl⟩
                                  go_wp2_with (at_builtin; refine wpList_append_lies _ rfl (.tmp 343) (.tmp 345) 23 rfl wo.heap.size 9 j0 (.string ⟨#[]⟩) 1 16 Yba.underlying23 hj hj0 hj1 hj2 rfl (by decide) _ lF.length (lF.map Value.string) rfl (hows2.alloc _) ⟨w10.heap.size, 0, none⟩ 1 1 [.string nb] rfl rfl (one_new _ _ _) (by intro u hu; simp at hu; subst hu; rfl) (by decide) (by unfold maxLen; omega) (by omega) (Nat.le_trans HT1.out.2.2.2.2 (by simp)) (w10.heap.size + 1) (by simp) ?_)
                                  intro g2 cap2 w11 hown2 hgrow2 hat2 hlt2
                                  have hT2 := (HT1.out.below (below_alloc _ (.cells #[.string nb] 9))).fil (s := nb) hown2 hgrow2 hat2 (by simp)
                                  have HT2 : Hid (Two wo.heap.size wo (.slice (some ⟨g1, 0, none⟩) (lA.length + 1) cap1) (.slice (some ⟨g2, 0, none⟩) (lF.length + 1) cap2) (lA ++ [nb]) (lF ++ [nb]) w11) := hT2
                                  clear hT2 hown2 hgrow2 hat2
                                  go_wp2_with fail
                                  go_roundw
                                  case rel => exact ⟨k5 + 1, by omega, by go_num, by rw [HlA.out, HlF.out, if_pos HB.out]; exact HT2.out⟩
                                  case measure => simp [intOf]; omega
                              · have HB : Hid (belA ag[k5] n = true) := by
                                  have e1 : belA ag[k5] n = true := by unfold belA; rw [hc2]; rfl
                                  exact e1
                                rw [hc2] at hM
                                clear hc2 hAd
                                go_wp2_with fail
                                refine hM.mono ?_
                                rintro e w9 ⟨rfl, rfl⟩
                                go_wp2_with (at_builtin; refine wpList_append_lies _ rfl (.tmp 343) (.tmp 345) 23 rfl wo.heap.size 9 j0 (.string ⟨#[]⟩) 1 16 Yba.underlying23 hj hj0 hj1 hj2 rfl (by decide) _ lF.length (lF.map Value.string) rfl (hows2.alloc _) ⟨w9.heap.size, 0, none⟩ 1 1 [.string nb] rfl rfl (one_new _ _ _) (by intro u hu; simp at hu; subst hu; rfl) (by decide) (by unfold maxLen; omega) (by omega) (Nat.le_trans HT1.out.2.2.2.2 (by simp)) (w9.heap.size + 1) (by simp) ?_)
                                intro g2 cap2 w11 hown2 hgrow2 hat2 hlt2
                                have hT2 := (HT1.out.below (below_alloc _ (.cells #[.string nb] 9))).fil (s := nb) hown2 hgrow2 hat2 (by simp)
                                have HT2 : Hid (Two wo.heap.size wo (.slice (some ⟨g1, 0, none⟩) (lA.length + 1) cap1) (.slice (some ⟨g2, 0, none⟩) (lF.length + 1) cap2) (lA ++ [nb]) (lF ++ [nb]) w11) := hT2
                                clear hT2 hown2 hgrow2 hat2
                                go_wp2_with fail
                                go_roundw
                                case rel => exact ⟨k5 + 1, by omega, by go_num, by rw [HlA.out, HlF.out, if_pos HB.out]; exact HT2.out⟩
                                case measure => simp [intOf]; omega
                              --END L5
                            · --BEGIN EXIT5
                              as_aux_lemma =>
                              rw [List.take_of_length_le (by omega)] at htwo
                              have hN := names_T HTT.out HLike.out n
                              rw [← hN.1, ← hN.2] at htwo
                              obtain ⟨hoA, hoF, hdis, hbo, hsz5⟩ := htwo
                              have hSA := sort_owned wr (by rw [List.length_map]; exact hTl) hoA
                              have hBr : Below w.heap.size w wr := HBw.out.trans (hbo.mono HBw.out.size)
                              have hlF : ((visT false n T).map Tm.nm).length ≤ 8192 := by rw [List.length_map]; exact Nat.le_trans (List.length_filter_le _ _) hTl
                              have hgot : SV (fun k => wo.heap.size ≤ k) wr (.slice (some ⟨g, 0, none⟩) m m) lg := (SV.of_row HRw.out HGot.out.2.2.1).keeps (fun k hk hn => hbo.block k (Nat.not_le.1 hn))
                              go_wp2_with fail
                              refine hSA.mono ?_
                              rintro e w9 ⟨rfl, mA, hpA, hsA, svA, hb9, hk9⟩
                              have hoF9 : w9.ownsRow wo.heap.size 9 1 u32 ((visT false n T).map Tm.nm).length (((visT false n T).map Tm.nm).map Value.string) := by
                                refine hoF.kept (row := u31.ownBlock) ⟨hb9.os, hb9.tape, hb9.output, hb9.size, fun k _ hk => hk9 k (fun e => hk e.symm)⟩ ?_
                                rcases hf : u32.ownBlock with _ | k
                                · exact Or.inl rfl
                                · exact Or.inr fun e => hdis k e.symm hf
                              have hSF := sort_owned w9 hlF hoF9
                              have hgot9 : SV (fun k => wo.heap.size ≤ k) w9 (.slice (some ⟨g, 0, none⟩) m m) lg := hgot.keeps (fun k hk hn => hb9.block k (Nat.not_le.1 hn))
                              have hBr9 := hBr.trans (hb9.mono HBw.out.size)
                              have svA9 := svA.apart u32 hdis
                              clear hSA hoF hoA hgot hBr hbo svA hk9 hoF9 hb9
                              go_wp2_with fail
                              refine hSF.mono ?_
                              rintro e w10 ⟨rfl, mF, hpF, hsF, svF, hb10, hk10⟩
                              have hgotX : SV (fun k => wo.heap.size ≤ k) w10 (.slice (some ⟨g, 0, none⟩) m m) lg := hgot9.keeps (fun k hk hn => hb10.block k (Nat.not_le.1 hn))
                              have svAX : SV (fun k => u32.ownBlock = some k) w10 u31 mA := svA9.keeps (fun k hk hn => hk10 k hn)
                              have hBrX := hBr9.trans (hb10.mono HBw.out.size)
                              have hend := law_end HGot.out.1 HGot.out.2.1 hpA hsA hpF hsF
                              have hlg : lg.length ≤ 8192 := by rw [← HGot.out.2.2.1]; exact hgl
                              have hEA : ∀ q, Calls Yba.prog 8 #[.slice (some ⟨g, 0, none⟩) m m, u31] (w10.drewN q) fun e w' => e = .returned (.bool (eqB lg mA)) ∧ ∃ n, w' = (w10.drewN q).drewN n := fun q => eq_SV (w10.drewN q) hlg (hgotX.below (below_drewN (Below.refl _ _) q)) (svAX.below (below_drewN (Below.refl _ _) q))
                              have hEF := eq_SV w10 hlg hgotX svF
                              have hH2 := has_SV n w10 hn2 (H2.out.below hBrX)
                              clear hSF hgot9 svA9 hBr9 hb10 hk10 hgotX svAX svF hN hpA hsA hpF hsF
                              cases hasAdmin with
                              | false =>
                                rcases hend.2 with hF | ⟨hF, hA⟩
                                · rw [hF] at hEF
                                  clear hend hF hEA
                                  go_wp2_with fail
                                  refine hEF.mono ?_
                                  rintro e w12 ⟨rfl, q8, rfl⟩
                                  go_wp2_with fail
                                  go_ret
                                  exact ⟨rfl, below_drewN hBrX _⟩
                                · rw [hF] at hEF
                                  rw [hA] at hEA
                                  clear hend hF hA
                                  go_wp2_with fail
                                  refine hEF.mono ?_
                                  rintro e w12 ⟨rfl, q8, rfl⟩
                                  go_wp2_with fail
                                  refine (hEA q8).mono ?_
                                  rintro e w13 ⟨rfl, q9, rfl⟩
                                  go_wp2_with fail
                                  go_ret
                                  exact ⟨rfl, below_drewN hBrX _⟩
                              | true =>
                                have h0 : ts0 = [⟨tb0, ⟨#[97, 100, 109, 105, 110]⟩, l2, l3⟩] := by rw [← HTs0.out]; rfl
                                rcases hc2 : hasB l2 n with _ | _
                                · rw [hc2] at hH2
                                  clear hc2 h0
                                  rcases hend.2 with hF | ⟨hF, hA⟩
                                  · rw [hF] at hEF
                                    clear hend hF hEA
                                    go_wp2_with fail
                                    refine hH2.mono ?_
                                    rintro e w11 ⟨rfl, rfl⟩
                                    go_wp2_with fail
                                    refine hEF.mono ?_
                                    rintro e w12 ⟨rfl, q8, rfl⟩
                                    go_wp2_with fail
                                    go_ret
                                    exact ⟨rfl, below_drewN hBrX _⟩
                                  · rw [hF] at hEF
                                    rw [hA] at hEA
                                    clear hend hF hA
                                    go_wp2_with fail
                                    refine hH2.mono ?_
                                    rintro e w11 ⟨rfl, rfl⟩
                                    go_wp2_with fail
                                    refine hEF.mono ?_
                                    rintro e w12 ⟨rfl, q8, rfl⟩
                                    go_wp2_with fail
                                    refine (hEA q8).mono ?_
                                    rintro e w13 ⟨rfl, q9, rfl⟩
                                    go_wp2_with fail
                                    go_ret
                                    exact ⟨rfl, below_drewN hBrX _⟩
                                · rw [hc2] at hH2
                                  have hTc : T = ⟨tb0, ⟨#[97, 100, 109, 105, 110]⟩, l2, l3⟩ :: ts := by rw [← HTT.out, h0]; rfl
                                  have hA : eqB lg mA = true := hend.1 (by rw [hTc]; exact unres_admin hc2)
                                  rw [hA] at hEA
                                  have hE0 := hEA 0
                                  rw [World.drewN_zero] at hE0
                                  clear hend hc2 h0 hTc hA hEF hEA
                                  go_wp2_with fail
                                  refine hH2.mono ?_
                                  rintro e w11 ⟨rfl, rfl⟩
                                  go_wp2_with fail
                                  refine hE0.mono ?_
                                  rintro e w12 ⟨rfl, q8, rfl⟩
                                  go_wp2_with fail
                                  go_ret
                                  exact ⟨rfl, below_drewN hBrX _⟩
                              --END EXIT5
                        --END EXIT4
                  --END EXIT3
              --END EXIT2
      · have hgt : ¬ ((ag.length : Int) + l2.length + l3.length + sumT ag ≤ 4096) := by omega
        have hgt' : (4096 : Int) < (ag.length : Int) + l2.length + l3.length + sumT ag := by omega
        generalize sumT ag = sg at *
        clear hle htb
        go_wp2_with fail
        go_ret
        exact ⟨rfl, below_drewN (Below.refl _ _) _⟩
end Go.Proofs.Ybulkdvki
