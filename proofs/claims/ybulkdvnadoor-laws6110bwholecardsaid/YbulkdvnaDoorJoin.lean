import Derived.Test.YbulkdvnaDoorUrl
import Derived.Test.YbulkdvnaDoorJoinP
import Derived.Test.YbulkdvnaDoorShelf
import Derived.Deep.WholeRow
namespace Go.Proofs.YbulkdvnaDoor
open Go Go.RowKit

/-- append of one string that lies somewhere -/
theorem OwnS.appAt (W : World) (base : Nat) (v : Value) (ps : List (List UInt8)) (h : OwnS W base v ps) (a : Addr) (c : Nat) (x : ByteArray) (hc : W.cell? a = some (.string x)) (hb : base ≤ W.heap.size) (hl : ps.length ≤ 1000000) :
    ∃ g' cap' W', (Builtin.append_ #[22, 22] 22 #[v, .slice (some a) 1 c]).run Ybad.prog W = .ok (.slice (some ⟨g', 0, none⟩) (ps.length + 1) cap') W' ∧ OwnS W' base (.slice (some ⟨g', 0, none⟩) (ps.length + 1) cap') (ps ++ [x.data.toList]) ∧ Below base W W' := by
  obtain ⟨i, hi, hz, hs, hby⟩ := i9'
  obtain ⟨g', cap', W', hr, ho, hg, -, -⟩ := run_append_lies (P := Ybad.prog) W 22 22 base 9 i (.string ⟨#[]⟩) 1 16 Ybad.underlying22 hi hz hs hby rfl (by decide) v ps.length (ps.map strV) h a 1 c [.string x] rfl (fun j u hj => by
      have hj0 : j = 0 := by
        have := (List.getElem?_eq_some_iff.1 hj).1
        simp at this
        exact this
      subst hj0
      have e : u = .string x := by simpa using hj.symm
      rw [e, show a.add 0 = a by cases a; simp [Addr.add]]
      exact hc) (fun u hu => by
      rw [List.mem_singleton.1 hu]
      rfl) (by decide) (by unfold maxLen; omega) (by omega) hb _ rfl
  refine ⟨g', cap', W', hr, ?_, (Below.refl base _).grown hg hb (fun k hk => (World.ownsRow.lt h k hk).1)⟩
  unfold OwnS
  rw [List.length_append, List.length_singleton, List.map_append]
  exact ho
theorem info32 : (Ybad.prog.info? 32).map (·.size) = some 11 := by kernel_rfl
theorem str_lt {w : World} {base g n cap : Nat} {ps : List (List UInt8)} (h : OwnS w base (.slice (some ⟨g, 0, none⟩) n cap) ps) : base ≤ g ∧ g < w.heap.size := World.ownsRow.lt h g rfl
theorem OwnS.cell {w : World} {base g n cap : Nat} {ps : List (List UInt8)} (h : OwnS w base (.slice (some ⟨g, 0, none⟩) n cap) ps) (j : Nat) (x : List UInt8) (hx : ps[j]? = some x) : w.cell? ⟨g, j, none⟩ = some (strV x) := by
  have hj : j < ps.length := (List.getElem?_eq_some_iff.1 hx).1
  have hn : n = ps.length := by
    rcases h.2 with ⟨h1, _⟩ | ⟨g', cap', cur, h1, _⟩
    · cases h1
    · injection h1
  have h' : w.ownsRow base 9 1 (.slice (some ⟨g, 0, none⟩) n cap) n (ps.map strV) := by
    have := h
    unfold OwnS at this
    rw [← hn] at this
    exact this
  rw [h'.cellAt j (by rw [hn, Nat.mul_one]; exact hj), List.getElem?_map, hx]
  rfl
/-- what joinPath leaves -/
def JoinPost (w : World) (sc ho fr rq : ByteArray) (mp : List UInt8) (r : Value → Value) (e : Ending) (w' : World) : Prop :=
  ∃ b2, e = .returned (r (.pointer (some ⟨b2, 0, none⟩))) ∧ w.heap.size ≤ b2 ∧ UrlAt w' b2 sc ho ⟨mp.toArray⟩ fr rq ∧ Below w.heap.size w w'

set_option maxHeartbeats 2000000 in
set_option maxRecDepth 100000 in
theorem joinPath_any (b be : Nat) (sc ho pa fr rq p : ByteArray) (w : World) (hu : UrlAt w b sc ho pa fr rq) (hp : w.cell? ⟨be, 0, none⟩ = some (.string p)) (hT : TabIn w) (hk : Ok pa.data.toList) (hk2 : Ok p.data.toList) (hl : pa.size ≤ 1000000) (hl2 : p.size ≤ 1000000) :
    Calls Ybad.prog 18 #[.pointer (some ⟨b, 0, none⟩), .slice (some ⟨be, 0, none⟩) 1 1] w (JoinPost w sc ho fr rq (mpath pa.data.toList p.data.toList) fun v => .tuple #[v, .nilIface]) := by
  have HEsc : Hid (Calls Ybad.prog 25 #[.pointer (some ⟨b, 0, none⟩)] w fun e w' => e = .returned (.string pa) ∧ Below w.heap.size w w') := escPath_any b sc ho pa fr rq w hu hT hk (by omega)
  have HU : Hid (UrlAt w b sc ho pa fr rq) := hu
  have HP : Hid (w.cell? ⟨be, 0, none⟩ = some (.string p)) := hp
  have HT : Hid (TabIn w) := hT
  have HK : Hid (Ok pa.data.toList) := hk
  have HK2 : Hid (Ok p.data.toList) := hk2
  clear hu hp hT hk hk2
  go_enter Ybad.func18, Ybad.ntmps18
  go_wp2_with fail
  go_at_call 25
  refine Calls.mono HEsc.out ?_
  rintro e w1 ⟨rfl, hb1⟩
  have hba : Below w1.heap.size w1 (w1.alloc (.cells #[.string pa] 9)) := (Below.refl _ w1).alloc (Nat.le_refl _) _
  have hO : OwnS (w1.alloc (.cells #[.string pa] 9)) w.heap.size (.slice (some ⟨w1.heap.size, 0, none⟩) 1 1) [pa.data.toList] :=
    World.ownsRow_lit w1 #[.string pa] 1 hb1.size (by unfold maxLen; omega) rfl
  obtain ⟨g, cap, w2, hap, hO2, hb2⟩ := OwnS.appAt (w1.alloc (.cells #[.string pa] 9)) w.heap.size _ _ hO ⟨be, 0, none⟩ 1 p
    ((hba.cell (Nat.lt_of_lt_of_le (World.block_lt_of_cell? _ _ HP.out) hb1.size)).trans ((hb1.cell (World.block_lt_of_cell? _ _ HP.out)).trans HP.out)) (Nat.le_trans hb1.size hba.size) (by simp)
  have HAP : Hid ((Builtin.append_ #[22, 22] 22 #[.slice (some ⟨w1.heap.size, 0, none⟩) 1 1, .slice (some ⟨be, 0, none⟩) 1 1]).run Ybad.prog (w1.alloc (.cells #[.string pa] 9)) = .ok (.slice (some ⟨g, 0, none⟩) 2 cap) w2) := hap
  have HO2 : Hid (OwnS w2 w.heap.size (.slice (some ⟨g, 0, none⟩) 2 cap) [pa.data.toList, p.data.toList]) := hO2
  have HB2 : Hid (Below w.heap.size w w2) := (hb1.trans (hba.mono hb1.size)).trans hb2
  clear hap hO2 hb2 hO hba hb1
  go_upto_region 2 with (at_builtin; refine wpList_app rfl (.tmp 11) (.tmp 12) 22 22 22 rfl rfl rfl rfl HAP.out ?_)
  clear HAP
  have cg0 : w2.cell? ⟨g, 0, none⟩ = some (.string pa) := HO2.out.cell 0 pa.data.toList rfl
  have cg1 : w2.cell? ⟨g, 1, none⟩ = some (.string p) := HO2.out.cell 1 p.data.toList rfl
  have HPre : Hid _ := Ybad.strings_HasPrefix pa ⟨#[47]⟩ w2
  go_wp2_with fail
  go_at_call 9
  refine Calls.mono HPre.out ?_
  rintro e w3 ⟨rfl, hw3⟩
  replace hw3 := hw3.symm
  subst hw3
  have hgl := str_lt HO2.out
  have hpal : pa.data.toList.length = pa.size := by rw [Array.length_toList]; rfl
  have hpl : p.data.toList.length = p.size := by rw [Array.length_toList]; rfl
  go_upto_if 18 with (fail)
  go_cut [6] from 9 to 29 (fun pv wx => pv = .string ⟨(m0 pa.data.toList p.data.toList).toArray⟩ ∧ Hid (wx.cell? ⟨g, 1, none⟩ = some (.string p)) ∧ Hid (Below w.heap.size w wx))
  case first =>
    cases hpre : Lib.hasPrefix pa.data.toList [47] with
    | true =>
      have hm0 : m0 pa.data.toList p.data.toList = Lib.Pa.join [pa.data.toList, p.data.toList] := by
        rw [join_ok _ _ (by rw [← pre_head]; exact hpre) HK.out HK2.out]
        unfold m0
        rw [if_pos hpre]
        rfl
      have HJ : Hid (Calls Ybad.prog 26 #[.slice (some ⟨g, 0, none⟩) 2 cap] w2 fun e w' => e = .returned (.string ⟨(m0 pa.data.toList p.data.toList).toArray⟩) ∧ Below w2.heap.size w2 w') := by
        rw [hm0]
        exact Ybad.path_Join_rules g 0 cap [pa, p] w2 (fun j x hx => by
          rw [Nat.zero_add]
          match j, hx with
          | 0, hx => cases hx; exact cg0
          | 1, hx => cases hx; exact cg1) hgl.2 (by simp [Lib.Pa.lens]; omega)
      clear hm0
      go_wp2_with fail
      go_at_call 26
      refine Calls.mono HJ.out ?_
      rintro e w4 ⟨rfl, hb4⟩
      have HC4 : Hid (w4.cell? ⟨g, 1, none⟩ = some (.string p)) := (hb4.cell hgl.2).trans cg1
      have HB4 : Hid (Below w.heap.size w w4) := HB2.out.trans (hb4.mono HB2.out.size)
      clear hb4
      go_wp2_with fail
      go_meet
      case rel => exact ⟨rfl, HC4, HB4⟩
    | false =>
      have hfz : w2.frozen? ⟨g, 0, none⟩ = false := World.ownsRow.frozenAt (show w2.ownsRow w.heap.size 9 1 (.slice (some ⟨g, 0, none⟩) 2 cap) 2 _ from HO2.out) 0
      have he0 : (({ data := #[47] } : ByteArray) ++ pa).data.toList = 47 :: pa.data.toList := by simp [ByteArray.data_append]
      have d0 : (w2.setCell ⟨g, 0, none⟩ (.string (({ data := #[47] } : ByteArray) ++ pa))).cell? ⟨g, 0, none⟩ = some (.string (({ data := #[47] } : ByteArray) ++ pa)) := World.cell?_setCell_same w2 _ _ cg0
      have d1 : (w2.setCell ⟨g, 0, none⟩ (.string (({ data := #[47] } : ByteArray) ++ pa))).cell? ⟨g, 1, none⟩ = some (.string p) := (World.cell?_setCell_other w2 _ _ _ (by simp)).trans cg1
      have hB3 : Below w.heap.size w (w2.setCell ⟨g, 0, none⟩ (.string (({ data := #[47] } : ByteArray) ++ pa))) := HB2.out.setCell hgl.1 _
      have hg3 : g < (w2.setCell ⟨g, 0, none⟩ (.string (({ data := #[47] } : ByteArray) ++ pa))).heap.size := by rw [Go.Deep.nblk_setCell]; exact hgl.2
      have hj := join_ok (47 :: pa.data.toList) p.data.toList rfl (Ok.slash.app HK.out) HK2.out
      rw [pcs_cons] at hj
      have HJ : Hid (Calls Ybad.prog 26 #[.slice (some ⟨g, 0, none⟩) 2 cap] (w2.setCell ⟨g, 0, none⟩ (.string (({ data := #[47] } : ByteArray) ++ pa))) fun e w' => e = .returned (.string ⟨(47 :: body pa.data.toList p.data.toList).toArray⟩) ∧ Below (w2.setCell ⟨g, 0, none⟩ (.string (({ data := #[47] } : ByteArray) ++ pa))).heap.size (w2.setCell ⟨g, 0, none⟩ (.string (({ data := #[47] } : ByteArray) ++ pa))) w') := by
        have := Ybad.path_Join_rules g 0 cap [({ data := #[47] } : ByteArray) ++ pa, p] (w2.setCell ⟨g, 0, none⟩ (.string (({ data := #[47] } : ByteArray) ++ pa))) (fun j x hx => by
          rw [Nat.zero_add]
          match j, hx with
          | 0, hx => cases hx; exact d0
          | 1, hx => cases hx; exact d1) hg3 (by simp only [List.map_cons, List.map_nil, he0, Lib.Pa.lens, List.length_cons, List.sum_cons, List.sum_nil, List.length_nil]; omega)
        simp only [List.map_cons, List.map_nil, he0, hj] at this
        exact this
      have HX : Hid (m0 pa.data.toList p.data.toList = body pa.data.toList p.data.toList) := by
        unfold m0
        rw [hpre]
        rfl
      have HD1 : Hid ((w2.setCell ⟨g, 0, none⟩ (.string (({ data := #[47] } : ByteArray) ++ pa))).cell? ⟨g, 1, none⟩ = some (.string p)) := d1
      have HB3 : Hid (Below w.heap.size w (w2.setCell ⟨g, 0, none⟩ (.string (({ data := #[47] } : ByteArray) ++ pa)))) := hB3
      clear hj he0 d1 hB3
      have hsz : pa.size + 1 ≤ 9223372036854775807 := by omega
      go_wp2_with fail
      go_at_call 26
      refine Calls.mono HJ.out ?_
      rintro e w4 ⟨rfl, hb4⟩
      have HC4 : Hid (w4.cell? ⟨g, 1, none⟩ = some (.string p)) := (hb4.cell hg3).trans HD1.out
      have HB4 : Hid (Below w.heap.size w w4) := HB3.out.trans (hb4.mono HB3.out.size)
      have hl4 : (1 : Int) ≤ ((ByteArray.mk (47 :: body pa.data.toList p.data.toList).toArray).size : Int) := by simp [ByteArray.size]; omega
      have HEx : Hid ((ByteArray.mk (47 :: body pa.data.toList p.data.toList).toArray).extract 1 (ByteArray.mk (47 :: body pa.data.toList p.data.toList).toArray).size = ⟨(body pa.data.toList p.data.toList).toArray⟩) := by
        show _ = _
        apply ByteArray.ext
        rw [ByteArray.data_extract]
        simp [ByteArray.size]
      clear hb4
      generalize (ByteArray.mk (47 :: body pa.data.toList p.data.toList).toArray) = X at *
      go_wp2_with fail
      go_meet
      case rel => exact ⟨by rw [HX.out, ← HEx.out], HC4, HB4⟩
  case rest =>
    obtain ⟨rfl, HC, HB⟩ := hcut
    clear cg0 cg1 HPre HEsc
    have HSf : Hid _ := Ybad.strings_HasSuffix p ⟨#[47]⟩ wc (by omega)
    have hml := m0_len pa.data.toList p.data.toList
    have HSf2 : Hid _ := Ybad.strings_HasSuffix ⟨(m0 pa.data.toList p.data.toList).toArray⟩ ⟨#[47]⟩ wc (by simp [ByteArray.size]; omega)
    have hp1 := HC.out
    have HU4 : Hid (UrlAt wc b sc ho pa fr rq) := HU.out.below HB.out
    have hba : Below wc.heap.size wc (wc.alloc (.cells (urlC sc ho pa fr rq) 32)) := (Below.refl _ wc).alloc (Nat.le_refl _) _
    have HBa : Hid (Below w.heap.size w (wc.alloc (.cells (urlC sc ho pa fr rq) 32))) := HB.out.trans (hba.mono HB.out.size)
    have HK3 : Hid (Ok (mpath pa.data.toList p.data.toList)) := mpath_ok HK.out HK2.out
    have hmpl := mpath_len pa.data.toList p.data.toList
    have h1w : 1 < w.heap.size := World.block_lt_of_cell? _ _ (HT.out 0 (by decide))
    have HSet : Hid (Calls Ybad.prog 27 #[.pointer (some ⟨wc.heap.size, 0, none⟩), .string ⟨(mpath pa.data.toList p.data.toList).toArray⟩] (wc.alloc (.cells (urlC sc ho pa fr rq) 32)) fun e w' => e = .returned .nilIface ∧ UrlAt w' wc.heap.size sc ho ⟨(mpath pa.data.toList p.data.toList).toArray⟩ fr rq ∧ Below w.heap.size (wc.alloc (.cells (urlC sc ho pa fr rq) 32)) w') :=
      setPath_any w.heap.size wc.heap.size sc ho pa fr rq ⟨(mpath pa.data.toList p.data.toList).toArray⟩ _ (heap_alloc_new wc _) (HT.out.below HBa.out) (by simpa using HK3.out) (by simp [ByteArray.size]; omega) HB.out.size (by have := HB.out.size; omega)
    clear hba
    go_wp2_with fail
    go_at_call 10
    refine Calls.mono HSf.out ?_
    rintro e w5 ⟨rfl, hw5⟩
    replace hw5 := hw5.symm
    subst hw5
    cases hs1 : Lib.hasSuffix p.data.toList [47] with
    | false =>
      have hmp : mpath pa.data.toList p.data.toList = m0 pa.data.toList p.data.toList := by
        unfold mpath
        rw [hs1]
        rfl
      rw [hmp] at HSet HK3
      go_wp2_with (first
        | (refine wpList_load_row rfl 32 (.tmp 45) rfl b (by rfl) 32 (urlC sc ho pa fr rq) (0, 0) _ HU4.out Ybad.underlying32 (by rfl) (by exact info32) ?_)
        | (refine wpList_store_row rfl 32 (.tmp 7) (.tmp 46) rfl wc.heap.size (urlC sc ho pa fr rq) (by rfl) (by rfl) 32 (urlC ⟨#[]⟩ ⟨#[]⟩ ⟨#[]⟩ ⟨#[]⟩ ⟨#[]⟩) (heap_alloc_new wc _) (by exact info32) (by rfl) (by kernel_rfl) ?_; rw [World.setRow_alloc_new]))
      go_at_call 27
      refine Calls.mono HSet.out ?_
      rintro e w7 ⟨rfl, hu7, hb7⟩
      have HU7 : Hid (UrlAt w7 wc.heap.size sc ho ⟨(m0 pa.data.toList p.data.toList).toArray⟩ fr rq) := hu7
      have HB7 : Hid (Below w.heap.size w w7) := HBa.out.trans hb7
      clear hu7 hb7
      go_wp2_with fail
      go_ret2
      exact ⟨wc.heap.size, rfl, HB.out.size, by rw [hmp]; exact HU7.out, HB7.out⟩
    | true =>
      go_wp2_with fail
      go_at_call 10
      refine Calls.mono HSf2.out ?_
      rintro e w5 ⟨rfl, hw5⟩
      replace hw5 := hw5.symm
      subst hw5
      cases hs2 : Lib.hasSuffix (m0 pa.data.toList p.data.toList) [47] with
      | true =>
        have hmp : mpath pa.data.toList p.data.toList = m0 pa.data.toList p.data.toList := by
          unfold mpath
          rw [hs1, hs2]
          rfl
        rw [hmp] at HSet HK3
        go_wp2_with (first
          | (refine wpList_load_row rfl 32 (.tmp 45) rfl b (by rfl) 32 (urlC sc ho pa fr rq) (0, 0) _ HU4.out Ybad.underlying32 (by rfl) (by exact info32) ?_)
          | (refine wpList_store_row rfl 32 (.tmp 7) (.tmp 46) rfl wc.heap.size (urlC sc ho pa fr rq) (by rfl) (by rfl) 32 (urlC ⟨#[]⟩ ⟨#[]⟩ ⟨#[]⟩ ⟨#[]⟩ ⟨#[]⟩) (heap_alloc_new wc _) (by exact info32) (by rfl) (by kernel_rfl) ?_; rw [World.setRow_alloc_new]))
        go_at_call 27
        refine Calls.mono HSet.out ?_
        rintro e w7 ⟨rfl, hu7, hb7⟩
        have HU7 : Hid (UrlAt w7 wc.heap.size sc ho ⟨(m0 pa.data.toList p.data.toList).toArray⟩ fr rq) := hu7
        have HB7 : Hid (Below w.heap.size w w7) := HBa.out.trans hb7
        clear hu7 hb7
        go_wp2_with fail
        go_ret2
        exact ⟨wc.heap.size, rfl, HB.out.size, by rw [hmp]; exact HU7.out, HB7.out⟩
      | false =>
        have hmp : mpath pa.data.toList p.data.toList = m0 pa.data.toList p.data.toList ++ [47] := by
          unfold mpath
          rw [hs1, hs2]
          rfl
        rw [hmp] at HSet HK3
        go_wp2_with (first
          | (refine wpList_load_row rfl 32 (.tmp 45) rfl b (by rfl) 32 (urlC sc ho pa fr rq) (0, 0) _ HU4.out Ybad.underlying32 (by rfl) (by exact info32) ?_)
          | (refine wpList_store_row rfl 32 (.tmp 7) (.tmp 46) rfl wc.heap.size (urlC sc ho pa fr rq) (by rfl) (by rfl) 32 (urlC ⟨#[]⟩ ⟨#[]⟩ ⟨#[]⟩ ⟨#[]⟩ ⟨#[]⟩) (heap_alloc_new wc _) (by exact info32) (by rfl) (by kernel_rfl) ?_; rw [World.setRow_alloc_new]))
        go_at_call 27
        refine Calls.mono HSet.out ?_
        rintro e w7 ⟨rfl, hu7, hb7⟩
        have HU7 : Hid (UrlAt w7 wc.heap.size sc ho ⟨(m0 pa.data.toList p.data.toList ++ [47]).toArray⟩ fr rq) := hu7
        have HB7 : Hid (Below w.heap.size w w7) := HBa.out.trans hb7
        clear hu7 hb7
        go_wp2_with fail
        go_ret2
        exact ⟨wc.heap.size, rfl, HB.out.size, by rw [hmp]; exact HU7.out, HB7.out⟩


theorem joinPathTop_any (b be : Nat) (sc ho pa fr rq p : ByteArray) (w : World) (hu : UrlAt w b sc ho pa fr rq) (hp : w.cell? ⟨be, 0, none⟩ = some (.string p)) (hT : TabIn w) (hk : Ok pa.data.toList) (hk2 : Ok p.data.toList) (hl : pa.size ≤ 1000000) (hl2 : p.size ≤ 1000000) :
    Calls Ybad.prog 11 #[.pointer (some ⟨b, 0, none⟩), .slice (some ⟨be, 0, none⟩) 1 1] w (JoinPost w sc ho fr rq (mpath pa.data.toList p.data.toList) fun v => v) := by
  have HJ := joinPath_any b be sc ho pa fr rq p w hu hp hT hk hk2 hl hl2
  go_enter Ybad.func11, Ybad.ntmps11
  go_wp2_with fail
  go_at_call 18
  refine Calls.mono HJ ?_
  rintro e w2 ⟨b2, rfl, h2⟩
  go_wp2_with fail
  go_ret
  exact ⟨b2, rfl, h2⟩
end Go.Proofs.YbulkdvnaDoor
