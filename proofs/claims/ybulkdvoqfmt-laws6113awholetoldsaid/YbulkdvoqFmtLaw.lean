import Derived.Test.YbulkdvoqFmtHdr
import Derived.Test.YbulkdvoqFmtLaw0
namespace Go.Proofs.YbulkdvoqFmt
open Go Go.RowKit Go.Extern.Stop Go.Stop Go.Extern

/-- the stream as the law has built it -/
structure Strm (w : World) (bi : Nat) (id : List Int) (W : World) (g l cap : Nat) (S : List Int) : Prop where
  own : Own W (bi + 1) g l cap S
  idin : IdIn W bi id
  bel : Below bi w W
  rng : ∀ x ∈ S, 0 ≤ x ∧ x < 256

theorem Strm.app {w : World} {bi : Nat} {id : List Int} {W : World} {g l cap : Nat} {S : List Int} (h : Strm w bi id W g l cap S) (p : Option Addr) (n c : Nat) (xs : List Int) (hx : xs.length = n) (hi : In W p n xs) (hr : ∀ x ∈ xs, 0 ≤ x ∧ x < 256) (hl : l + n ≤ 4000000) :
    ∃ g' cap' W', (Builtin.append_ #[22, 22] 22 #[.slice (some ⟨g, 0, none⟩) l cap, .slice p n c]).run Ybaf.prog W = .ok (.slice (some ⟨g', 0, none⟩) (l + n) cap') W' ∧ Strm w bi id W' g' (l + n) cap' (S ++ xs) := by
  obtain ⟨g', cap', W', hr', ho, hb⟩ := app_any W (bi + 1) g l cap S h.own p n c xs hx hi (Nat.le_of_lt (Nat.lt_of_le_of_lt h.own.cap.2.2.1 h.own.cap.2.2.2)) (by omega)
  exact ⟨g', cap', W', hr', ho, h.idin.below hb (by omega), h.bel.trans (hb.mono (by omega)), fun x hx' => by
    rcases List.mem_append.1 hx' with h1 | h1
    · exact h.rng x h1
    · exact hr x h1⟩
theorem Strm.below {w : World} {bi : Nat} {id : List Int} {W W' : World} {g l cap : Nat} {S : List Int} (h : Strm w bi id W g l cap S) (hb : Below W.heap.size W W') : Strm w bi id W' g l cap S where
  own := h.own.below hb
  idin := h.idin.below hb (lt_of_block h.idin.2.2)
  bel := h.bel.trans (hb.mono (Nat.le_of_lt (lt_of_block h.idin.2.2)))
  rng := h.rng

/-- ahead of readHeader: the own error, the reader -/
abbrev W7of (W5 : World) (sx : ByteArray) (g5 n cap5 : Nat) (p8 : Option Addr) (n8 c8 : Nat) (m : Int) : World :=
  (W5.alloc (.cells #[.string sx] 40)).alloc (.cells #[.slice (some ⟨g5, 0, none⟩) n cap5, .int .i64 0, .slice p8 n8 c8, .int .i64 0, .int .u8 m, .iface 38 (.pointer (some ⟨W5.heap.size, 0, none⟩))] 31)

theorem ahead_hdr (F : Interp) (w W5 : World) (id : List Int) (g5 cap5 l n : Nat) (S5 : List Int) (h : Strm w w.heap.size id W5 g5 l cap5 S5) (hn : n ≤ l) (hl : l ≤ 4000000) (sx : ByteArray) (p8 : Option Addr) (n8 c8 : Nat) (C : List Int) (m : Int) (hC : In w p8 n8 C)
    (hCr : ∀ j, 0 ≤ C.getD j 0 ∧ C.getD j 0 < 256) (hm : 0 ≤ m ∧ m < 4) (hn8 : n8 ≤ 1048576) (hF : F.answers w.tape) (ae au : Addr) (g0 : w.cell? ⟨0, 0, none⟩ = some (.iface 38 (.pointer (some ae)))) (g1 : w.cell? ⟨1, 0, none⟩ = some (.iface 38 (.pointer (some au))))
    (he : ∃ v, w.cell? ae = some v) (hu : ∃ v, w.cell? au = some v) :
    Calls Ybaf.prog 5 #[.iface 29 (.pointer (some ⟨W5.heap.size + 1, 0, none⟩))] (W7of W5 sx g5 n cap5 p8 n8 c8 m) (HdrPost (W7of W5 sx g5 n cap5 p8 n8 c8 m) (W5.heap.size + 1) (S5.take n) m W5.heap.size ae au) ∧
    Errs (W7of W5 sx g5 n cap5 p8 n8 c8 m) W5.heap.size ae au ∧ Off (W5.heap.size + 1) W5.heap.size ae au ∧ IdIn (W7of W5 sx g5 n cap5 p8 n8 c8 m) w.heap.size id ∧ Below w.heap.size w (W7of W5 sx g5 n cap5 p8 n8 c8 m) ∧ (S5.take n).length = n := by
  have hb7 : Below W5.heap.size W5 (W7of W5 sx g5 n cap5 p8 n8 c8 m) := ((Below.refl _ W5).alloc (Nat.le_refl _) _).alloc (by simp) _
  have hw : w.heap.size < W5.heap.size := lt_of_block h.idin.2.2
  have hbw : Below w.heap.size w (W7of W5 sx g5 n cap5 p8 n8 c8 m) := h.bel.trans (hb7.mono (by omega))
  have hlen : (S5.take n).length = n := by have := h.own.len; rw [List.length_take]; omega
  have hcap := h.own.cap
  have h0 := World.block_lt_of_cell? _ _ g0
  have h1 := World.block_lt_of_cell? _ _ g1
  simp only at h0 h1
  obtain ⟨ve, hve⟩ := he
  obtain ⟨vu, hvu⟩ := hu
  have hae := World.block_lt_of_cell? _ _ hve
  have hau := World.block_lt_of_cell? _ _ hvu
  have hE : Errs (W7of W5 sx g5 n cap5 p8 n8 c8 m) W5.heap.size ae au :=
    ⟨⟨_, heap_alloc2_old W5 _ _⟩, (hbw.cell h0).trans g0, (hbw.cell h1).trans g1, ⟨ve, (hbw.cell hae).trans hve⟩, ⟨vu, (hbw.cell hau).trans hvu⟩, by omega, by omega⟩
  have hO : Off (W5.heap.size + 1) W5.heap.size ae au := ⟨by omega, by omega, by omega, by omega, by omega⟩
  have hsz : (W7of W5 sx g5 n cap5 p8 n8 c8 m).heap.size = W5.heap.size + 2 := by simp
  have hS : Src (W7of W5 sx g5 n cap5 p8 n8 c8 m) (W5.heap.size + 1) g5 cap5 (S5.take n) p8 n8 c8 C m (.iface 38 (.pointer (some ⟨W5.heap.size, 0, none⟩))) := by
    refine ⟨?_, fun i hi => ?_, fun h8 => ?_, ⟨by omega, by omega, by omega⟩, hCr, hm, ⟨by omega, by omega, by omega, by omega⟩⟩
    · rw [hlen]
      exact heap_alloc2_new W5 _ _
    · rw [hlen] at hi
      have e : (S5.take n).getD i 0 = S5.getD i 0 := by rw [List.getD_eq_getElem?_getD, List.getElem?_take, if_pos hi, List.getD_eq_getElem?_getD]
      rw [e]
      exact (hb7.cell hcap.2.2.2).trans (h.own.cell i (by omega))
    · obtain ⟨b, o, e, hc⟩ := hC h8
      have hbl := World.block_lt_of_cell? _ _ (hc 0 h8)
      simp only at hbl
      exact ⟨b, o, e, by omega, by omega, fun j hj => (hbw.cell hbl).trans (hc j hj)⟩
  refine ⟨hdr_any F _ _ g5 cap5 (S5.take n) p8 n8 c8 C m W5.heap.size ae au hS hE hO (by rw [hbw.tape]; exact hF) (fun i => ?_), hE, hO, h.idin.below hb7 hw, hbw, hlen⟩
  rw [List.getD_eq_getElem?_getD]
  cases hg : (S5.take n)[i]? with
  | none => simp
  | some v => exact h.rng v (List.mem_of_mem_take (List.mem_of_getElem? hg))

theorem hdrOf_vals (l : List Int) : hdrOf l = .agg (vals l).toArray := rfl
theorem vals_all (l : List Int) : ((vals l).toArray).all (·.oneCell') = true := by
  rw [Array.all_eq_true_iff_forall_mem]
  intro v hv
  exact vals_one l v (List.mem_toArray.1 hv)
theorem vals_size (l : List Int) (h : l.length = 19) : (vals l).toArray.size = 19 := by
  rw [List.size_toArray, vals_len, h]
theorem Keep.idin {br b : Nat} {w w' : World} {id : List Int} (h : Keep br w w') (hi : IdIn w b id) (hb : b ≠ br) : IdIn w' b id := ⟨hi.1, hi.2.1, (h.block b (lt_of_block hi.2.2) hb).trans hi.2.2⟩
theorem Keep.errs {br bo : Nat} {w w' : World} {ae au : Addr} (h : Keep br w w') (hE : Errs w bo ae au) (hO : Off br bo ae au) : Errs w' bo ae au := by
  obtain ⟨co, hc⟩ := hE.own
  obtain ⟨ve, hve⟩ := hE.e0
  obtain ⟨vu, hvu⟩ := hE.e1
  exact hE.block (h.block _ (lt_of_block hc) hO.1) (h.block _ (World.block_lt_of_cell? _ _ hE.g0) hO.2.1) (h.block _ (World.block_lt_of_cell? _ _ hE.g1) hO.2.2.1) (h.block _ (World.block_lt_of_cell? _ _ hve) hO.2.2.2.1) (h.block _ (World.block_lt_of_cell? _ _ hvu) hO.2.2.2.2)
theorem Errs.below {w w' : World} {bo : Nat} {ae au : Addr} (h : Errs w bo ae au) (hb : Below w.heap.size w w') : Errs w' bo ae au := by
  obtain ⟨co, hc⟩ := h.own
  obtain ⟨ve, hve⟩ := h.e0
  obtain ⟨vu, hvu⟩ := h.e1
  exact h.block (hb.block _ (lt_of_block hc)) (hb.block _ (World.block_lt_of_cell? _ _ h.g0)) (hb.block _ (World.block_lt_of_cell? _ _ h.g1)) (hb.block _ (World.block_lt_of_cell? _ _ hve)) (hb.block _ (World.block_lt_of_cell? _ _ hvu))

/-- behind readHeader -/
structure Aft (w : World) (br bo : Nat) (ae au : Addr) (id : List Int) (n : Nat) (m : Int) (W : World) : Prop where
  bel : Below w.heap.size w W
  errs : Errs W bo ae au
  idin : IdIn W w.heap.size id
  c1 : W.cell? ⟨br, 1, none⟩ = some (.int .i64 (n : Int))
  c4 : W.cell? ⟨br, 4, none⟩ = some (.int .u8 m)
theorem Aft.below {w : World} {br bo : Nat} {ae au : Addr} {id : List Int} {n : Nat} {m : Int} {W W' : World} (h : Aft w br bo ae au id n m W) (hb : Below W.heap.size W W') : Aft w br bo ae au id n m W' :=
  ⟨h.bel.trans (hb.mono h.bel.size), h.errs.below hb, h.idin.below hb (lt_of_block h.idin.2.2), (hb.cell (World.block_lt_of_cell? _ _ h.c1)).trans h.c1, (hb.cell (World.block_lt_of_cell? _ _ h.c4)).trans h.c4⟩

theorem neq_two (w : World) {a b : Addr} {ca cb : Array Value} {ta tb : TypeId} (hne : a ≠ b) (ha : w.heap[a.block]? = some (.cells ca ta (0, 0))) (hb : w.heap[b.block]? = some (.cells cb tb (0, 0))) :
    (binOp .neq 27 (.iface 38 (.pointer (some a))) (.iface 38 (.pointer (some b)))).run Ybaf.prog w = .ok (.bool true) w := by
  obtain ⟨i, hi, hc⟩ := Option.map_eq_some_iff.1 info38
  obtain ⟨j, hj, hs⟩ := Option.map_eq_some_iff.1 info40
  have h := run_equalIn_iface_ptr_other w 9998 Ybaf.underlying27 Ybaf.underlying38 hi hc hj (by rw [hs]; decide) hne ha hb
  simp only [binOp]
  simp [Op.equal, Op.maxDepth, h]
theorem le4_take (S : List Int) (n : Nat) (h : 23 ≤ n) : le4 (S.take n) = le4 S := by
  have e : ∀ j, j < 23 → (S.take n).getD j 0 = S.getD j 0 := fun j hj => by
    rw [List.getD_eq_getElem?_getD, List.getElem?_take, if_pos (by omega), List.getD_eq_getElem?_getD]
  unfold le4
  rw [e 19 (by omega), e 20 (by omega), e 21 (by omega), e 22 (by omega)]

/-- sixteen numbers -/
theorem list16 : ∀ (l : List Int), l.length = 16 → ∃ x0 x1 x2 x3 x4 x5 x6 x7 x8 x9 x10 x11 x12 x13 x14 x15, l = [x0, x1, x2, x3, x4, x5, x6, x7, x8, x9, x10, x11, x12, x13, x14, x15]
  | [x0, x1, x2, x3, x4, x5, x6, x7, x8, x9, x10, x11, x12, x13, x14, x15], _ => ⟨x0, x1, x2, x3, x4, x5, x6, x7, x8, x9, x10, x11, x12, x13, x14, x15, rfl⟩

set_option maxHeartbeats 16000000 in
set_option maxRecDepth 100000 in
theorem law_any (F : Interp) (p0 : Option Addr) (n0 c0 : Nat) (I : List Int) (typ ttl hops len : Int) (p5 : Option Addr) (n5 c5 : Nat) (T : List Int) (cutOn : Bool) (cut : Int) (p8 : Option Addr) (n8 c8 : Nat) (C : List Int) (md : Int) (w : World)
    (hI : In w p0 n0 I) (hIr : ∀ j, 0 ≤ I.getD j 0 ∧ I.getD j 0 < 256) (ht : 0 ≤ typ ∧ typ < 256) (htt : 0 ≤ ttl ∧ ttl < 256) (hh : 0 ≤ hops ∧ hops < 256) (hlen : 0 ≤ len ∧ len < 4294967296)
    (hT : In w p5 n5 T) (hTl : T.length = n5) (hTr : ∀ x ∈ T, 0 ≤ x ∧ x < 256) (hct : 0 ≤ cut ∧ cut < 256) (hC : In w p8 n8 C) (hCr : ∀ j, 0 ≤ C.getD j 0 ∧ C.getD j 0 < 256) (hmd : 0 ≤ md ∧ md < 256)
    (hF : F.answers w.tape) (ae au : Addr) (g0 : w.cell? ⟨0, 0, none⟩ = some (.iface 38 (.pointer (some ae)))) (g1 : w.cell? ⟨1, 0, none⟩ = some (.iface 38 (.pointer (some au)))) (he : ∃ v, w.cell? ae = some v) (hu : ∃ v, w.cell? au = some v) :
    Calls Ybaf.prog 3 #[.slice p0 n0 c0, .int .u8 typ, .int .u8 ttl, .int .u8 hops, .int .u32 len, .slice p5 n5 c5, .bool cutOn, .int .u8 cut, .slice p8 n8 c8, .int .u8 md] w fun e w' => e = .returned (.bool true) ∧ Below w.heap.size w w' := by
  have HI : Hid (In w p0 n0 I) := hI
  have HIr : Hid (∀ j, 0 ≤ I.getD j 0 ∧ I.getD j 0 < 256) := hIr
  have HT : Hid (In w p5 n5 T) := hT
  have HTl : Hid (T.length = n5) := hTl
  have HTr : Hid (∀ x ∈ T, 0 ≤ x ∧ x < 256) := hTr
  have HC : Hid (In w p8 n8 C) := hC
  have HCr : Hid (∀ j, 0 ≤ C.getD j 0 ∧ C.getD j 0 < 256) := hCr
  have G0 : Hid (w.cell? ⟨0, 0, none⟩ = some (.iface 38 (.pointer (some ae)))) := g0
  have G1 : Hid (w.cell? ⟨1, 0, none⟩ = some (.iface 38 (.pointer (some au)))) := g1
  have HE : Hid (∃ v, w.cell? ae = some v) := he
  have HU : Hid (∃ v, w.cell? au = some v) := hu
  have HFF : Hid (F.answers w.tape) := hF
  clear hI hIr hT hTl hTr hC hCr g0 g1 he hu hF
  rcases Nat.lt_or_ge 1048576 n0 with hb0 | hb0
  · go_enter Ybaf.func3, Ybaf.ntmps3
    go_wp2_with fail
    go_ret
    exact ⟨rfl, Below.refl _ _⟩
  rcases Nat.lt_or_ge 1048576 n5 with hb5 | hb5
  · go_enter Ybaf.func3, Ybaf.ntmps3
    go_wp2_with fail
    go_ret
    exact ⟨rfl, Below.refl _ _⟩
  rcases Nat.lt_or_ge 1048576 n8 with hb8 | hb8
  · go_enter Ybaf.func3, Ybaf.ntmps3
    go_wp2_with fail
    go_ret
    exact ⟨rfl, Below.refl _ _⟩
  have HId0 : Hid (IdIn _ w.heap.size _) := IdIn.start w
  have HB0 : Hid (Below w.heap.size w (w.alloc (.cells #[.int .u8 0, .int .u8 0, .int .u8 0, .int .u8 0, .int .u8 0, .int .u8 0, .int .u8 0, .int .u8 0, .int .u8 0, .int .u8 0, .int .u8 0, .int .u8 0, .int .u8 0, .int .u8 0, .int .u8 0, .int .u8 0] 24))) := (Below.refl _ w).alloc (Nat.le_refl _) _
  go_enter Ybaf.func3, Ybaf.ntmps3
  go_upto_if 48 with (fail)
  go_cut [22] from 33 to 61 (fun _ wx => ∃ id, Hid (IdIn wx w.heap.size id) ∧ Hid (Below w.heap.size w wx))
  case first =>
    rcases Nat.eq_zero_or_pos n0 with hz | hz
    · subst hz
      go_wp2_with fail
      go_meet
      case rel => exact ⟨_, HId0, HB0⟩
    · have hz' : (0 : Int) < (n0 : Int) := by omega
      go_wp2_with fail
      go_loopw [22] (fun i wr => ∃ (k : Nat) (id : List Int), k ≤ 16 ∧ i = .int .i64 (k : Int) ∧ Hid (IdIn wr w.heap.size id) ∧ Hid (Below w.heap.size w wr)) (fun i _ => 16 - (intOf i).toNat)
      case atStart => exact ⟨0, _, by omega, rfl, HId0, HB0⟩
      case round =>
        obtain ⟨k, id, hk, rfl, HId, HB⟩ := hrel
        by_cases hlt : k < 16
        · obtain ⟨b, o, rfl, hc⟩ := HI.out hz
          have hj : k % n0 < n0 := Nat.mod_lt _ hz
          have hcj := (HB.out.cell (World.block_lt_of_cell? _ _ (hc (k % n0) hj))).trans (hc (k % n0) hj)
          have hrg := HIr.out (k % n0)
          have hjm : ((k : Int) % (n0 : Int)) = ((k % n0 : Nat) : Int) := by simp
          have hjt : Int.tmod (k : Int) (n0 : Int) = ((k % n0 : Nat) : Int) := by rw [Int.tmod_eq_emod_of_nonneg (by omega)]; exact hjm
          have hjl : ((k % n0 : Nat) : Int) < (n0 : Int) := by omega
          generalize k % n0 = j at *
          generalize I.getD j 0 = x at *
          have cid := HId.out.cell k hlt
          have fid := HId.out.thaw k
          have hk16 : (k : Int) < 16 := by omega
          have HId2 : Hid (IdIn (wr.setCell ⟨w.heap.size, k, none⟩ (.int .u8 x)) w.heap.size (id.set k x)) := HId.out.set k x hrg
          have HB2 : Hid (Below w.heap.size w (wr.setCell ⟨w.heap.size, k, none⟩ (.int .u8 x))) := HB.out.setCell (Nat.le_refl _) _
          clear hc
          go_wp2_with fail
          exact ⟨⟨k + 1, _, by omega, by go_num, HId2, HB2⟩, by simp [intOf]; omega⟩
        · obtain rfl : k = 16 := by omega
          go_wp2_with fail
          go_meet
          case rel => exact ⟨_, HId, HB⟩
  case rest =>
    clear HId0 HB0
    obtain ⟨id, HId, HB⟩ := hcut
    obtain ⟨i5v, hi5, hz5, hs5, hby5⟩ := i5'
    have HLt : Hid (w.heap.size + 1 ≤ wc.heap.size) := lt_of_block HId.out.2.2
    have Hby : Hid (i5v.bytes = 1) := hby5
    clear hby5
    go_wp2_with (refine wpList_make_own wc rfl (.const (.int .i64 0)) (.tmp 64) 22 rfl (w.heap.size + 1) 5 i5v (.int .u8 0) 1 Ybaf.underlying22 hi5 hz5 hs5 .i64 .i64 (23 + (n5 : Int)) (23 + n5) rfl rfl (by push_cast; rfl) (by rw [Hby.out]; omega) (by unfold maxLen; omega) HLt.out ?_; intro W1 ho1 hg1)
    have HS1 : Hid (Strm w w.heap.size id W1 wc.heap.size 0 (23 + n5) []) := by
      have hb1 : Below wc.heap.size wc W1 := (Below.refl wc.heap.size wc).grown hg1 (Nat.le_refl _) (fun k hk => by cases hk)
      exact ⟨ho1, HId.out.below hb1 HLt.out, HB.out.trans (hb1.mono (by have := HLt.out; omega)), fun x hx => by cases hx⟩
    clear ho1 hg1 hi5 hz5 hs5
    go_loopw [23, 24] (fun sv i wr => ∃ (k g cap : Nat), k ≤ 16 ∧ i = .int .i64 (k : Int) ∧ sv = .slice (some ⟨g, 0, none⟩) k cap ∧ Hid (Strm w w.heap.size id wr g k cap (id.take k))) (fun _ i _ => 16 - (intOf i).toNat)
    case atStart => exact ⟨0, _, _, by omega, rfl, rfl, HS1⟩
    case round =>
      obtain ⟨k, g, cap, hk, rfl, rfl, HS⟩ := hrel
      have hidl := HId.out.1
      by_cases hlt : k < 16
      · have cid := HS.out.idin.cell k hlt
        have hk16 : (k : Int) < 16 := by omega
        have hrg : 0 ≤ id.getD k 0 ∧ id.getD k 0 < 256 := HId.out.2.1 _ (by rw [List.getD_eq_getElem?_getD, List.getElem?_eq_getElem (by omega)]; exact List.getElem_mem _)
        have HTk : Hid (id.take (k + 1) = id.take k ++ [id.getD k 0]) := by
          have := List.take_succ_eq_append_getElem (l := id) (i := k) (by omega)
          rw [List.getD_eq_getElem?_getD, List.getElem?_eq_getElem (by omega)]
          exact this
        generalize id.getD k 0 = x at *
        have hba : Below wr.heap.size wr (wr.alloc (.cells #[.int .u8 x] 5)) := (Below.refl _ wr).alloc (Nat.le_refl _) _
        obtain ⟨g', cap', W', hap, hst⟩ := (HS.out.below hba).app (some ⟨wr.heap.size, 0, none⟩) 1 1 [x] rfl (fun _ => ⟨wr.heap.size, 0, rfl, fun i hi => by
          obtain rfl : i = 0 := by omega
          exact (cell_of_row _ _ _ _ 5 (0, 0) (heap_alloc_new wr _)).trans rfl⟩) (fun y hy => by rw [List.mem_singleton.1 hy]; exact hrg) (by omega)
        have HAP : Hid ((Builtin.append_ #[22, 22] 22 #[.slice (some ⟨g, 0, none⟩) k cap, .slice (some ⟨wr.heap.size, 0, none⟩) 1 1]).run Ybaf.prog (wr.alloc (.cells #[.int .u8 x] 5)) = .ok (.slice (some ⟨g', 0, none⟩) (k + 1) cap') W') := hap
        have HS2 : Hid (Strm w w.heap.size id W' g' (k + 1) cap' (id.take (k + 1))) := by rw [HTk.out]; exact hst
        clear hap hst hba
        go_wp2_with (at_builtin; refine wpList_app rfl (.tmp 70) (.tmp 74) 22 22 rfl rfl rfl rfl HAP.out ?_)
        exact ⟨⟨k + 1, g', cap', by omega, by go_num, rfl, HS2⟩, by simp [intOf]; omega⟩
      · obtain rfl : k = 16 := by omega
        rw [List.take_of_length_le (by omega)] at HS
        have hba : Below wr.heap.size wr (wr.alloc (.cells #[.int .u8 typ, .int .u8 ttl, .int .u8 hops] 5)) := (Below.refl _ wr).alloc (Nat.le_refl _) _
        obtain ⟨g3, cap3, W3, hap3, hst3⟩ := (HS.out.below hba).app (some ⟨wr.heap.size, 0, none⟩) 3 3 [typ, ttl, hops] rfl (fun _ => ⟨wr.heap.size, 0, rfl, fun i hi => by
          have : i = 0 ∨ i = 1 ∨ i = 2 := by omega
          rcases this with rfl | rfl | rfl <;> exact (cell_of_row _ _ _ _ 5 (0, 0) (heap_alloc_new wr _)).trans rfl⟩) (fun y hy => by
            simp at hy
            rcases hy with rfl | rfl | rfl <;> assumption) (by omega)
        have HAP3 : Hid ((Builtin.append_ #[22, 22] 22 #[.slice (some ⟨g, 0, none⟩) 16 cap, .slice (some ⟨wr.heap.size, 0, none⟩) 3 3]).run Ybaf.prog (wr.alloc (.cells #[.int .u8 typ, .int .u8 ttl, .int .u8 hops] 5)) = .ok (.slice (some ⟨g3, 0, none⟩) 19 cap3) W3) := hap3
        have HS3 : Hid (Strm w w.heap.size id W3 g3 19 cap3 (id ++ [typ, ttl, hops])) := hst3
        clear hap3 hst3 hba
        have hbb : Below W3.heap.size W3 (W3.alloc (.cells #[.int .u8 (len % 256), .int .u8 (len / 256 % 256), .int .u8 (len / 65536 % 256), .int .u8 (len / 16777216)] 5)) := (Below.refl _ W3).alloc (Nat.le_refl _) _
        obtain ⟨g4, cap4, W4, hap4, hst4⟩ := (HS3.out.below hbb).app (some ⟨W3.heap.size, 0, none⟩) 4 4 [len % 256, len / 256 % 256, len / 65536 % 256, len / 16777216] rfl (fun _ => ⟨W3.heap.size, 0, rfl, fun i hi => by
          have : i = 0 ∨ i = 1 ∨ i = 2 ∨ i = 3 := by omega
          rcases this with rfl | rfl | rfl | rfl <;> exact (cell_of_row _ _ _ _ 5 (0, 0) (heap_alloc_new W3 _)).trans rfl⟩) (fun y hy => by
            simp at hy
            rcases hy with rfl | rfl | rfl | rfl <;> omega) (by omega)
        have HAP4 : Hid ((Builtin.append_ #[22, 22] 22 #[.slice (some ⟨g3, 0, none⟩) 19 cap3, .slice (some ⟨W3.heap.size, 0, none⟩) 4 4]).run Ybaf.prog (W3.alloc (.cells #[.int .u8 (len % 256), .int .u8 (len / 256 % 256), .int .u8 (len / 65536 % 256), .int .u8 (len / 16777216)] 5)) = .ok (.slice (some ⟨g4, 0, none⟩) 23 cap4) W4) := hap4
        obtain ⟨g5, cap5, W5, hap5, hst5⟩ := hst4.app p5 n5 c5 T HTl.out (fun hn => by
          obtain ⟨b, o, e, hc⟩ := HT.out hn
          exact ⟨b, o, e, fun i hi => (hst4.bel.cell (World.block_lt_of_cell? _ _ (hc i hi))).trans (hc i hi)⟩) HTr.out (by omega)
        have HAP5 : Hid ((Builtin.append_ #[22, 22] 22 #[.slice (some ⟨g4, 0, none⟩) 23 cap4, .slice p5 n5 c5]).run Ybaf.prog W4 = .ok (.slice (some ⟨g5, 0, none⟩) (23 + n5) cap5) W5) := hap5
        have HS5 : Hid (Strm w w.heap.size id W5 g5 (23 + n5) cap5 (id ++ [typ, ttl, hops] ++ [len % 256, len / 256 % 256, len / 65536 % 256, len / 16777216] ++ T)) := hst5
        have hcap := hst5.own.cap
        clear hap4 hst4 hap5 hst5 hbb
        go_upto_if 99 with (at_builtin; first
          | refine wpList_app rfl (.tmp 76) (.tmp 80) 22 22 rfl rfl rfl rfl HAP3.out ?_
          | refine wpList_app rfl (.tmp 82) (.tmp 94) 22 22 rfl rfl rfl rfl HAP4.out ?_
          | refine wpList_app rfl (.tmp 96) (.tmp 97) 22 22 rfl rfl rfl rfl HAP5.out ?_)
        clear HAP3 HAP4 HAP5 HS3 HS
        go_cut [23, 25] from 62 to 105 (fun sv _ wx => ∃ n : Nat, n ≤ 23 + n5 ∧ sv = .slice (some ⟨g5, 0, none⟩) n cap5 ∧ wx = W5)
        case first =>
          cases cutOn with
          | false =>
            go_wp2_with fail
            go_meet
            case rel => exact ⟨23 + n5, Nat.le_refl _, rfl, rfl⟩
          | true =>
            have hc24 : 0 ≤ cut % 24 ∧ cut % 24 < 24 := by omega
            go_wp2_with fail
            go_meet
            case rel => exact ⟨(cut % 24).toNat, by omega, rfl, rfl⟩
        case rest =>
          obtain ⟨n, hn, rfl, rfl⟩ := hcut
          have hm4 : 0 ≤ md % 4 ∧ md % 4 < 4 := by omega
          obtain ⟨hcall, hE7, hO7, hId7, hB7, hSl⟩ := ahead_hdr F w wc id g5 cap5 (23 + n5) n _ HS5.out hn (by omega) ⟨#[122, 122, 32, 111, 119, 110, 32, 101, 110, 100]⟩ p8 n8 c8 C (md % 4) HC.out HCr.out hm4 hb8 HFF.out ae au G0.out G1.out HE.out HU.out
          have HCall : Hid _ := hcall
          have HE7 : Hid (Errs _ _ _ _) := hE7
          have HO7 : Hid (Off _ _ _ _) := hO7
          have HId7 : Hid (IdIn _ _ _) := hId7
          have HB7 : Hid (Below _ _ _) := hB7
          have HSl : Hid (List.length _ = n) := hSl
          clear hcall hE7 hO7 hId7 hB7 hSl
          go_wp2_with fail
          go_at_call 4
          refine Calls.mono (new_any _ _) ?_
          rintro e w6 ⟨rfl, hw6⟩
          have HW6 : Hid (w6 = _) := hw6
          clear hw6
          go_wp2_with fail
          go_at_call 5
          obtain rfl := HW6.out
          simp only [World.size_alloc]
          refine Calls.mono HCall.out ?_
          rintro e w8 ⟨n', hv, lv, er, rfl, hK, hc1, hc4, hend⟩
          have hA : Aft w (wc.heap.size + 1) wc.heap.size ae au id n' (md % 4) w8 :=
            ⟨HB7.out.trans ⟨hK.os, hK.tape, hK.output, hK.size, fun k hk => hK.block k (Nat.lt_of_lt_of_le hk HB7.out.size) (by have := lt_of_block HS5.out.idin.2.2; omega)⟩, hK.errs HE7.out HO7.out, hK.idin HId7.out (by have := lt_of_block HS5.out.idin.2.2; omega), hc1, hc4⟩
          obtain ⟨l19, hl19, rfl⟩ : ∃ l : List Int, l.length = 19 ∧ hv = .agg (vals l).toArray := by
            rcases hend with ⟨h1, _, rfl, _⟩ | ⟨_, _, rfl, _⟩
            · exact ⟨_, by rw [List.length_take]; omega, rfl⟩
            · exact ⟨_, by simp, rfl⟩
          have HA8 : Hid (Aft w (wc.heap.size + 1) wc.heap.size ae au id n' (md % 4) w8) := hA
          have HEnd : Hid (HdrEnd _ _ _ _ _ _ _ _ _ _ _) := hend
          have HI9 : Hid ((Ybaf.prog.info? 34).map (·.size) = some (vals l19).toArray.size) := by rw [vals_size l19 hl19]; exact info34
          have HZ9 : Hid (Z19.size = (vals l19).toArray.size) := by rw [vals_size l19 hl19]; rfl
          have HL9 : Hid (l19.length = 19) := hl19
          clear hA hend hl19 hK hc1 hc4 HCall HE7 HO7 HId7 HB7
          go_upto_region 23 with (refine wpList_store_row rfl 34 (.tmp 28) (.tmp 118) rfl w8.heap.size (vals l19).toArray (by rfl) (by rfl) 34 Z19 (heap_alloc_new w8 _) HI9.out HZ9.out (vals_all l19) ?_; rw [World.setRow_alloc_new])
          have HA9 : Hid (Aft w (wc.heap.size + 1) wc.heap.size ae au id n' (md % 4) (w8.alloc (.cells (vals l19).toArray 34))) := HA8.out.below ((Below.refl _ w8).alloc (Nat.le_refl _) _)
          have HH9 : Hid ((w8.alloc (.cells (vals l19).toArray 34)).heap[w8.heap.size]? = some (.cells (vals l19).toArray 34 (0, 0))) := heap_alloc_new w8 _
          have HK9 : Hid (∀ (k : Nat) (co : Array Value), w8.heap[k]? = some (Obj.cells co 40 (0, 0)) → (w8.alloc (.cells (vals l19).toArray 34)).heap[k]? = some (Obj.cells co 40 (0, 0))) := fun k co hk => (((Below.refl w8.heap.size w8).alloc (Nat.le_refl _) _).block k (lt_of_block hk)).trans hk
          clear HA8
          generalize w8.alloc (.cells (vals l19).toArray 34) = w9 at *
          rcases HEnd.out with ⟨h23, rfl, hv, hlv, hcase⟩ | ⟨h23, rfl, hv, hlv, rfl⟩
          · --BEGIN A
            rw [HSl.out] at h23
            have HKb : Hid (ae.block < wc.heap.size ∧ au.block < wc.heap.size) := by
              have h5 := lt_of_block HS5.out.idin.2.2
              obtain ⟨_, h6⟩ := HE.out
              obtain ⟨_, h7⟩ := HU.out
              have h6 := World.block_lt_of_cell? _ _ h6
              have h7 := World.block_lt_of_cell? _ _ h7
              exact ⟨by omega, by omega⟩
            obtain ⟨x0, x1, x2, x3, x4, x5, x6, x7, x8, x9, x10, x11, x12, x13, x14, x15, rfl⟩ := list16 id HId.out.1
            rw [List.take_take, Nat.min_eq_left (by omega)] at hv
            have hv2 : (vals l19).toArray = (vals [x0, x1, x2, x3, x4, x5, x6, x7, x8, x9, x10, x11, x12, x13, x14, x15, typ, ttl, hops]).toArray := by
              injection hv
            rw [hv2] at HH9
            have hlv2 : lv = len := by
              rw [hlv, le4_take _ _ h23]
              show len % 256 + len / 256 % 256 * 256 + len / 65536 % 256 * 65536 + len / 16777216 * 16777216 = len
              omega
            subst hlv2
            have HIdB : Hid (w9.heap[w.heap.size]? = some (.cells (vals [x0, x1, x2, x3, x4, x5, x6, x7, x8, x9, x10, x11, x12, x13, x14, x15]).toArray 24 (0, 0))) := HA9.out.idin.2.2
            have hB10 : Below w9.heap.size w9 (w9.alloc (.cells (vals [x0, x1, x2, x3, x4, x5, x6, x7, x8, x9, x10, x11, x12, x13, x14, x15, typ, ttl, hops]).toArray 34)) := (Below.refl _ w9).alloc (Nat.le_refl _) _
            have HA10 : Hid (Aft w (wc.heap.size + 1) wc.heap.size ae au [x0, x1, x2, x3, x4, x5, x6, x7, x8, x9, x10, x11, x12, x13, x14, x15] 23 (md % 4) (w9.alloc (.cells (vals [x0, x1, x2, x3, x4, x5, x6, x7, x8, x9, x10, x11, x12, x13, x14, x15, typ, ttl, hops]).toArray 34))) := HA9.out.below hB10
            have HH10 : Hid ((w9.alloc (.cells (vals [x0, x1, x2, x3, x4, x5, x6, x7, x8, x9, x10, x11, x12, x13, x14, x15, typ, ttl, hops]).toArray 34)).heap[w8.heap.size]? = some (.cells (vals [x0, x1, x2, x3, x4, x5, x6, x7, x8, x9, x10, x11, x12, x13, x14, x15, typ, ttl, hops]).toArray 34 (0, 0))) := (hB10.block _ (lt_of_block HH9.out)).trans HH9.out
            have HW10 : Hid ((w9.alloc (.cells (vals [x0, x1, x2, x3, x4, x5, x6, x7, x8, x9, x10, x11, x12, x13, x14, x15, typ, ttl, hops]).toArray 34)).heap[w9.heap.size]? = some (.cells (vals [x0, x1, x2, x3, x4, x5, x6, x7, x8, x9, x10, x11, x12, x13, x14, x15, typ, ttl, hops]).toArray 34 (0, 0))) := heap_alloc_new w9 _
            have HK10 : Hid (∀ (k : Nat) (co : Array Value), w8.heap[k]? = some (Obj.cells co 40 (0, 0)) → (w9.alloc (.cells (vals [x0, x1, x2, x3, x4, x5, x6, x7, x8, x9, x10, x11, x12, x13, x14, x15, typ, ttl, hops]).toArray 34)).heap[k]? = some (Obj.cells co 40 (0, 0))) := fun k co hk => (hB10.block k (lt_of_block (HK9.out k co hk))).trans (HK9.out k co hk)
            have HQ : Hid (∀ W : World, (binOp .neq 34 (.agg (vals [x0, x1, x2, x3, x4, x5, x6, x7, x8, x9, x10, x11, x12, x13, x14, x15, typ, ttl, hops]).toArray) (.agg (vals [x0, x1, x2, x3, x4, x5, x6, x7, x8, x9, x10, x11, x12, x13, x14, x15, typ, ttl, hops]).toArray)).run Ybaf.prog W = .ok (.bool false) W) := fun W => hdr_same W _ rfl
            have HCase : Hid _ := hcase
            clear hB10 hv hv2 hlv hcase HK9 HEnd
            have hnl : (23 : Int) ≤ (n : Int) := by omega
            go_upto_region 26 with (first
              | (refine wpList_load_row rfl 24 (.tmp 21) rfl w.heap.size (by rfl) 24 (vals [x0, x1, x2, x3, x4, x5, x6, x7, x8, x9, x10, x11, x12, x13, x14, x15]).toArray (0, 0) _ HIdB.out Ybaf.underlying24 (by rfl) (by kernel_rfl) ?_)
              | (refine wpList_build rfl 34 _ rfl (by kernel_rfl) ?_)
              | (refine wpList_store_row rfl 34 (.tmp 32) (.tmp 129) rfl w9.heap.size (vals [x0, x1, x2, x3, x4, x5, x6, x7, x8, x9, x10, x11, x12, x13, x14, x15, typ, ttl, hops]).toArray (by rfl) (by kernel_rfl) 34 Z19 (heap_alloc_new w9 _) (by kernel_rfl) (by kernel_rfl) (by kernel_rfl) ?_; rw [World.setRow_alloc_new]))
            have HI34 : Hid ((Ybaf.prog.info? 34).map (·.size) = some (vals [x0, x1, x2, x3, x4, x5, x6, x7, x8, x9, x10, x11, x12, x13, x14, x15, typ, ttl, hops]).toArray.size) := info34
            clear HA9 HH9 HIdB
            generalize w9.alloc (.cells (vals [x0, x1, x2, x3, x4, x5, x6, x7, x8, x9, x10, x11, x12, x13, x14, x15, typ, ttl, hops]).toArray 34) = w10 at *
            generalize (vals [x0, x1, x2, x3, x4, x5, x6, x7, x8, x9, x10, x11, x12, x13, x14, x15, typ, ttl, hops]).toArray = V at *
            have c1 := HA10.out.c1
            simp only [Act.put]
            go_upto_region 28 with (first
              | (refine wpList_load_row rfl 34 (.tmp 28) rfl w8.heap.size (by rfl) 34 V (0, 0) _ HH10.out Ybaf.underlying34 (by rfl) HI34.out ?_)
              | (refine wpList_load_row rfl 34 (.tmp 32) rfl w9.heap.size (by rfl) 34 V (0, 0) _ HW10.out Ybaf.underlying34 (by rfl) HI34.out ?_)
              | (refine wpList_bin rfl .neq 34 34 (.tmp 130) (.tmp 131) rfl (vx := .agg V) (vy := .agg V) (by rfl) (by rfl) (run_eqGuard_agg _ _ _ _ _ _ _ guard34) (HQ.out _) ?_))
            rcases HCase.out with ⟨hle, rfl⟩ | ⟨hgt, k, co, rfl, hk, hkc⟩
            · go_wp2_with fail
              go_ret
              exact ⟨rfl, HA10.out.bel⟩
            · have hkk := HK10.out k co hkc
              have hks : wc.heap.size + 2 ≤ k := by
                have e : (W7of wc ⟨#[122, 122, 32, 111, 119, 110, 32, 101, 110, 100]⟩ g5 n cap5 p8 n8 c8 (md % 4)).heap.size = wc.heap.size + 2 := by simp
                omega
              obtain ⟨cw, hcw⟩ := HA10.out.errs.own
              obtain ⟨v0, hv0⟩ := HA10.out.errs.e0
              obtain ⟨v1, hv1⟩ := HA10.out.errs.e1
              have r0 := neq_two w10 (a := ⟨k, 0, none⟩) (b := ⟨wc.heap.size, 0, none⟩) (by intro hh; injection hh; omega) hkk hcw
              have r1 := neq_new w10 (a := ⟨k, 0, none⟩) (b := ae) (by have := HKb.out; simp only; omega) hkk hv0
              have r2 := neq_new w10 (a := ⟨k, 0, none⟩) (b := au) (by have := HKb.out; simp only; omega) hkk hv1
              have g0 := HA10.out.errs.g0
              have g1 := HA10.out.errs.g1
              clear hkk hkc hcw hv0 hv1
              go_wp2_with fail
              go_ret
              exact ⟨rfl, HA10.out.bel⟩
            --END A
          · --BEGIN B
            rw [HSl.out] at h23
            have hv2 : (vals l19).toArray = Z19 := by injection hv
            rw [hv2] at HH9
            subst hlv
            have hq : ∀ W : World, (binOp .neq 34 (.agg Z19) (.agg Z19)).run Ybaf.prog W = .ok (.bool false) W := fun W => hdr_same W (List.replicate 19 0) rfl
            have HQ : Hid (∀ W : World, (binOp .neq 34 (.agg Z19) (.agg Z19)).run Ybaf.prog W = .ok (.bool false) W) := hq
            have c1 := HA9.out.c1
            have c4 := HA9.out.c4
            rw [HSl.out] at c1
            have b1 := and1 (md % 4) hm4
            have g0 := HA9.out.errs.g0
            have g1 := HA9.out.errs.g1
            have q1 := eql_same w9
            clear hq hv hv2
            have hnl : (n : Int) < 23 := by omega
            unfold shortv
            rw [HSl.out]
            by_cases hm1 : md % 4 % 2 = 1
            · rw [if_pos hm1]
              rw [hm1] at b1
              go_wp2_with (first
                | (refine wpList_load_row rfl 34 (.tmp 28) rfl w8.heap.size (by rfl) 34 Z19 (0, 0) _ HH9.out Ybaf.underlying34 (by rfl) (by exact info34) ?_)
                | (refine wpList_bin rfl .neq 34 34 (.tmp 166) (.tmp 167) rfl (vx := .agg Z19) (vy := .agg Z19) (by rfl) (by rfl) (run_eqGuard_agg _ _ _ _ _ _ _ guard34) (HQ.out _) ?_))
              go_ret
              exact ⟨rfl, HA9.out.bel⟩
            · rw [if_neg hm1]
              rw [show md % 4 % 2 = 0 by omega] at b1
              by_cases hn0 : n = 0
              · rw [if_pos hn0]
                subst hn0
                go_wp2_with (first
                  | (refine wpList_load_row rfl 34 (.tmp 28) rfl w8.heap.size (by rfl) 34 Z19 (0, 0) _ HH9.out Ybaf.underlying34 (by rfl) (by exact info34) ?_)
                  | (refine wpList_bin rfl .neq 34 34 (.tmp 166) (.tmp 167) rfl (vx := .agg Z19) (vy := .agg Z19) (by rfl) (by rfl) (run_eqGuard_agg _ _ _ _ _ _ _ guard34) (HQ.out _) ?_))
                go_ret
                exact ⟨rfl, HA9.out.bel⟩
              · rw [if_neg hn0]
                have hn0' : ¬ (n : Int) = 0 := by omega
                go_wp2_with (first
                  | (refine wpList_load_row rfl 34 (.tmp 28) rfl w8.heap.size (by rfl) 34 Z19 (0, 0) _ HH9.out Ybaf.underlying34 (by rfl) (by exact info34) ?_)
                  | (refine wpList_bin rfl .neq 34 34 (.tmp 166) (.tmp 167) rfl (vx := .agg Z19) (vy := .agg Z19) (by rfl) (by rfl) (run_eqGuard_agg _ _ _ _ _ _ _ guard34) (HQ.out _) ?_))
                go_ret
                exact ⟨rfl, HA9.out.bel⟩
            --END B
end Go.Proofs.YbulkdvoqFmt
