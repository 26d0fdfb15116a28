import Derived.Test.YbulkdvkwDoorApp
import Derived.Deep.CutRange
import Derived.Deep.CutBlock
namespace Go.Proofs.YbulkdvkwDoor
open Go Go.RowKit

/-- the input that the law builds: a slice of bytes, wherever it lies -/
def InAt (w : World) (sv : Value) (wx : World) : Prop :=
  ∃ (q : Option Addr) (N C : Nat) (ys : List Int), sv = .slice q N C ∧ ys.length = N ∧ (∀ y ∈ ys, 0 ≤ y ∧ y < 256) ∧ N ≤ C ∧ C ≤ 9223372036854775807 ∧ N ≤ 1048582 ∧ Lib.BytesIn wx q N ys ∧ Below w.heap.size w wx

theorem InAt.own {w W : World} {g n cap : Nat} {ys : List Int} (h : W.ownsRow w.heap.size 5 1 (.slice (some ⟨g, 0, none⟩) n cap) n (vals ys)) (hr : ∀ y ∈ ys, 0 ≤ y ∧ y < 256) (hn : n ≤ 1048582) (hb : Below w.heap.size w W) :
    InAt w (.slice (some ⟨g, 0, none⟩) n cap) W := by
  have hl := h.1
  rw [vals_len, Nat.mul_one] at hl
  have hc : n ≤ cap ∧ cap ≤ 9223372036854775807 := by
    rcases h.2 with ⟨h1, _⟩ | ⟨g', cap', cur, h1, _, _, h2, h3, _⟩
    · cases h1
    · cases h1
      unfold maxLen at h3
      exact ⟨h2, by omega⟩
  exact ⟨_, n, cap, ys, rfl, hl, hr, hc.1, hc.2, hn, own_bytes h, hb⟩

/-- append, copy: by the equation of the call -/
theorem wpList_app {P : Program} {w : World} {ops : Array Oper} {rest : List Oper} {o : Oper} {a : Act} {Q : Exit → Act → World → Prop} (hgd : o.guard = none) (s x : Operand) (t ty : TypeId)
    (ho : o.op = .call { callee := .builtin .append, args := #[s, x], argTypes := #[t, t] }) (hty : o.type = ty) {v vx v' : Value} {w' : World} (hs : a.eval s = v) (hx : a.eval x = vx)
    (hr : (Builtin.append_ #[t, t] ty #[v, vx]).run P w = .ok v' w') (h : wpList P ops Q rest (a.put o.dst v') w') : wpList P ops Q (o :: rest) a w :=
  wpList_plain hgd fun _ hK => by
    unfold Oper.wp execOp
    simp only [ho, hty, resolve, invoke, builtin, Sem.run_bind, Sem.run_pure, Result.andThen_ok, List.map_toArray, List.map_cons, List.map_nil, hs, hx, hr]
    exact hK _ _ h
theorem wpList_cpy {P : Program} {w : World} {ops : Array Oper} {rest : List Oper} {o : Oper} {a : Act} {Q : Exit → Act → World → Prop} (hgd : o.guard = none) (s x : Operand) (t ty : TypeId)
    (ho : o.op = .call { callee := .builtin .copy, args := #[s, x], argTypes := #[t, t] }) (hty : o.type = ty) {v vx v' : Value} {w' : World} (hs : a.eval s = v) (hx : a.eval x = vx)
    (hr : (Builtin.copy_ #[t, t] ty #[v, vx]).run P w = .ok v' w') (h : wpList P ops Q rest (a.put o.dst v') w') : wpList P ops Q (o :: rest) a w :=
  wpList_plain hgd fun _ hK => by
    unfold Oper.wp execOp
    simp only [ho, hty, resolve, invoke, builtin, Sem.run_bind, Sem.run_pure, Result.andThen_ok, List.map_toArray, List.map_cons, List.map_nil, hs, hx, hr]
    exact hK _ _ h

/-- append of one byte -/
theorem wpList_app1 {w0 : World} {ops : Array Oper} {rest : List Oper} {o : Oper} {a : Act} {Q : Exit → Act → World → Prop} (hgd : o.guard = none) (s x : Operand)
    (ho : o.op = .call { callee := .builtin .append, args := #[s, x], argTypes := #[22, 22] }) (hty : o.type = 22) (base g l cap : Nat) (pre : List Int) (hs : a.eval s = .slice (some ⟨g, 0, none⟩) l cap) (hx : a.eval x = .slice (some ⟨w0.heap.size, 0, none⟩) 1 1)
    (hown : w0.ownsRow base 5 1 (.slice (some ⟨g, 0, none⟩) l cap) l (vals pre)) (hpre : ∀ y ∈ pre, 0 ≤ y ∧ y < 256) (d : Int) (hb : base ≤ w0.heap.size) (hl : l ≤ 100) (hd : 0 ≤ d ∧ d < 256)
    (h : ∀ g' cap' W' pre', Hid (W'.ownsRow base 5 1 (.slice (some ⟨g', 0, none⟩) (l + 1) cap') (l + 1) (vals pre') ∧ (∀ y ∈ pre', 0 ≤ y ∧ y < 256) ∧ Below base w0 W') → wpList Ybad.prog ops Q rest (a.put o.dst (.slice (some ⟨g', 0, none⟩) (l + 1) cap')) W') : wpList Ybad.prog ops Q (o :: rest) a (w0.alloc (.cells #[.int .u8 d] 5)) := by
  have hb1 : Below base w0 (w0.alloc (.cells #[.int .u8 d] 5)) := (Below.refl _ w0).alloc hb _
  obtain ⟨g1, c1, W1, hap, ho1, hB1, -⟩ := app_any (w0.alloc (.cells #[.int .u8 d] 5)) base g l cap pre (hown.alloc _) (some ⟨w0.heap.size, 0, none⟩) 1 1 [d] rfl (fun _ => ⟨_, 0, rfl, fun i hi => by
    obtain rfl : i = 0 := by omega
    exact World.cell?_alloc_new w0 _ _ _⟩) (Nat.le_trans hb hb1.size) (by omega)
  exact wpList_app hgd s x 22 22 ho hty hs hx hap (h g1 c1 W1 _ ⟨ho1, fun y hy => by
    rcases List.mem_append.1 hy with hy | hy
    · exact hpre y hy
    · rw [List.mem_singleton] at hy
      rw [hy]
      exact hd, hb1.trans hB1⟩)

theorem pu_step {l : List Int} {k : Nat} {c a : Int} {ok : Bool} (hk : l[k]? = some c) (h : puGo (l.take k) 0 = if ok then some a else none) :
    puGo (l.take (k + 1)) 0 = if (ok && hexB c) then some (a * 16 + hexV c) else none := by
  obtain ⟨hlt, rfl⟩ := List.getElem?_eq_some_iff.1 hk
  rw [List.take_succ_eq_append_getElem hlt, puGo_append, h]
  cases ok with
  | false => rfl
  | true =>
    show puGo [l[k]] a = _
    simp only [puGo, Bool.true_and]

theorem mod4 (m : Int) : m % 4 = 0 ∨ m % 4 = 1 ∨ m % 4 = 2 ∨ m % 4 = 3 := by omega

set_option maxHeartbeats 16000000 in
set_option maxRecDepth 100000 in
theorem law_any (p : Option Addr) (n c : Nat) (xs : List Int) (m : Int) (w : World) (hx : xs.length = n) (hr : ∀ x ∈ xs, 0 ≤ x ∧ x < 256) (hnc : n ≤ c) (hbig : c ≤ 9223372036854775807) (h : Lib.BytesIn w p n xs)
    (hm0 : 0 ≤ m) (ev : Value) (hv : w.cell? ⟨0, 0, none⟩ = some ev) (hev : ev = .nilIface ∨ ∃ te pe, ev = .iface te pe) :
    Calls Ybad.prog 3 #[.slice p n c, .int .u8 m] w fun e w' => e = .returned (.bool true) ∧ Below w.heap.size w w' := by
  have HV : Hid (w.cell? ⟨0, 0, none⟩ = some ev) := hv
  have HE : Hid (ev = .nilIface ∨ ∃ te pe, ev = .iface te pe) := hev
  have HX : Hid (xs.length = n) := hx
  have HR : Hid (∀ x ∈ xs, 0 ≤ x ∧ x < 256) := hr
  have HI : Hid (Lib.BytesIn w p n xs) := h
  clear hv hev hx hr h
  rcases Nat.lt_or_ge 1048576 n with hn | hn
  · go_enter Ybad.func3, Ybad.ntmps3
    go_wp2_with fail
    go_ret
    exact ⟨rfl, Below.refl _ _⟩
  · have hmm := mod4 m
    have hm4 : m.tmod 4 = m % 4 := Int.tmod_eq_emod_of_nonneg hm0
    go_enter Ybad.func3, Ybad.ntmps3
    go_upto_block 0 with (fail)
    go_cut [5, 6, 7] from 22 to 58 (fun sv _ _ wx => InAt w sv wx)
    case first =>
      rcases hmm with hq | hq | hq | hq <;> rw [hq] <;> clear hq hm4
      · go_wp2_with fail
        go_meet
        case rel => exact ⟨p, n, c, xs, rfl, HX.out, HR.out, hnc, hbig, by omega, HI.out, Below.refl _ _⟩
      · have hb1 : Below w.heap.size w (w.alloc (.cells #[.int .u8 92, .int .u8 117] 5)) := (Below.refl _ w).alloc (Nat.le_refl _) _
        obtain ⟨g1, c1, W1, hap, ho1, hB1, -⟩ := app_any (w.alloc (.cells #[.int .u8 92, .int .u8 117] 5)) w.heap.size w.heap.size 2 2 [92, 117] (World.ownsRow_lit w #[.int .u8 92, .int .u8 117] 2 (Nat.le_refl _) (by unfold maxLen; omega) rfl) p n c xs HX.out (bytes_below HI.out hb1) (by simp) (by omega)
        have HO : Hid (InAt w (.slice (some ⟨g1, 0, .none⟩) (2 + n) c1) W1) := InAt.own ho1 (fun y hy => by
          rcases List.mem_append.1 hy with hy | hy
          · simp at hy
            omega
          · exact HR.out y hy) (by omega) (hb1.trans hB1)
        have HA : Hid _ := hap
        clear ho1 hb1 hB1 hap
        go_wp2_with (at_builtin; refine wpList_app rfl (.tmp 31) (.tmp 32) 22 22 rfl rfl rfl rfl HA.out ?_)
        go_meet
        case rel => exact HO.out
      · have hb1 : Below w.heap.size w (w.alloc (.cells #[.int .u8 92, .int .u8 117] 5)) := (Below.refl _ w).alloc (Nat.le_refl _) _
        have HO : Hid ((w.alloc (.cells #[.int .u8 92, .int .u8 117] 5)).ownsRow w.heap.size 5 1 (.slice (some ⟨w.heap.size, 0, .none⟩) (2 + 0) 2) (2 + 0) (vals [92, 117]) ∧ (∀ y ∈ ([92, 117] : List Int), 0 ≤ y ∧ y < 256) ∧ Below w.heap.size w (w.alloc (.cells #[.int .u8 92, .int .u8 117] 5))) :=
          ⟨World.ownsRow_lit w #[.int .u8 92, .int .u8 117] 2 (Nat.le_refl _) (by unfold maxLen; omega) rfl, by decide, hb1⟩
        clear hb1
        go_wp2_with fail
        go_loopw [5, 6, 7] (fun sv i _ wr => ∃ k : Nat, k ≤ 4 ∧ i = .int .i64 k ∧ ∃ g cap pre, sv = .slice (some ⟨g, 0, .none⟩) (2 + k) cap ∧ Hid (wr.ownsRow w.heap.size 5 1 (.slice (some ⟨g, 0, .none⟩) (2 + k) cap) (2 + k) (vals pre) ∧ (∀ y ∈ pre, 0 ≤ y ∧ y < 256) ∧ Below w.heap.size w wr)) (fun _ i _ _ => 4 - (intOf i).toNat)
        case atStart => exact ⟨0, by omega, rfl, _, _, _, rfl, HO⟩
        case round =>
          obtain ⟨k, hk4, rfl, g, cap, pre, rfl, HK⟩ := hrel
          by_cases hk : k < 4
          · by_cases hkn : k < n
            · obtain ⟨b, o, rfl, hc⟩ := (bytes_below HI.out HK.out.2.2).at (by omega)
              have hck := hc k hkn
              have hcr : 0 ≤ xs.getD k 0 ∧ xs.getD k 0 < 256 := by
                have hl : k < xs.length := by have := HX.out; omega
                rw [List.getD_eq_getElem?_getD, List.getElem?_eq_getElem hl]
                exact HR.out _ (List.getElem_mem hl)
              generalize xs.getD k 0 = ck at hck hcr
              obtain ⟨hcr0, hcr1⟩ := hcr
              clear hc
              go_wp2_with (at_builtin; refine wpList_app1 rfl (.tmp 49) (.tmp 54) rfl rfl w.heap.size g (2 + k) cap pre rfl rfl HK.out.1 HK.out.2.1 _ HK.out.2.2.size (by omega) (by first | exact ⟨Int.natCast_nonneg _, Int.ofNat_lt.2 (UInt8.toNat_lt _)⟩ | decide) ?_)
              intro g1 cap1 W1 pre1 HW1
              go_wp2_with fail
              go_roundw
              case measure => simp [intOf]; omega
              case rel => exact ⟨k + 1, by omega, by go_num, g1, cap1, pre1, rfl, ⟨HW1.out.1, HW1.out.2.1, HK.out.2.2.trans HW1.out.2.2⟩⟩
            · have hkz : n ≤ k := by omega
              go_wp2_with (at_builtin; refine wpList_app1 rfl (.tmp 49) (.tmp 54) rfl rfl w.heap.size g (2 + k) cap pre rfl rfl HK.out.1 HK.out.2.1 _ HK.out.2.2.size (by omega) (by first | exact ⟨Int.natCast_nonneg _, Int.ofNat_lt.2 (UInt8.toNat_lt _)⟩ | decide) ?_)
              intro g1 cap1 W1 pre1 HW1
              go_wp2_with fail
              go_roundw
              case measure => simp [intOf]; omega
              case rel => exact ⟨k + 1, by omega, by go_num, g1, cap1, pre1, rfl, ⟨HW1.out.1, HW1.out.2.1, HK.out.2.2.trans HW1.out.2.2⟩⟩
          · obtain rfl : k = 4 := by omega
            obtain ⟨g1, c1, W1, hap, ho1, hB1, -⟩ := app_any wr w.heap.size g (2 + 4) cap pre HK.out.1 p n c xs HX.out (bytes_below HI.out HK.out.2.2) HK.out.2.2.size (by omega)
            have HO1 : Hid (InAt w (.slice (some ⟨g1, 0, .none⟩) (2 + 4 + n) c1) W1) := InAt.own ho1 (fun y hy => by
              rcases List.mem_append.1 hy with hy | hy
              · exact HK.out.2.1 y hy
              · exact HR.out y hy) (by omega) (HK.out.2.2.trans hB1)
            have HA : Hid _ := hap
            clear ho1 hB1 hap
            go_wp2_with (at_builtin; refine wpList_app rfl (.tmp 56) (.tmp 57) 22 22 rfl rfl rfl rfl HA.out ?_)
            go_meet
            case rel => exact HO1.out
      · have hb1 : Below w.heap.size w (w.alloc (.cells #[.int .u8 92] 5)) := (Below.refl _ w).alloc (Nat.le_refl _) _
        obtain ⟨g1, c1, W1, hap, ho1, hB1, -⟩ := app_any (w.alloc (.cells #[.int .u8 92] 5)) w.heap.size w.heap.size 1 1 [92] (World.ownsRow_lit w #[.int .u8 92] 1 (Nat.le_refl _) (by unfold maxLen; omega) rfl) p n c xs HX.out (bytes_below HI.out hb1) (by simp) (by omega)
        have HO : Hid (InAt w (.slice (some ⟨g1, 0, .none⟩) (1 + n) c1) W1) := InAt.own ho1 (fun y hy => by
          rcases List.mem_append.1 hy with hy | hy
          · simp at hy
            omega
          · exact HR.out y hy) (by omega) (hb1.trans hB1)
        have HA : Hid _ := hap
        clear ho1 hb1 hB1 hap
        go_wp2_with (at_builtin; refine wpList_app rfl (.tmp 23) (.tmp 24) 22 22 rfl rfl rfl rfl HA.out ?_)
        go_meet
        case rel => exact HO.out
    case rest =>
      clear hmm hm4
      obtain ⟨q, N, C, ys, rfl, hy, hyr, hNC, hC, hN, hyb, hwc⟩ := hcut
      have hmk := mk_any wc N (by omega)
      obtain ⟨W2, hcp, hb2, hB2, hs2⟩ := cp_any wc q N C ys hy (by omega) hyb
      have hw2 : Below w.heap.size w W2 := hwc.trans (hB2.mono hwc.size)
      have hsz : 0 < w.heap.size := World.block_lt_of_cell? _ _ HV.out
      have hq2 := bytes_below hyb hB2
      have hesc := esc_any q N C ys W2 hy hyr hNC hC hq2 ev (by rw [hw2.cell hsz]; exact HV.out) HE.out
      have HES : Hid (Calls Ybad.prog 4 #[.slice q N C] W2 fun e w' => e = .returned (.tuple #[.int .i32 (escR ys), .int .i64 (escN ys)]) ∧ Below W2.heap.size W2 w') := hesc
      have HC : Hid _ := hcp
      have HM : Hid _ := hmk
      have HB2 : Hid (Lib.BytesIn W2 (some ⟨wc.heap.size, 0, .none⟩) N ys) := hb2
      have HQ2 : Hid (Lib.BytesIn W2 q N ys) := hq2
      have HW2 : Hid (Below w.heap.size w W2) := hw2
      have HY : Hid (ys.length = N) := hy
      have HYR : Hid (∀ y ∈ ys, 0 ≤ y ∧ y < 256) := hyr
      clear hesc hcp hb2 hq2 hw2 hy hyr hwc hB2 hs2 hyb hsz
      go_upto_region 21 with (fail)
      go_wp2_with (refine wpList_cpy rfl (.tmp 62) (.tmp 63) 22 3 rfl rfl rfl rfl HC.out ?_)
      go_at_call 4
      refine Calls.mono HES.out ?_
      rintro e W3 ⟨rfl, hb3⟩
      have HB3 : Hid (Lib.BytesIn W3 (some ⟨wc.heap.size, 0, .none⟩) N ys) := bytes_below HB2.out hb3
      have HQ3 : Hid (Lib.BytesIn W3 q N ys) := bytes_below HQ2.out hb3
      have HW3 : Hid (Below w.heap.size w W3) := HW2.out.trans (hb3.mono HW2.out.size)
      have HEQ : Hid (Calls Ybad.prog 6 #[.slice q N C, .slice (some ⟨wc.heap.size, 0, .none⟩) N N] W3 fun e w' => e = .returned (.bool true) ∧ w' = W3) := equal_any q (some ⟨wc.heap.size, 0, .none⟩) N C N N ys W3 HY.out HY.out HQ3.out HB3.out
      clear hb3 HB2 HQ2 HW2 HES HC HM HQ3
      rcases Nat.lt_or_ge N 2 with hn2 | hn2
      · have hU : escU ys = false := by unfold escU; rw [decide_eq_false (by have := HY.out; omega)]; rfl
        have e1 : escR ys = -1 := by unfold escR; rw [hU]; rfl
        have e2 : escN ys = 0 := by unfold escN; rw [hU, if_neg (by decide), if_neg (by have := HY.out; omega)]
        rw [e1, e2]
        clear hU e1 e2
        go_wp2_with fail
        go_at_call 6
        refine Calls.mono HEQ.out ?_
        rintro e w4 ⟨rfl, rfl⟩
        go_wp2_with fail
        go_ret
        exact ⟨rfl, HW3.out⟩
      · obtain ⟨b', o', hbo, hc⟩ := HB3.out.at (by omega)
        obtain ⟨rfl, rfl⟩ : wc.heap.size = b' ∧ 0 = o' := by cases hbo; exact ⟨rfl, rfl⟩
        clear hbo
        obtain ⟨c0, hc0⟩ : ∃ c0, c0 = ys.getD 0 0 := ⟨_, rfl⟩
        obtain ⟨c1, hc1⟩ : ∃ c1, c1 = ys.getD 1 0 := ⟨_, rfl⟩
        have k0 := hc 0 (by omega)
        have k1 := hc 1 (by omega)
        rw [← hc0] at k0
        rw [← hc1] at k1
        rw [Nat.add_zero] at k0
        rw [Nat.zero_add] at k1
        by_cases h0 : c0 = 92
        · subst h0
          by_cases h1 : c1 = 117
          · subst h1
            by_cases h6 : 6 ≤ N
            · have hU : escU ys = true := by unfold escU; rw [← hc0, ← hc1, decide_eq_true (by have := HY.out; omega)]; rfl
              have e1 : escR ys = (puGo ((ys.drop 2).take 4) 0).getD 0 := by unfold escR; rw [hU]; rfl
              have e2 : escN ys = 6 := by unfold escN; rw [hU]; rfl
              rw [e1, e2]
              have hget : ∀ k, k < 4 → ∃ x : Int, 0 ≤ x ∧ x ≤ 255 ∧ ((ys.drop 2).take 4)[k]? = some x ∧ W3.cell? ⟨wc.heap.size, 2 + k, .none⟩ = some (.int .u8 x) := by
                intro k hk
                have hl : 2 + k < ys.length := by have := HY.out; omega
                have hk2 := hc (2 + k) (by omega)
                rw [Nat.zero_add, List.getD_eq_getElem?_getD, List.getElem?_eq_getElem hl] at hk2
                have := HYR.out _ (List.getElem_mem hl)
                refine ⟨ys[2 + k], this.1, by omega, ?_, hk2⟩
                rw [List.getElem?_take, if_pos hk, List.getElem?_drop, List.getElem?_eq_getElem hl]
              have hl4 : ((ys.drop 2).take 4).length = 4 := by rw [List.length_take, List.length_drop]; have := HY.out; omega
              generalize (ys.drop 2).take 4 = zs at hget hl4
              have HG : Hid (∀ k, k < 4 → ∃ x : Int, 0 ≤ x ∧ x ≤ 255 ∧ zs[k]? = some x ∧ W3.cell? ⟨wc.heap.size, 2 + k, .none⟩ = some (.int .u8 x)) := hget
              have HL : Hid (zs.length = 4) := hl4
              have hbd := puGo_top zs hl4
              generalize hV : (puGo zs 0).getD 0 = V at hbd
              have HVV : Hid ((puGo zs 0).getD 0 = V) := hV
              obtain ⟨hV0, hV1⟩ := hbd
              clear hU e1 e2 hc hget hl4 hc0 hc1 hV
              go_wp2_with fail
              rw [show decide ((6 : Int) ≤ (N : Int)) = true from decide_eq_true (by omega)]
              go_loop [13, 14, 15, 16, 17] (fun v ok i _ _ => ∃ (k : Nat) (a : Int) (b : Bool), v = .int .u32 a ∧ ok = .bool b ∧ i = .int .i64 (2 + (k : Int)) ∧ k ≤ 4 ∧ 0 ≤ a ∧ Hid (a < 16 ^ k) ∧ Hid (puGo (zs.take k) 0 = if b then some a else Option.none)) (fun _ _ i _ _ => 6 - (intOf i).toNat)
              case atStart => exact ⟨0, 0, true, rfl, rfl, rfl, by omega, by omega, by show (0 : Int) < 1; omega, rfl⟩
              case round =>
                obtain ⟨k, a, b, rfl, rfl, rfl, hk4, ha0, HA1, HP⟩ := hrel
                by_cases hk : k < 4
                · obtain ⟨x, hx0, hx1, hxz, hxc⟩ := HG.out k hk
                  have hp := pow_bd k (by omega)
                  have ha1 : a < 4096 := by have := HA1.out; omega
                  have hv := hexV_bd x
                  have HP2 : Hid _ := pu_step hxz HP.out
                  have HA2 : Hid (a * 16 + hexV x < 16 ^ (k + 1)) := by
                    have := HA1.out
                    show a * 16 + hexV x < 16 ^ (k + 1)
                    rw [Int.pow_succ]
                    omega
                  have HX5 : Hid (Calls Ybad.prog 5 #[.int .u8 x] W3 fun e w' => e = .returned (.tuple #[.int .u32 (hexV x), .bool (hexB x)]) ∧ w' = W3) := hex_any x hx0 hx1 W3
                  generalize hexV x = d at HP2 HA2 HX5 hv
                  generalize hexB x = g at HP2 HX5
                  obtain ⟨hd0, hd1⟩ := hv
                  clear hp hxz HP
                  go_wp2_with fail
                  go_at_call 5
                  refine Calls.mono HX5.out ?_
                  rintro e w4 ⟨rfl, rfl⟩
                  clear HX5
                  cases g with
                  | true =>
                    rw [Bool.and_true] at HP2
                    go_wp2_with fail
                    go_round
                    case rel => exact ⟨k + 1, a * 16 + d, b, rfl, rfl, by go_num, by omega, by omega, HA2, HP2⟩
                    case measure => simp [intOf]; omega
                  | false =>
                    rw [Bool.and_false] at HP2
                    go_wp2_with fail
                    go_round
                    case rel => exact ⟨k + 1, a * 16 + d, false, rfl, rfl, by go_num, by omega, by omega, HA2, HP2⟩
                    case measure => simp [intOf]; omega
                · obtain rfl : k = 4 := by omega
                  have hz : puGo zs 0 = if b then some a else Option.none := by
                    have := HP.out
                    rwa [List.take_of_length_le (by have := HL.out; omega)] at this
                  have hVa : V = if b then a else 0 := by
                    rw [← HVV.out, hz]
                    cases b <;> rfl
                  clear hz HVV HP
                  cases b with
                  | true =>
                    rw [if_pos rfl] at hVa
                    subst hVa
                    go_wp2_with fail
                    go_at_call 6
                    refine Calls.mono HEQ.out ?_
                    rintro e w4 ⟨rfl, rfl⟩
                    go_wp2_with fail
                    go_ret
                    exact ⟨rfl, HW3.out⟩
                  | false =>
                    rw [if_neg (by decide)] at hVa
                    subst hVa
                    go_wp2_with fail
                    go_at_call 6
                    refine Calls.mono HEQ.out ?_
                    rintro e w4 ⟨rfl, rfl⟩
                    go_wp2_with fail
                    go_ret
                    exact ⟨rfl, HW3.out⟩
            · have hU : escU ys = false := by unfold escU; rw [decide_eq_false (by have := HY.out; omega)]; rfl
              have e1 : escR ys = -1 := by unfold escR; rw [hU]; rfl
              have e2 : escN ys = 2 := by unfold escN; rw [hU, if_neg (by decide), if_pos ⟨by have := HY.out; omega, hc0.symm⟩]
              rw [e1, e2]
              clear hU e1 e2 hc hc0 hc1
              go_wp2_with fail
              go_at_call 6
              refine Calls.mono HEQ.out ?_
              rintro e w4 ⟨rfl, rfl⟩
              go_wp2_with fail
              go_ret
              exact ⟨rfl, HW3.out⟩
          · have hU : escU ys = false := by unfold escU; rw [← hc1, decide_eq_false h1, Bool.and_false]
            have e1 : escR ys = -1 := by unfold escR; rw [hU]; rfl
            have e2 : escN ys = 2 := by unfold escN; rw [hU, if_neg (by decide), if_pos ⟨by have := HY.out; omega, hc0.symm⟩]
            rw [e1, e2]
            clear hU e1 e2 hc hc0 hc1
            go_wp2_with fail
            go_at_call 6
            refine Calls.mono HEQ.out ?_
            rintro e w4 ⟨rfl, rfl⟩
            go_wp2_with fail
            go_ret
            exact ⟨rfl, HW3.out⟩
        · have hU : escU ys = false := by unfold escU; rw [← hc0, decide_eq_false h0, Bool.and_false]; rfl
          have e1 : escR ys = -1 := by unfold escR; rw [hU]; rfl
          have e2 : escN ys = 0 := by unfold escN; rw [hU, if_neg (by decide), if_neg (fun hh => h0 (hc0.trans hh.2))]
          rw [e1, e2]
          clear hU e1 e2 hc hc0 hc1
          go_wp2_with fail
          go_at_call 6
          refine Calls.mono HEQ.out ?_
          rintro e w4 ⟨rfl, rfl⟩
          go_wp2_with fail
          go_ret
          exact ⟨rfl, HW3.out⟩
end Go.Proofs.YbulkdvkwDoor
