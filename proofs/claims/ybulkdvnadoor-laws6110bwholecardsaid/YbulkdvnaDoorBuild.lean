import Derived.Test.YbulkdvnaDoorMap
import Derived.Deep.AppendLies
import Derived.Deep.Upon
import Derived.Lib.AppendStr
namespace Go.Proofs.YbulkdvnaDoor
open Go Go.RowKit

/-- append, by the equation of the call -/
theorem wpList_app {P : Program} {w : World} {ops : Array Oper} {rest : List Oper} {o : Oper} {a : Act} {Q : Exit → Act → World → Prop} (hgd : o.guard = none) (s x : Operand) (t u ty : TypeId)
    (ho : o.op = .call { callee := .builtin .append, args := #[s, x], argTypes := #[t, u] }) (hty : o.type = ty) {v vx v' : Value} {w' : World} (hs : a.eval s = v) (hx : a.eval x = vx)
    (hr : (Builtin.append_ #[t, u] ty #[v, vx]).run P w = .ok v' w') (h : wpList P ops Q rest (a.put o.dst v') w') : wpList P ops Q (o :: rest) a w :=
  wpList_plain hgd fun _ hK => by
    unfold Oper.wp execOp
    simp only [ho, hty, resolve, invoke, builtin, Sem.run_bind, Sem.run_pure, Result.andThen_ok, List.map_toArray, List.map_cons, List.map_nil, hs, hx, hr]
    exact hK _ _ h

def bytesV (l : List UInt8) : List Value := l.map fun b => Value.int .u8 b.toNat
theorem bytesV_len (l : List UInt8) : (bytesV l).length = l.length := List.length_map ..
/-- a []byte of the call's own -/
def Own (w : World) (base : Nat) (v : Value) (l : List UInt8) : Prop := w.ownsRow base 5 1 v l.length (bytesV l)
theorem Own.nil (w : World) (base : Nat) : Own w base (.slice none 0 0) [] := World.ownsRow_nil _ _ _ _
theorem Own.below {W W' : World} {base : Nat} {v : Value} {l : List UInt8} (h : Own W base v l) (hb : Below W.heap.size W W') : Own W' base v l := by
  refine ⟨h.1, ?_⟩
  rcases h.2 with h1 | ⟨g', cap', cur, h1, h2, h3, h4⟩
  · exact .inl h1
  · refine .inr ⟨g', cap', cur, h1, h2, ?_, h4⟩
    rw [hb.block g' ?_]
    · exact h3
    · rcases Nat.lt_or_ge g' W.heap.size with h' | h'
      · exact h'
      · rw [Array.getElem?_eq_none h'] at h3; cases h3
theorem Own.shape {W : World} {base : Nat} {v : Value} {l : List UInt8} (h : Own W base v l) : ∃ p c, v = .slice p l.length c := by
  rcases h.2 with ⟨h1, h2⟩ | ⟨g', cap', cur, h1, _⟩
  · exact ⟨none, 0, by rw [h1, h2]⟩
  · exact ⟨_, _, h1⟩
theorem nums_mk (l : List UInt8) : nums ⟨l.toArray⟩ = l.map fun b => (b.toNat : Int) := by unfold nums; simp
theorem Own.conv {W : World} {base : Nat} {v : Value} {l : List UInt8} (h : Own W base v l) : (convert 39 9 v).run Ybad.prog W = .ok (.string ⟨l.toArray⟩) W := by
  have hl := h.1
  have key : ∀ p c, Lib.BytesIn W p l.length (nums ⟨l.toArray⟩) → (convert 39 9 (.slice p l.length c)).run Ybad.prog W = .ok (.string ⟨l.toArray⟩) W := fun p c hB => by
    have := hB.convert (P := Ybad.prog) (by rw [nums_len]; simp [ByteArray.size]) c 39 5 9 Ybad.underlying39 Ybad.underlying5 Ybad.underlying9
    rwa [str_nums] at this
  rcases h.2 with ⟨h1, h2⟩ | ⟨g', cap', cur, h1, h2, h3, h4, h5, h6, h7⟩
  · rw [h1]
    have := key none 0 (by rw [h2]; exact Lib.BytesIn.nil _ _ _)
    rwa [h2] at this
  · rw [h1]
    refine key _ _ fun _ => ⟨g', 0, rfl, fun i hi => ?_⟩
    have hown : W.ownsRow base 5 1 (.slice (some ⟨g', 0, none⟩) l.length cap') l.length (bytesV l) := by rw [← h1]; exact h
    rw [Nat.zero_add, hown.cellAt i (by omega), nums_mk]
    unfold bytesV
    rw [List.getElem?_map, List.getD_eq_getElem?_getD, List.getElem?_map, List.getElem?_eq_getElem hi]
    rfl

theorem app_str (W : World) (base : Nat) (v : Value) (l : List UInt8) (h : Own W base v l) (s : ByteArray) (hb : base ≤ W.heap.size) (hl : l.length + s.size ≤ 100000000) :
    ∃ v' W', (Builtin.append_ #[39, 9] 39 #[v, .string s]).run Ybad.prog W = .ok v' W' ∧ Own W' base v' (l ++ s.data.toList) ∧ Below base W W' := by
  obtain ⟨i, hi, hz, hs, hby⟩ := i5'
  obtain ⟨v', W', hr, ho, hg, _⟩ := Lib.run_append_own_string (P := Ybad.prog) W base 39 9 39 5 i Ybad.underlying39 Ybad.underlying9 hi hz hs hby v l.length (bytesV l) h s (by unfold maxLen; omega) (by omega) hb
  refine ⟨v', W', hr, ?_, (Below.refl base W).grown hg hb (fun k hk => (World.ownsRow.lt h k hk).1)⟩
  unfold Own
  rw [List.length_append, show s.data.toList.length = s.size by rw [Array.length_toList]; rfl]
  have e : bytesV (l ++ s.data.toList) = bytesV l ++ Lib.strCells s := by unfold bytesV Lib.strCells; rw [List.map_append]
  rw [e]
  exact ho
theorem app_byte (W : World) (base : Nat) (v : Value) (l : List UInt8) (h : Own W base v l) (c : UInt8) (hb : base ≤ W.heap.size) (hl : l.length ≤ 100000000) :
    ∃ v' W', (Builtin.append_ #[39, 39] 39 #[v, .slice (some ⟨W.heap.size, 0, none⟩) 1 1]).run Ybad.prog (W.alloc (.cells #[.int .u8 c.toNat] 5)) = .ok v' W' ∧ Own W' base v' (l ++ [c]) ∧ Below base W W' := by
  obtain ⟨i, hi, hz, hs, hby⟩ := i5'
  have hba : Below W.heap.size W (W.alloc (.cells #[.int .u8 c.toNat] 5)) := (Below.refl _ W).alloc (Nat.le_refl _) _
  have ha := h.below hba
  obtain ⟨g', cap', W', hr, ho, hg, -, -⟩ := run_append_lies (P := Ybad.prog) (W.alloc (.cells #[.int .u8 c.toNat] 5)) 39 39 base 5 i (.int .u8 0) 1 1 Ybad.underlying39 hi hz hs hby rfl (by decide) v l.length (bytesV l) ha ⟨W.heap.size, 0, none⟩ 1 1 (bytesV [c]) rfl (fun j u hj => by
      have hj0 : j = 0 := by
        have := (List.getElem?_eq_some_iff.1 hj).1
        simp [bytesV] at this
        exact this
      subst hj0
      have e : u = .int .u8 c.toNat := by simpa [bytesV] using hj.symm
      rw [e]
      exact (cell_of_row _ _ _ _ 5 (0, 0) (heap_alloc_new W _)).trans rfl) (fun u hu => by
      obtain ⟨_, _, rfl⟩ := List.mem_map.1 hu
      rfl) (by decide) (by unfold maxLen; omega) (by omega) (Nat.le_trans hb hba.size) _ rfl
  refine ⟨_, W', hr, ?_, (hba.mono hb).trans ((Below.refl base _).grown hg (Nat.le_trans hb hba.size) (fun k hk => (World.ownsRow.lt ha k hk).1))⟩
  unfold Own
  rw [List.length_append, List.length_singleton]
  have e : bytesV (l ++ [c]) = bytesV l ++ bytesV [c] := by unfold bytesV; rw [List.map_append]
  rw [e]
  exact ho

/-- a []string -/
def StrsIn (w : World) (p : Option Addr) (ss : List ByteArray) : Prop := 0 < ss.length → ∃ b o, p = some ⟨b, o, none⟩ ∧ ∀ j (h : j < ss.length), w.cell? ⟨b, o + j, none⟩ = some (.string ss[j])
theorem StrsIn.below {w w' : World} {p : Option Addr} {l : List ByteArray} (h : StrsIn w p l) (hb : Below w.heap.size w w') : StrsIn w' p l := fun hn => by
  obtain ⟨b, o, rfl, hc⟩ := h hn
  exact ⟨b, o, rfl, fun j hj => by rw [hb.cell (World.block_lt_of_cell? _ _ (hc j hj))]; exact hc j hj⟩
def sumS (l : List ByteArray) : Nat := (l.map ByteArray.size).sum
theorem sumS_take (l : List ByteArray) (k : Nat) (h : k < l.length) : sumS (l.take (k + 1)) = sumS (l.take k) + l[k].size := by
  unfold sumS
  rw [List.take_succ_eq_append_getElem h, List.map_append, List.sum_append]
  simp
theorem sumS_le (l : List ByteArray) : ∀ k, k ≤ l.length → sumS (l.take k) ≤ sumS l := fun k hk => by
  have : sumS l = sumS (l.take k) + sumS (l.drop k) := by
    unfold sumS
    rw [← List.sum_append, ← List.map_append, List.take_append_drop]
  omega
/-- the signs that zzs6110bmap makes -/
def Ok0 (l : List UInt8) : Prop := ∀ c ∈ l, c = 97 ∨ c = 98 ∨ c = 48 ∨ c = 45
/-- those, and slashes -/
def Ok (l : List UInt8) : Prop := ∀ c ∈ l, c = 97 ∨ c = 98 ∨ c = 48 ∨ c = 45 ∨ c = 47
theorem Ok.app {a b : List UInt8} (h : Ok a) (k : Ok b) : Ok (a ++ b) := fun c hc => by
  rcases List.mem_append.1 hc with h1 | h1
  · exact h c h1
  · exact k c h1
theorem Ok0.ok {a : List UInt8} (h : Ok0 a) : Ok a := fun c hc => by
  rcases h c hc with h | h | h | h
  · exact .inl h
  · exact .inr (.inl h)
  · exact .inr (.inr (.inl h))
  · exact .inr (.inr (.inr (.inl h)))
theorem Ok.slash : Ok [47] := fun c hc => by
  rw [List.mem_singleton.1 hc]
  exact .inr (.inr (.inr (.inr rfl)))
theorem Ok.nil : Ok [] := fun _ h => by cases h
theorem sign_ok (b : UInt8) : sign b = 97 ∨ sign b = 98 ∨ sign b = 48 ∨ sign b = 45 := by
  unfold sign
  have h4 : b.toNat % 4 < 4 := Nat.mod_lt _ (by decide)
  generalize b.toNat % 4 = m at *
  have : m = 0 ∨ m = 1 ∨ m = 2 ∨ m = 3 := by omega
  rcases this with rfl | rfl | rfl | rfl
  · exact .inl rfl
  · exact .inr (.inl rfl)
  · exact .inr (.inr (.inl rfl))
  · exact .inr (.inr (.inr rfl))
theorem mapB_ok (s : ByteArray) : Ok0 (mapB s).data.toList := fun c hc => by
  unfold mapB at hc
  simp only [List.mem_map] at hc
  obtain ⟨b, _, rfl⟩ := hc
  exact sign_ok b

set_option maxHeartbeats 2000000 in
set_option maxRecDepth 100000 in
theorem build_any (lead trail : Bool) (p : Option Addr) (c : Nat) (ss : List ByteArray) (w : World) (h : StrsIn w p ss) (hn : ss.length ≤ 65536) (hsum : sumS ss ≤ 65536) :
    Calls Ybad.prog 4 #[.bool lead, .slice p ss.length c, .bool trail] w fun e w' => ∃ l, e = .returned (.string ⟨l.toArray⟩) ∧ Ok l ∧ l.length ≤ 140000 ∧ Below w.heap.size w w' := by
  have HS : Hid (StrsIn w p ss) := h
  clear h
  have HSum : Hid (∀ k, k ≤ ss.length → sumS (ss.take k) ≤ 65536) := fun k hk => Nat.le_trans (sumS_le ss k hk) hsum
  clear hsum
  go_enter Ybad.func4, Ybad.ntmps4
  go_upto_if 9 with (fail)
  go_cut [7] from 10 to 12 (fun v wx => ∃ l, Hid (Own wx w.heap.size v l) ∧ Hid (Ok l) ∧ l.length ≤ 1 ∧ Hid (Below w.heap.size w wx))
  case first =>
    cases lead with
    | false =>
      go_wp2_with fail
      go_meet
      case rel => exact ⟨[], Own.nil _ _, Ok.nil, by simp, Below.refl _ _⟩
    | true =>
      obtain ⟨v1, W1, hap, ho, hb⟩ := app_byte w w.heap.size (.slice none 0 0) [] (Own.nil _ _) 47 (Nat.le_refl _) (by simp)
      have HAP : Hid ((Builtin.append_ #[39, 39] 39 #[.slice none 0 0, .slice (some ⟨w.heap.size, 0, none⟩) 1 1]).run Ybad.prog (w.alloc (.cells #[.int .u8 47] 5)) = .ok v1 W1) := hap
      have HO1 : Hid (Own W1 w.heap.size v1 [47]) := ho
      have HB1 : Hid (Below w.heap.size w W1) := hb
      clear hap ho hb
      go_wp2_with (at_builtin; refine wpList_app rfl (.tmp 10) (.tmp 11) 39 39 39 rfl rfl rfl rfl HAP.out ?_)
      go_meet
      case rel => exact ⟨[47], HO1, Ok.slash, by simp, HB1⟩
  case rest =>
    obtain ⟨l0, HO0, HK0, hl0, HB0⟩ := hcut
    go_wp2_with fail
    go_loopw [7, 8] (fun v i wr => ∃ (k : Nat) (l : List UInt8), k ≤ ss.length ∧ i = .int .i64 (k : Int) ∧ Hid (Own wr w.heap.size v l) ∧ Hid (Ok l) ∧ l.length ≤ 1 + k + sumS (ss.take k) ∧ Hid (Below w.heap.size w wr)) (fun _ i _ => ss.length - (intOf i).toNat)
    case atStart => exact ⟨0, l0, Nat.zero_le _, rfl, HO0, HK0, by omega, HB0⟩
    case round =>
      obtain ⟨k, l, hk, rfl, HO, HK, hl, HB⟩ := hrel
      by_cases hlt : k < ss.length
      · have hs1 := HSum.out (k + 1) (by omega)
        rw [sumS_take ss k hlt] at hs1
        go_upto_if 20 with (fail)
        go_cut [7] from 13 to 23 (fun v wx => ∃ l' : List UInt8, Hid (Own wx w.heap.size v l') ∧ Hid (Ok l') ∧ l'.length ≤ l.length + 1 ∧ Hid (Below w.heap.size w wx))
        case first =>
          rcases Nat.eq_zero_or_pos k with hz | hz
          · subst hz
            go_wp2_with fail
            go_meet
            case rel => exact ⟨l, HO, HK, by omega, HB⟩
          · have hz' : (0 : Int) < (k : Int) := by omega
            obtain ⟨v1, W1, hap, ho, hb⟩ := app_byte wr w.heap.size u7 l HO.out 47 HB.out.size (by omega)
            have HAP : Hid ((Builtin.append_ #[39, 39] 39 #[u7, .slice (some ⟨wr.heap.size, 0, none⟩) 1 1]).run Ybad.prog (wr.alloc (.cells #[.int .u8 47] 5)) = .ok v1 W1) := hap
            have HO1 : Hid (Own W1 w.heap.size v1 (l ++ [47])) := ho
            have HB1 : Hid (Below w.heap.size w W1) := HB.out.trans hb
            clear hap ho hb
            go_wp2_with (at_builtin; refine wpList_app rfl (.tmp 21) (.tmp 22) 39 39 39 rfl rfl rfl rfl HAP.out ?_)
            go_meet
            case rel => exact ⟨l ++ [47], HO1, HK.out.app Ok.slash, by simp, HB1⟩
        case rest =>
          obtain ⟨l', HO', HK', hl', HB'⟩ := hcut
          obtain ⟨b, o, rfl, hc⟩ := HS.out (by omega)
          have hv : wc.cell? ⟨b, o + k, none⟩ = some (.string ss[k]) := (HB'.out.cell (World.block_lt_of_cell? _ _ (hc k hlt))).trans (hc k hlt)
          have HMap : Hid (Calls Ybad.prog 5 #[.string ss[k]] wc fun e w' => e = .returned (.string (mapB ss[k])) ∧ Below wc.heap.size wc w') := map_any ss[k] wc (by omega)
          clear hc
          go_wp2_with fail
          go_at_call 5
          refine Calls.mono HMap.out ?_
          rintro e w2 ⟨rfl, hb2⟩
          obtain ⟨v3, W3, hap, ho, hb⟩ := app_str w2 w.heap.size _ l' (HO'.out.below hb2) (mapB ss[k]) (Nat.le_trans HB'.out.size hb2.size) (by rw [mapB_size]; omega)
          have HAP : Hid (_ = _) := hap
          have HO3 : Hid (Own W3 w.heap.size v3 (l' ++ (mapB ss[k]).data.toList)) := ho
          have HB3 : Hid (Below w.heap.size w W3) := (HB'.out.trans (hb2.mono HB'.out.size)).trans hb
          have HL3 : Hid ((mapB ss[k]).data.toList.length = ss[k].size) := by rw [Array.length_toList]; exact mapB_size _
          clear hap ho hb hb2
          go_wp2_with (at_builtin; refine wpList_app rfl (.tmp 24) (.tmp 29) 39 9 39 rfl rfl rfl rfl HAP.out ?_)
          refine ⟨⟨k + 1, _, by omega, by go_num, HO3, HK'.out.app (mapB_ok _).ok, ?_, HB3⟩, by simp [intOf]; omega⟩
          rw [List.length_append, HL3.out, sumS_take ss k hlt]
          omega
      · obtain rfl : k = ss.length := by omega
        rw [List.take_length] at hl
        have hsl := HSum.out ss.length (Nat.le_refl _)
        rw [List.take_length] at hsl
        cases trail with
        | false =>
          have hcv := HO.out.conv
          go_wp2_with fail
          go_ret
          exact ⟨l, rfl, HK.out, by omega, HB.out⟩
        | true =>
          obtain ⟨v1, W1, hap, ho, hb⟩ := app_byte wr w.heap.size u7 l HO.out 47 HB.out.size (by omega)
          have HAP : Hid ((Builtin.append_ #[39, 39] 39 #[u7, .slice (some ⟨wr.heap.size, 0, none⟩) 1 1]).run Ybad.prog (wr.alloc (.cells #[.int .u8 47] 5)) = .ok v1 W1) := hap
          have hcv := ho.conv
          have HB1 : Hid (Below w.heap.size w W1) := HB.out.trans hb
          clear hap ho hb
          go_wp2_with (at_builtin; refine wpList_app rfl (.tmp 32) (.tmp 33) 39 39 39 rfl rfl rfl rfl HAP.out ?_)
          go_ret
          exact ⟨l ++ [47], rfl, HK.out.app Ok.slash, by rw [List.length_append, List.length_singleton]; omega, HB1.out⟩
end Go.Proofs.YbulkdvnaDoor
