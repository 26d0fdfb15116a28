import Derived.Test.YbulkdvoqFmtRead
import Derived.LaidEql
import Derived.Handy
namespace Go.Proofs.YbulkdvoqFmt
open Go Go.RowKit

/-- an address in a block of its own, unfrozen; another that can be read -/
theorem sameAddr_new {P : Program} (w : World) {a b : Addr} {ca : Array Value} {ta : TypeId} {v : Value} (hne : a.block ≠ b.block) (ha : w.heap[a.block]? = some (.cells ca ta (0, 0))) (hb : w.cell? b = some v) : (sameAddr a b).run P w = .ok false w := by
  obtain ⟨bb, bo, bs⟩ := b
  have hs := World.cell?_spot hb
  simp only at hs
  subst hs
  cases ho : w.heap[bb]? with
  | none => simp [World.cell?, ho] at hb
  | some ob =>
    cases ob with
    | cells cs t fr =>
      have hsz : cs.size ≠ 0 := by
        rintro h0
        have : cs = #[] := Array.eq_empty_of_size_eq_zero h0
        subst this
        rw [cell_of_row w bb bo _ t fr ho] at hb
        simp at hb
      simp at hne
      simp [sameAddr, hne, World.frozen?, ha, ho, noView, viewAt, World.shape?, mayBeOne, stringish, hsz]
    | _ => simp [World.cell?, ho] at hb

theorem info38 : (Ybaf.prog.info? 38).map (·.comparable) = some true := by kernel_rfl
theorem info40 : (Ybaf.prog.info? 40).map (·.size) = some 1 := by kernel_rfl
theorem eql_new (w : World) {a b : Addr} {ca : Array Value} {ta : TypeId} {v : Value} (hne : a.block ≠ b.block) (ha : w.heap[a.block]? = some (.cells ca ta (0, 0))) (hb : w.cell? b = some v) :
    (binOp .eql 27 (.iface 38 (.pointer (some a))) (.iface 38 (.pointer (some b)))).run Ybaf.prog w = .ok (.bool false) w := by
  obtain ⟨i, hi, hc⟩ := Option.map_eq_some_iff.1 info38
  obtain ⟨j, hj, hs⟩ := Option.map_eq_some_iff.1 info40
  have h : ∀ d : Nat, (Op.equalIn (d + 2) 27 (.iface 38 (.pointer (some a))) (.iface 38 (.pointer (some b)))).run Ybaf.prog w = .ok false w := fun d => by
    simp [Op.equalIn, run_underlying Ybaf.underlying27, run_underlying Ybaf.underlying38, typeInfo, hi, hc, sizeOf, hj, hs, sameAddr_new w hne ha hb]
  simp only [binOp]
  simp [Op.equal, Op.maxDepth, h 9998]
theorem neq_new (w : World) {a b : Addr} {ca : Array Value} {ta : TypeId} {v : Value} (hne : a.block ≠ b.block) (ha : w.heap[a.block]? = some (.cells ca ta (0, 0))) (hb : w.cell? b = some v) :
    (binOp .neq 27 (.iface 38 (.pointer (some a))) (.iface 38 (.pointer (some b)))).run Ybaf.prog w = .ok (.bool true) w := by
  obtain ⟨i, hi, hc⟩ := Option.map_eq_some_iff.1 info38
  obtain ⟨j, hj, hs⟩ := Option.map_eq_some_iff.1 info40
  have h : ∀ d : Nat, (Op.equalIn (d + 2) 27 (.iface 38 (.pointer (some a))) (.iface 38 (.pointer (some b)))).run Ybaf.prog w = .ok false w := fun d => by
    simp [Op.equalIn, run_underlying Ybaf.underlying27, run_underlying Ybaf.underlying38, typeInfo, hi, hc, sizeOf, hj, hs, sameAddr_new w hne ha hb]
  simp only [binOp]
  simp [Op.equal, Op.maxDepth, h 9998]
theorem eql_same (w : World) (a : Addr) : (binOp .eql 27 (.iface 38 (.pointer (some a))) (.iface 38 (.pointer (some a)))).run Ybaf.prog w = .ok (.bool true) w := by
  obtain ⟨i, hi, hc⟩ := Option.map_eq_some_iff.1 info38
  obtain ⟨j, hj, hs⟩ := Option.map_eq_some_iff.1 info40
  exact run_eql_iface_ptr_same w a Ybaf.underlying27 Ybaf.underlying38 hi hc hj

/-- the three errors: the law's own (block bo), io.EOF, io.ErrUnexpectedEOF -/
structure Errs (w : World) (bo : Nat) (ae au : Addr) : Prop where
  own : ∃ co, w.heap[bo]? = some (.cells co 40 (0, 0))
  g0 : w.cell? ⟨0, 0, none⟩ = some (.iface 38 (.pointer (some ae)))
  g1 : w.cell? ⟨1, 0, none⟩ = some (.iface 38 (.pointer (some au)))
  e0 : ∃ v, w.cell? ae = some v
  e1 : ∃ v, w.cell? au = some v
  n0 : bo ≠ ae.block
  n1 : bo ≠ au.block
theorem Errs.block {w w' : World} {bo : Nat} {ae au : Addr} (h : Errs w bo ae au) (h0 : w'.heap[bo]? = w.heap[bo]?) (h1 : w'.heap[0]? = w.heap[0]?) (h2 : w'.heap[1]? = w.heap[1]?) (h3 : w'.heap[ae.block]? = w.heap[ae.block]?) (h4 : w'.heap[au.block]? = w.heap[au.block]?) : Errs w' bo ae au where
  own := by obtain ⟨co, hc⟩ := h.own; exact ⟨co, by rw [h0]; exact hc⟩
  g0 := (World.cell?_of_block (a := ⟨0, 0, none⟩) h1).trans h.g0
  g1 := (World.cell?_of_block (a := ⟨1, 0, none⟩) h2).trans h.g1
  e0 := by obtain ⟨v, hv⟩ := h.e0; exact ⟨v, (World.cell?_of_block h3).trans hv⟩
  e1 := by obtain ⟨v, hv⟩ := h.e1; exact ⟨v, (World.cell?_of_block h4).trans hv⟩
  n0 := h.n0
  n1 := h.n1
/-- a block that none of them lies in -/
def Off (b bo : Nat) (ae au : Addr) : Prop := bo ≠ b ∧ 0 ≠ b ∧ 1 ≠ b ∧ ae.block ≠ b ∧ au.block ≠ b
theorem Errs.still {w w' : World} {br bb bo : Nat} {ae au : Addr} (h : Errs w bo ae au) (hs : Still br bb w w') (h1 : Off br bo ae au) (h2 : Off bb bo ae au) : Errs w' bo ae au :=
  h.block (hs.block _ h1.1 h2.1) (hs.block _ h1.2.1 h2.2.1) (hs.block _ h1.2.2.1 h2.2.2.1) (hs.block _ h1.2.2.2.1 h2.2.2.2.1) (hs.block _ h1.2.2.2.2 h2.2.2.2.2)

/-- the error that ReadAtLeast hands back where the stream is too short -/
def shortv (m : Int) (bo : Nat) (ae au : Addr) (n : Nat) : Value := .iface 38 (.pointer (some (if m % 2 = 1 then ⟨bo, 0, none⟩ else if n = 0 then ae else au)))

/-- what ReadAtLeast, ReadFull leave -/
def FullPost (w : World) (br bb bs cs : Nat) (S : List Int) (pc : Option Addr) (nc cc : Nat) (C : List Int) (m : Int) (bo : Nat) (ae au : Addr) (e : Ending) (w' : World) : Prop :=
  ∃ (n : Nat) (er : Value), e = .returned (.tuple #[.int .i64 (n : Int), er]) ∧ Rd w' br bb bs cs S pc nc cc C m (.iface 38 (.pointer (some ⟨bo, 0, none⟩))) (.iface 38 (.pointer (some ae))) n ∧ Still br bb w w' ∧
    ((n = 23 ∧ er = .nilIface) ∨ (n < 23 ∧ n = S.length ∧ er = shortv m bo ae au n))

theorem ahead29 (br : Nat) (w : World) : (nilAhead 177 29 (.pointer (some ⟨br, 0, none⟩)) "Read").run Ybaf.prog w = .ok (some false) w := by kernel_rfl

set_option maxHeartbeats 4000000 in
set_option maxRecDepth 100000 in
theorem least_any (w : World) (br bb bs cs : Nat) (S : List Int) (pc : Option Addr) (nc cc : Nat) (C : List Int) (m : Int) (bo : Nat) (ae au : Addr)
    (h : Rd w br bb bs cs S pc nc cc C m (.iface 38 (.pointer (some ⟨bo, 0, none⟩))) (.iface 38 (.pointer (some ae))) 0) (hE : Errs w bo ae au) (h1 : Off br bo ae au) (h2 : Off bb bo ae au) :
    Calls Ybaf.prog 9 #[.iface 29 (.pointer (some ⟨br, 0, none⟩)), .slice (some ⟨bb, 0, none⟩) 23 23, .int .i64 23] w (FullPost w br bb bs cs S pc nc cc C m bo ae au) := by
  have HR : Hid (Rd w br bb bs cs S pc nc cc C m (.iface 38 (.pointer (some ⟨bo, 0, none⟩))) (.iface 38 (.pointer (some ae))) 0) := h
  have HE : Hid (∀ w', Still br bb w w' → Errs w' bo ae au) := fun w' hs => hE.still hs h1 h2
  clear h hE h1 h2
  go_enter Ybaf.func9, Ybaf.ntmps9
  go_wp2_with fail
  go_loopw [6, 7, 8] (fun nv er _ wr => ∃ pos : Nat, nv = .int .i64 (pos : Int) ∧ pos ≤ 23 ∧ Hid (Rd wr br bb bs cs S pc nc cc C m (.iface 38 (.pointer (some ⟨bo, 0, none⟩))) (.iface 38 (.pointer (some ae))) pos) ∧ Hid (Still br bb w wr) ∧
      (er = .nilIface ∨ (pos = S.length ∧ er = endv m (.iface 38 (.pointer (some ⟨bo, 0, none⟩))) (.iface 38 (.pointer (some ae)))))) (fun nv er _ _ => match er with | .nilIface => 24 - (intOf nv).toNat | _ => 0)
  case atStart => exact ⟨0, rfl, by omega, HR, Still.refl _ _ _, .inl rfl⟩
  case round =>
    obtain ⟨pos, rfl, hpos, HRd, HSt, her⟩ := hrel
    have hlim := HRd.out.lim
    by_cases h23 : pos = 23
    · subst h23
      have HF : Hid (FullPost w br bb bs cs S pc nc cc C m bo ae au (.returned (.tuple #[.int .i64 23, .nilIface])) wr) := ⟨23, _, rfl, HRd.out, HSt.out, .inl ⟨rfl, rfl⟩⟩
      go_wp2_with fail
      go_ret2
      exact HF.out
    · have hlt : (pos : Int) < 23 := by omega
      rcases her with rfl | ⟨hps, rfl⟩
      · have HRe : Hid (Calls Ybaf.prog 26 #[.pointer (some ⟨br, 0, none⟩), .slice (some ⟨bb, pos, none⟩) (23 - pos) (23 - pos)] wr.drew (ReadPost wr.drew br bb bs cs S pc nc cc C m (.iface 38 (.pointer (some ⟨bo, 0, none⟩))) (.iface 38 (.pointer (some ae))) pos)) := read_any _ br bb bs cs S pc nc cc C m _ _ pos (23 - pos) (HRd.out.heap rfl ⟨rfl, rfl, rfl⟩) (by omega) (by omega)
        have hn3 : ¬ 23 = pos := by omega
        have hna := ahead29 br
        go_wp2_with fail
        go_region_with (go_at_call 26; refine Calls.mono HRe.out ?_; rintro e w2 ⟨s, er, rfl, hs23, hR2, hS2, hcase⟩)
        all_goals
          have HS2 : Hid (Still br bb w w2) := HSt.out.trans ((Still.refl _ _ _).drew.trans hS2)
          have HR2 : Hid (Rd w2 br bb bs cs S pc nc cc C m (.iface 38 (.pointer (some ⟨bo, 0, none⟩))) (.iface 38 (.pointer (some ae))) (pos + s)) := hR2
          clear hS2 hR2
          have HC : Hid ((er = .nilIface ∧ 0 < s) ∨ (pos + s = S.length ∧ er = endv m (.iface 38 (.pointer (some ⟨bo, 0, none⟩))) (.iface 38 (.pointer (some ae))))) := hcase
          clear hcase
          go_wp2_with fail
          refine ⟨⟨pos + s, by go_num, hs23, HR2, HS2, ?_⟩, ?_⟩
          · rcases HC.out with ⟨h0, _⟩ | ⟨h0, h1⟩
            · exact .inl h0
            · exact .inr ⟨h0, h1⟩
          · rcases HC.out with ⟨h0, hs⟩ | ⟨_, h0⟩
            · rw [h0]
              simp [intOf]
              omega
            · obtain ⟨x, hx⟩ : ∃ x, er = .iface 38 x := by
                rw [h0]
                unfold endv
                split
                · exact ⟨_, rfl⟩
                · exact ⟨_, rfl⟩
              rw [hx]
              simp [intOf]
              omega
      · have hE := HE.out wr HSt.out
        have HF : Hid (FullPost w br bb bs cs S pc nc cc C m bo ae au (.returned (.tuple #[.int .i64 (pos : Int), shortv m bo ae au pos])) wr) := ⟨pos, _, rfl, HRd.out, HSt.out, .inr ⟨by omega, hps, rfl⟩⟩
        obtain ⟨co, hco⟩ := hE.own
        obtain ⟨v0, hv0⟩ := hE.e0
        have g0 := hE.g0
        have g1 := hE.g1
        have hq := eql_new wr (a := ⟨bo, 0, none⟩) (b := ae) hE.n0 hco hv0
        have hq2 := eql_same wr ae
        unfold endv
        by_cases hm : m % 2 = 1
        · rw [if_pos hm]
          unfold shortv at HF
          rw [if_pos hm] at HF
          clear hco hv0 HRd hE hps
          rcases Nat.eq_zero_or_pos pos with h0 | h0
          · subst h0
            go_wp2_with fail
            go_ret2
            exact HF.out
          · go_wp2_with fail
            go_ret2
            exact HF.out
        · rw [if_neg hm]
          unfold shortv at HF
          rw [if_neg hm] at HF
          clear hco hv0 HRd hE hps
          rcases Nat.eq_zero_or_pos pos with h0 | h0
          · rw [if_pos h0] at HF
            subst h0
            go_wp2_with fail
            go_ret2
            exact HF.out
          · rw [if_neg (by omega)] at HF
            go_wp2_with fail
            go_ret2
            exact HF.out

/-- io.ReadFull -/
theorem full_any (w : World) (br bb bs cs : Nat) (S : List Int) (pc : Option Addr) (nc cc : Nat) (C : List Int) (m : Int) (bo : Nat) (ae au : Addr)
    (h : Rd w br bb bs cs S pc nc cc C m (.iface 38 (.pointer (some ⟨bo, 0, none⟩))) (.iface 38 (.pointer (some ae))) 0) (hE : Errs w bo ae au) (h1 : Off br bo ae au) (h2 : Off bb bo ae au) :
    Calls Ybaf.prog 6 #[.iface 29 (.pointer (some ⟨br, 0, none⟩)), .slice (some ⟨bb, 0, none⟩) 23 23] w (FullPost w br bb bs cs S pc nc cc C m bo ae au) := by
  have HL := least_any w br bb bs cs S pc nc cc C m bo ae au h hE h1 h2
  go_enter Ybaf.func6, Ybaf.ntmps6
  go_wp2_with fail
  go_at_call 9
  refine Calls.mono HL ?_
  rintro e w2 ⟨n, er, rfl, h3⟩
  go_wp2_with fail
  go_ret2
  exact ⟨n, er, rfl, h3⟩
end Go.Proofs.YbulkdvoqFmt
