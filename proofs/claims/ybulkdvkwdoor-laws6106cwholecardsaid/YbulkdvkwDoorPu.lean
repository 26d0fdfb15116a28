import Derived.Test.YbulkdvkwDoorHex
import Derived.Lib.ConvBytes
import Derived.Deep.QuietTactic
import Derived.BigQuiet
namespace Go.Proofs.YbulkdvkwDoor
open Go Go.RowKit

def nums (s : ByteArray) : List Int := s.data.toList.map fun b => (b.toNat : Int)

/-- internal/strconv.lower -/
def lowV (c : Int) : Int := bits .or .u8 c 32
theorem low_all : ∀ c : Fin 256, (0 ≤ lowV (c.val : Int) ∧ lowV (c.val : Int) ≤ 255) ∧ (65 ≤ c.val ∧ c.val ≤ 70 → lowV (c.val : Int) = (c.val : Int) + 32) ∧ (97 ≤ c.val ∧ c.val ≤ 102 → lowV (c.val : Int) = (c.val : Int)) ∧
    (¬ ((48 ≤ c.val ∧ c.val ≤ 57) ∨ (97 ≤ c.val ∧ c.val ≤ 102) ∨ (65 ≤ c.val ∧ c.val ≤ 70)) → ¬ (97 ≤ lowV (c.val : Int) ∧ lowV (c.val : Int) ≤ 102)) := by decide +kernel
set_option maxHeartbeats 400000 in
theorem lower_any (c : Int) (w : World) : Calls Ybad.prog 10 #[.int .u8 c] w fun e w' => e = .returned (.int .u8 (lowV c)) ∧ w' = w := by
  unfold lowV
  go_enter Ybad.func10, Ybad.ntmps10
  go_wp2
  go_ret
  exact ⟨rfl, rfl⟩

theorem pow_bd (k : Nat) (h : k ≤ 3) : (16 : Int) ^ k ≤ 4096 ∧ 1 ≤ (16 : Int) ^ k := by
  match k, h with
  | 0, _ => decide
  | 1, _ => decide
  | 2, _ => decide
  | 3, _ => decide
theorem puGo_hit {l : List Int} {k : Nat} {a c : Int} (hk : l[k]? = some c) (h : hexB c = true) : puGo (l.drop k) a = puGo (l.drop (k + 1)) (a * 16 + hexV c) := by
  obtain ⟨hlt, rfl⟩ := List.getElem?_eq_some_iff.1 hk
  rw [List.drop_eq_getElem_cons hlt, puGo, if_pos h]
theorem puGo_miss {l : List Int} {k : Nat} {a c : Int} (hk : l[k]? = some c) (h : hexB c = false) : puGo (l.drop k) a = none := by
  obtain ⟨hlt, rfl⟩ := List.getElem?_eq_some_iff.1 hk
  rw [List.drop_eq_getElem_cons hlt, puGo, if_neg (by rw [h]; exact Bool.false_ne_true)]

def puOut (o : Option Int) : Value := match o with | some v => .tuple #[.int .u64 v, .nilIface] | none => .tuple #[.int .u64 0, .iface 36 (.int .i64 2)]

set_option maxHeartbeats 8000000 in
set_option maxRecDepth 100000 in
theorem pu_any (s : ByteArray) (hs : s.size = 4) (w : World) :
    Calls Ybad.prog 8 #[.string s, .int .i64 16, .int .i64 16] w fun e w' => e = .returned (puOut (puGo (nums s) 0)) ∧ Below w.heap.size w w' := by
  have hne : s.toList.isEmpty = false := by
    rw [← decide_eq_emptyBytes]
    exact decide_eq_false (fun h => by rw [h] at hs; cases hs)
  have hcv := Lib.run_convert_string_bytes (P := Ybad.prog) w 9 22 5 s (u := .string) Ybad.underlying9 Ybad.underlying22 Ybad.underlying5
  have hB : ∀ j, j < s.size → (Lib.bytesWorld w 5 s).cell? ⟨w.heap.size, j, none⟩ = some (.int .u8 (s.data.toList.getD j 0).toNat) := fun j hj => Lib.bytesWorld_cell w 5 s j hj
  have hbw : Below w.heap.size w (Lib.bytesWorld w 5 s) := ⟨rfl, rfl, rfl, by rw [Lib.bytesWorld_size]; omega, fun j hj => Lib.bytesWorld_at_old w 5 s j hj⟩
  obtain ⟨W1, hW1⟩ : ∃ W1, W1 = Lib.bytesWorld w 5 s := ⟨_, rfl⟩
  rw [← hW1] at hcv hB hbw
  clear hW1
  have HBw : Hid (Below w.heap.size w W1) := hbw
  clear hbw
  have hLn : (nums s).length = 4 := by unfold nums; rw [List.length_map, Array.length_toList]; exact hs
  have hget : ∀ k, k < 4 → ∃ c : Int, 0 ≤ c ∧ c ≤ 255 ∧ (nums s)[k]? = some c ∧ W1.cell? ⟨w.heap.size, k, none⟩ = some (.int .u8 c) ∧ ∃ f : Fin 256, c = (f.val : Int) := by
    intro k hk
    have hk' : k < s.data.toList.length := by rw [Array.length_toList]; show k < s.size; omega
    have hc := hB k (by omega)
    have e1 : s.data.toList.getD k 0 = s.data.toList[k] := by simp [List.getD, List.getElem?_eq_getElem hk']
    rw [e1] at hc
    refine ⟨(s.data.toList[k].toNat : Int), by omega, ?_, ?_, hc, ⟨s.data.toList[k].toNat, s.data.toList[k].toNat_lt⟩, rfl⟩
    · have := s.data.toList[k].toNat_lt
      omega
    · unfold nums
      rw [List.getElem?_map, List.getElem?_eq_getElem hk']
      rfl
  have HG : Hid (∀ k, k < 4 → ∃ c : Int, 0 ≤ c ∧ c ≤ 255 ∧ (nums s)[k]? = some c ∧ W1.cell? ⟨w.heap.size, k, none⟩ = some (.int .u8 c) ∧ ∃ f : Fin 256, c = (f.val : Int)) := hget
  have h4 : (s.size : Int) = 4 := by omega
  have HN : Hid ((nums s).length = 4) := hLn
  clear hB hget hLn
  generalize hgc : grownCap w s.size 0 5 = gc at hcv
  clear hgc
  rw [hs] at hcv
  have HS : Hid (s.size = 4) := hs
  clear hs h4
  have hmv : IntKind.u64.wrap (IntKind.u64.wrap 65536 - 1) = 65535 := by
    rw [IntKind.wrap_u64, IntKind.wrap_u64]
    decide
  go_enter Ybad.func8, Ybad.ntmps8
  go_wp2_with fail
  go_loop [12, 13, 101] (fun vu vn vi => ∃ (k : Nat) (a : Int), vu = .bool false ∧ vn = .int .u64 a ∧ vi = .int .i64 k ∧ k ≤ 4 ∧ 0 ≤ a ∧ a < 65536 ∧ Hid (a < 16 ^ k) ∧ Hid (puGo (nums s) 0 = puGo ((nums s).drop k) a))
    (fun _ _ vi => 4 - (intOf vi).toNat)
  case atStart => exact ⟨0, 0, rfl, rfl, rfl, by omega, by omega, by omega, by show (0 : Int) < 1; omega, rfl⟩
  case round =>
    obtain ⟨k, a, rfl, rfl, rfl, hk, ha0, ha1, hap, hdec⟩ := hrel
    by_cases hkn : k < 4
    · obtain ⟨c, hc0, hc1, hcn, hcc, f, hcf⟩ := HG.out k hkn
      have hp := pow_bd k (by omega)
      have ha2 : a < 4096 := by have := hap.out; omega
      have hlow := low_all f
      rw [← hcf] at hlow
      have HL : Hid _ := hlow
      have hl0 : 0 ≤ lowV c := hlow.1.1
      have hl1 : lowV c ≤ 255 := hlow.1.2
      clear hlow hp
      cases hb : hexB c with
      | false =>
        have hF : puGo ((nums s).drop k) a = none := puGo_miss hcn hb
        have HF : Hid (puGo (nums s) 0 = none) := (hdec.out.trans hF)
        clear hF hdec hcn
        have hl2 : ¬ (97 ≤ lowV c ∧ lowV c ≤ 102) := by
          apply HL.out.2.2.2
          intro hh
          rw [hexB, decide_eq_false_iff_not] at hb
          omega
        rw [hexB, decide_eq_false_iff_not] at hb
        have HB : Hid (¬ ((48 ≤ c ∧ c ≤ 57) ∨ (97 ≤ c ∧ c ≤ 102) ∨ (65 ≤ c ∧ c ≤ 70))) := hb
        have hlw : ∀ w, Calls Ybad.prog 10 #[.int .u8 c] w fun e w' => e = .returned (.int .u8 (lowV c)) ∧ w' = w := fun w => lower_any c w
        generalize lowV c = l at hlw hl0 hl1 hl2
        have HL2 : Hid (¬ (97 ≤ l ∧ l ≤ 102)) := hl2
        have HLW : Hid (∀ w, Calls Ybad.prog 10 #[.int .u8 c] w fun e w' => e = .returned (.int .u8 l) ∧ w' = w) := hlw
        clear hb HL hcf hl2 hlw
        rcases (show c < 48 ∨ (57 < c ∧ c < 95) ∨ 95 < c ∨ c = 95 by have := HB.out; omega) with hcd | ⟨hcd, hcd'⟩ | hcd | rfl <;>
        (rcases (show l < 97 ∨ (103 ≤ l ∧ l ≤ 122) ∨ 122 < l by have := HL2.out; omega) with hl | ⟨hl, hl'⟩ | hl)
        all_goals
          go_wp2_with (go_at_call 10; refine (HLW.out _).mono ?_; rintro e w' ⟨rfl, rfl⟩)
          all_goals go_ret2
          all_goals exact ⟨by rw [HF.out]; rfl, HBw.out⟩
      | true =>
        have hF := puGo_hit (a := a) hcn hb
        have hv := hexV_bd c
        have HF : Hid (puGo (nums s) 0 = puGo ((nums s).drop (k + 1)) (a * 16 + hexV c)) := (hdec.out.trans hF)
        clear hF hdec hcn
        have HP : Hid (a * 16 + hexV c < 16 ^ (k + 1)) := by
          have := hap.out
          show a * 16 + hexV c < 16 ^ (k + 1)
          rw [Int.pow_succ]
          omega
        have hcs : (48 ≤ c ∧ c ≤ 57) ∨ (97 ≤ c ∧ c ≤ 102) ∨ (65 ≤ c ∧ c ≤ 70) := by
          rw [hexB, decide_eq_true_iff] at hb
          exact hb
        clear hb hv
        rcases hcs with ⟨c1, c2⟩ | ⟨c1, c2⟩ | ⟨c1, c2⟩
        · have hv : hexV c = c - 48 := by rw [hexV, if_pos ⟨c1, c2⟩]
          rw [hv] at HF HP
          clear hv HL hcf
          go_wp2_with fail
          exact ⟨⟨k + 1, a * 16 + (c - 48), rfl, rfl, (by first | rfl | (congr 1; omega)), by omega, by omega, by omega, HP, HF⟩, by simp [intOf]; omega⟩
        · have hv : hexV c = c - 97 + 10 := by rw [hexV, if_neg (by omega), if_pos ⟨c1, c2⟩]
          have hlo : lowV c = c := by rw [hcf]; exact (hcf ▸ HL.out.2.2.1) (by omega)
          have HLW : Hid (∀ w, Calls Ybad.prog 10 #[.int .u8 c] w fun e w' => e = .returned (.int .u8 c) ∧ w' = w) := by
            intro w
            have := lower_any c w
            rwa [hlo] at this
          rw [hv] at HF HP
          clear hv HL hcf hlo hl0 hl1
          go_wp2_with (go_at_call 10; refine (HLW.out _).mono ?_; rintro e w' ⟨rfl, rfl⟩)
          exact ⟨⟨k + 1, a * 16 + (c - 97 + 10), rfl, rfl, (by first | rfl | (congr 1; omega)), by omega, by omega, by omega, HP, HF⟩, by simp [intOf]; omega⟩
        · have hv : hexV c = c - 65 + 10 := by rw [hexV, if_neg (by omega), if_neg (by omega), if_pos ⟨c1, c2⟩]
          have hlo : lowV c = c + 32 := by have := HL.out.2.1 (by omega); exact this
          have HLW : Hid (∀ w, Calls Ybad.prog 10 #[.int .u8 c] w fun e w' => e = .returned (.int .u8 (c + 32)) ∧ w' = w) := by
            intro w
            have := lower_any c w
            rwa [hlo] at this
          rw [hv] at HF HP
          clear hv HL hcf hlo hl0 hl1
          go_wp2_with (go_at_call 10; refine (HLW.out _).mono ?_; rintro e w' ⟨rfl, rfl⟩)
          exact ⟨⟨k + 1, a * 16 + (c - 65 + 10), rfl, (by congr 1; omega), (by first | rfl | (congr 1; omega)), by omega, by omega, by omega, HP, HF⟩, by simp [intOf]; omega⟩
    · have hkk : k = 4 := by omega
      subst hkk
      have hF : puGo ((nums s).drop 4) a = some a := by rw [List.drop_eq_nil_of_le (by have := HN.out; omega)]; rfl
      have HF : Hid (puGo (nums s) 0 = some a) := (show _ from hdec.out.trans hF)
      clear hF hdec
      go_wp2_with fail
      go_ret2
      exact ⟨by rw [HF.out]; rfl, HBw.out⟩
end Go.Proofs.YbulkdvkwDoor
