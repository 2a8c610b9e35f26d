/- Numbers: internal/strconv.ParseUint at the bases 2, 8, 10 and 16, for 64 bits, at any text that is not empty. (Written by wip/tools/numparse.py.) -/
import Derived.Test.YtlkbhmmelejmjaaDoorNumKnown
import Derived.Lib.AtoiAllMem
import Derived.Lib.Hide
import Derived.Lib.SmallJoins
import Derived.Laws.Strings3
import Derived.Laws.Closers25
import Derived.Laws.Closers25b
import Derived.BigCall
import Derived.BigGuard
namespace Go.Proofs.YtlkbhmmelejmjaaDoor.NumParse
open Go.RowKit Go.Proofs.YtlkbhmmelejmjaaDoorW.PrintWords Go.Proofs.YtlkbhmmelejmjaaDoor.NumKnown
set_option linter.unusedVariables false
set_option linter.unusedSimpArgs false

/-- The value of a digit. -/
def dg (c : Nat) : Option Nat := if 48 ≤ c ∧ c ≤ 57 then some (c - 48) else if 97 ≤ (Go.bits .or .u8 c 32).toNat ∧ (Go.bits .or .u8 c 32).toNat ≤ 122 then some ((Go.bits .or .u8 c 32).toNat - 87) else none
def cut (b : Nat) : Nat := 18446744073709551615 / b + 1
/-- A number, one too great, none. -/
inductive En where
  | ok (n : Nat)
  | range
  | bad
def uTup (T : TypeId) : En → Value
  | .ok n => .tuple #[.int .u64 n, .nilIface]
  | .bad => .tuple #[.int .u64 0, .iface T (.int .i64 2)]
  | .range => .tuple #[.int .u64 18446744073709551615, .iface T (.int .i64 1)]
/-- What the digits of a base spell, behind 'acc'. -/
def pu (b acc : Nat) : List UInt8 → En
  | [] => .ok acc
  | c :: r => match dg c.toNat with
    | none => .bad
    | some d => if b ≤ d then .bad else if cut b ≤ acc then .range else if 18446744073709551616 ≤ acc * b + d then .range else pu b (acc * b + d) r
theorem pu_none {b acc : Nat} {c : UInt8} {r : List UInt8} (h : dg c.toNat = none) : pu b acc (c :: r) = .bad := by simp only [pu, h]
theorem pu_big {b acc d : Nat} {c : UInt8} {r : List UInt8} (h : dg c.toNat = some d) (hd : b ≤ d) : pu b acc (c :: r) = .bad := by simp only [pu, h]; rw [if_pos hd]
theorem pu_cut {b acc d : Nat} {c : UInt8} {r : List UInt8} (h : dg c.toNat = some d) (hd : ¬ b ≤ d) (hc : cut b ≤ acc) : pu b acc (c :: r) = .range := by simp only [pu, h]; rw [if_neg hd, if_pos hc]
theorem pu_over {b acc d : Nat} {c : UInt8} {r : List UInt8} (h : dg c.toNat = some d) (hd : ¬ b ≤ d) (hc : ¬ cut b ≤ acc) (ho : 18446744073709551616 ≤ acc * b + d) : pu b acc (c :: r) = .range := by simp only [pu, h]; rw [if_neg hd, if_neg hc, if_pos ho]
theorem pu_step {b acc d : Nat} {c : UInt8} {r : List UInt8} (h : dg c.toNat = some d) (hd : ¬ b ≤ d) (hc : ¬ cut b ≤ acc) (ho : ¬ 18446744073709551616 ≤ acc * b + d) : pu b acc (c :: r) = pu b (acc * b + d) r := by simp only [pu, h]; rw [if_neg hd, if_neg hc, if_neg ho]

/-- What ParseUint gives of a text that is not empty. -/
def PUd (t : ByteArray) (b : Nat) (w : World) (e : Ending) (w' : World) : Prop := e = .returned (uTup 65 (pu b 0 t.data.toList)) ∧ Below w.heap.size w w'
def Lowd (l : Int) (w : World) (e : Ending) (w' : World) : Prop := e = .returned (.int .u8 l) ∧ w = w'
theorem lower_any (c : Int) (w : World) : Calls Tryd.prog 50 #[.int .u8 c] w (Lowd (Go.bits .or .u8 c 32) w) := by
  go_enter Tryd.func50, Tryd.ntmps50
  go_wp2
  go_ret
  exact ⟨rfl, rfl⟩

set_option maxHeartbeats 32000000 in
set_option maxRecDepth 100000 in
theorem parse_2 (t : ByteArray) (hne : t.size ≠ 0) (hmax : t.size ≤ 9223372036854775806) (w : World) : Calls Tryd.prog 44 #[.string t, .int .i64 2, .int .i64 64] w (PUd t 2 w) := by
  have hemp : t.toList.isEmpty = false := by
    rw [← decide_eq_emptyBytes]
    exact decide_eq_false (fun h => hne (by rw [h]; rfl))
  have hcv := Lib.run_convert_string_bytes (P := Tryd.prog) w 9 44 5 t (u := .string) Tryd.underlying9 Tryd.underlying44 Tryd.underlying5
  have hB : ∀ j, j < t.size → (Lib.bytesWorld w 5 t).cell? ⟨w.heap.size, j, none⟩ = some (.int .u8 (t.data.toList.getD j 0).toNat) := fun j hj => Lib.bytesWorld_cell w 5 t j hj
  have HBW := Aside0.mk (Go.Joins.below_bytesWorld w.heap.size w 5 t (Nat.le_refl _))
  unfold PUd
  obtain ⟨W1, hW1⟩ : ∃ W1, W1 = Lib.bytesWorld w 5 t := ⟨_, rfl⟩
  rw [← hW1] at hcv hB HBW
  clear hW1
  obtain ⟨bs, hL⟩ : ∃ bs, bs = t.data.toList := ⟨_, rfl⟩
  have hLn : bs.length = t.size := by rw [hL, Lib.size_eq]
  rw [← hL] at hB ⊢
  clear hL
  have hmv : IntKind.u64.wrap (IntKind.u64.wrap 18446744073709551616 - 1) = 18446744073709551615 := by
    rw [IntKind.wrap_u64, IntKind.wrap_u64]
    decide
  go_enter Tryd.func44, Tryd.ntmps44
  go_wp2_with fail
  go_loop [12, 13, 101] (fun vu vn vi => ∃ (k acc : Nat) (a : Int), vu = .bool false ∧ vn = .int .u64 a ∧ vi = .int .i64 k ∧ k ≤ t.size ∧ Hid (a = (acc : Int) ∧ acc < 18446744073709551616 ∧ pu 2 0 bs = pu 2 acc (bs.drop k)))
    (fun _ _ vi => t.size - (intOf vi).toNat)
  case atStart => exact ⟨0, 0, 0, rfl, rfl, rfl, by omega, rfl, by omega, rfl⟩
  case round =>
    obtain ⟨k, acc, a, rfl, rfl, rfl, hk, hh⟩ := hrel
    obtain ⟨ha, hacc, hdec⟩ := hh.out
    clear hh
    have a0 : 0 ≤ a := by omega
    have a1 : a < 18446744073709551616 := by omega
    have hct : cut 2 = 9223372036854775808 := by decide
    by_cases hkn : k < t.size
    · have hc := hB k hkn
      have hdrop : bs.drop k = bs[k]'(by omega) :: bs.drop (k + 1) := List.drop_eq_getElem_cons (by omega)
      have hget : bs.getD k 0 = bs[k]'(by omega) := by simp [List.getD, List.getElem?_eq_getElem (show k < bs.length by omega)]
      rw [hdrop] at hdec
      rw [hget] at hc
      generalize bs[k]'(by omega) = c at hc hdec
      have hc256 : c.toNat < 256 := c.toNat_lt
      clear hB hdrop hget
      by_cases hdig : 48 ≤ c.toNat ∧ c.toNat ≤ 57
      · have hdd : dg c.toNat = some (c.toNat - 48) := if_pos hdig
        obtain ⟨hd0, hd1⟩ := hdig
        by_cases hdb : c.toNat < 50
        · have hdb' : ¬ 50 ≤ c.toNat := by omega
          by_cases hcut : 9223372036854775808 ≤ acc
          · have hF := pu_cut (r := bs.drop (k + 1)) hdd (show ¬ 2 ≤ c.toNat - 48 by omega) (show cut 2 ≤ acc by rw [hct]; exact hcut)
            rw [hF] at hdec
            have icut : 9223372036854775808 ≤ a := by omega
            clear hcut hacc hF ha hct
            go_wp2_with (first | (go_at_call 50; refine (lower_any _ _).mono ?_; rintro e w' ⟨rfl, rfl⟩))
            all_goals go_ret2
            all_goals exact ⟨by first | rfl | (rw [hdec]; rfl), HBW.out⟩
          · have hcut' : ¬ cut 2 ≤ acc := by rw [hct]; exact hcut
            by_cases hov : 18446744073709551616 ≤ acc * 2 + (c.toNat - 48)
            · exact absurd hov (by omega)
            · have hF := pu_step (r := bs.drop (k + 1)) hdd (show ¬ 2 ≤ c.toNat - 48 by omega) hcut' hov
              have HN : Hid (a * 2 + ((c.toNat : Int) - 48) = ((acc * 2 + (c.toNat - 48) : Nat) : Int) ∧ acc * 2 + (c.toNat - 48) < 18446744073709551616 ∧ pu 2 0 bs = pu 2 (acc * 2 + (c.toNat - 48)) (bs.drop (k + 1))) := Lib.hid ⟨by omega, by omega, hdec.trans hF⟩
              have icut : a < 9223372036854775808 := by omega
              have iov : a * 2 + ((c.toNat : Int) - 48) < 18446744073709551616 := by omega
              clear hcut hcut' hacc hF hov hdec ha hct
              go_wp2_with (first | (go_at_call 50; refine (lower_any _ _).mono ?_; rintro e w' ⟨rfl, rfl⟩))
              all_goals refine ⟨⟨k + 1, acc * 2 + (c.toNat - 48), a * 2 + ((c.toNat : Int) - 48), rfl, (by first | rfl | (congr 1; omega)), (by first | rfl | (congr 1; omega)), by omega, HN⟩, by simp [intOf]; omega⟩
        · have hdb' : 50 ≤ c.toNat := by omega
          have hF := pu_big (b := 2) (acc := acc) (r := bs.drop (k + 1)) hdd (by omega)
          rw [hF] at hdec
          clear hacc hF ha hct
          go_wp2_with (first | (go_at_call 50; refine (lower_any _ _).mono ?_; rintro e w' ⟨rfl, rfl⟩))
          all_goals go_ret2
          all_goals exact ⟨by first | rfl | (rw [hdec]; rfl), HBW.out⟩
      · by_cases h95 : c.toNat = 95
        · have hdd : dg c.toNat = none := by rw [h95]; decide
          have hF := pu_none (b := 2) (acc := acc) (r := bs.drop (k + 1)) hdd
          rw [hF] at hdec
          have hb95 : Go.bits .or .u8 95 32 = 127 := by decide
          rw [h95] at hc
          clear hacc hF ha hct hdd h95 hdig hc256
          go_wp2_with (first | (go_at_call 50; refine (lower_any _ _).mono ?_; rintro e w' ⟨rfl, rfl⟩))
          all_goals go_ret2
          all_goals exact ⟨by first | rfl | (rw [hdec]; rfl), HBW.out⟩
        have h95b : ((c.toNat : Int) == 95) = false := beq_eq_false_iff_ne.mpr (by omega)
        have hv0 := bits_lo_u8 .or (c.toNat : Int) 32
        have hv1 := bits_hi_u8 .or (c.toNat : Int) 32
        have hlw : ∀ l : Int, l = Go.bits .or .u8 (c.toNat : Int) 32 → (97 ≤ l ∧ l ≤ 122 → dg c.toNat = some (l.toNat - 87)) ∧ (¬ (97 ≤ l ∧ l ≤ 122) → dg c.toNat = none) := fun l hl => by
          subst hl
          refine ⟨fun h => ?_, fun h => ?_⟩
          · unfold dg; rw [if_neg hdig, if_pos (by omega)]
          · unfold dg; rw [if_neg hdig, if_neg (by omega)]
        obtain ⟨l, hl⟩ : ∃ l, l = Go.bits .or .u8 (c.toNat : Int) 32 := ⟨_, rfl⟩
        have hlw := hlw l hl
        rw [← hl] at hv0 hv1
        have hnd : ¬ (48 ≤ (c.toNat : Int) ∧ (c.toNat : Int) ≤ 57) := by omega
        have HNC : Hid (l = Go.bits .or .u8 (c.toNat : Int) 32) := Lib.hid hl
        have CL : Aside0 (∀ W, Calls Tryd.prog 50 #[.int .u8 (c.toNat : Int)] W (Lowd l W)) := ⟨fun W => (lower_any _ _).mono fun e w' h => ⟨by rw [h.1, ← hl], h.2⟩⟩
        clear hl
        have hsp : c.toNat < 48 ∨ 57 < c.toNat := by omega
        by_cases hlet : 97 ≤ l ∧ l ≤ 122
        · have hdd := hlw.1 hlet
          obtain ⟨hl0, hl1⟩ := hlet
          have hF := pu_big (b := 2) (acc := acc) (r := bs.drop (k + 1)) hdd (by omega)
          rw [hF] at hdec
          clear hacc hF ha hct hlw
          go_wp2_with (first | (go_at_call 50; refine (CL.out _).mono ?_; rintro e w' ⟨rfl, rfl⟩))
          all_goals go_ret2
          all_goals exact ⟨by first | rfl | (rw [hdec]; rfl), HBW.out⟩
        · have hdd := hlw.2 hlet
          have hl1 : l < 97 ∨ 122 < l := by omega
          clear hlet
          rcases hl1 with hl1 | hl1
          · have hF := pu_none (b := 2) (acc := acc) (r := bs.drop (k + 1)) hdd
            rw [hF] at hdec
            clear hacc hF ha hct hlw
            go_wp2_with (first | (go_at_call 50; refine (CL.out _).mono ?_; rintro e w' ⟨rfl, rfl⟩))
            all_goals go_ret2
            all_goals exact ⟨by first | rfl | (rw [hdec]; rfl), HBW.out⟩
          · have hF := pu_none (b := 2) (acc := acc) (r := bs.drop (k + 1)) hdd
            rw [hF] at hdec
            clear hacc hF ha hct hlw
            go_wp2_with (first | (go_at_call 50; refine (CL.out _).mono ?_; rintro e w' ⟨rfl, rfl⟩))
            all_goals go_ret2
            all_goals exact ⟨by first | rfl | (rw [hdec]; rfl), HBW.out⟩
    · have hkk : k = t.size := by omega
      subst hkk
      have hF : pu 2 acc (bs.drop t.size) = .ok acc := by rw [List.drop_eq_nil_of_le (by omega)]; rfl
      rw [hF] at hdec
      subst ha
      clear hacc hF a0 a1 hct
      go_wp2_with fail
      go_ret2
      exact ⟨by first | rfl | (rw [hdec]; rfl), HBW.out⟩

set_option maxHeartbeats 32000000 in
set_option maxRecDepth 100000 in
theorem parse_8 (t : ByteArray) (hne : t.size ≠ 0) (hmax : t.size ≤ 9223372036854775806) (w : World) : Calls Tryd.prog 44 #[.string t, .int .i64 8, .int .i64 64] w (PUd t 8 w) := by
  have hemp : t.toList.isEmpty = false := by
    rw [← decide_eq_emptyBytes]
    exact decide_eq_false (fun h => hne (by rw [h]; rfl))
  have hcv := Lib.run_convert_string_bytes (P := Tryd.prog) w 9 44 5 t (u := .string) Tryd.underlying9 Tryd.underlying44 Tryd.underlying5
  have hB : ∀ j, j < t.size → (Lib.bytesWorld w 5 t).cell? ⟨w.heap.size, j, none⟩ = some (.int .u8 (t.data.toList.getD j 0).toNat) := fun j hj => Lib.bytesWorld_cell w 5 t j hj
  have HBW := Aside0.mk (Go.Joins.below_bytesWorld w.heap.size w 5 t (Nat.le_refl _))
  unfold PUd
  obtain ⟨W1, hW1⟩ : ∃ W1, W1 = Lib.bytesWorld w 5 t := ⟨_, rfl⟩
  rw [← hW1] at hcv hB HBW
  clear hW1
  obtain ⟨bs, hL⟩ : ∃ bs, bs = t.data.toList := ⟨_, rfl⟩
  have hLn : bs.length = t.size := by rw [hL, Lib.size_eq]
  rw [← hL] at hB ⊢
  clear hL
  have hmv : IntKind.u64.wrap (IntKind.u64.wrap 18446744073709551616 - 1) = 18446744073709551615 := by
    rw [IntKind.wrap_u64, IntKind.wrap_u64]
    decide
  go_enter Tryd.func44, Tryd.ntmps44
  go_wp2_with fail
  go_loop [12, 13, 101] (fun vu vn vi => ∃ (k acc : Nat) (a : Int), vu = .bool false ∧ vn = .int .u64 a ∧ vi = .int .i64 k ∧ k ≤ t.size ∧ Hid (a = (acc : Int) ∧ acc < 18446744073709551616 ∧ pu 8 0 bs = pu 8 acc (bs.drop k)))
    (fun _ _ vi => t.size - (intOf vi).toNat)
  case atStart => exact ⟨0, 0, 0, rfl, rfl, rfl, by omega, rfl, by omega, rfl⟩
  case round =>
    obtain ⟨k, acc, a, rfl, rfl, rfl, hk, hh⟩ := hrel
    obtain ⟨ha, hacc, hdec⟩ := hh.out
    clear hh
    have a0 : 0 ≤ a := by omega
    have a1 : a < 18446744073709551616 := by omega
    have hct : cut 8 = 2305843009213693952 := by decide
    by_cases hkn : k < t.size
    · have hc := hB k hkn
      have hdrop : bs.drop k = bs[k]'(by omega) :: bs.drop (k + 1) := List.drop_eq_getElem_cons (by omega)
      have hget : bs.getD k 0 = bs[k]'(by omega) := by simp [List.getD, List.getElem?_eq_getElem (show k < bs.length by omega)]
      rw [hdrop] at hdec
      rw [hget] at hc
      generalize bs[k]'(by omega) = c at hc hdec
      have hc256 : c.toNat < 256 := c.toNat_lt
      clear hB hdrop hget
      by_cases hdig : 48 ≤ c.toNat ∧ c.toNat ≤ 57
      · have hdd : dg c.toNat = some (c.toNat - 48) := if_pos hdig
        obtain ⟨hd0, hd1⟩ := hdig
        by_cases hdb : c.toNat < 56
        · have hdb' : ¬ 56 ≤ c.toNat := by omega
          by_cases hcut : 2305843009213693952 ≤ acc
          · have hF := pu_cut (r := bs.drop (k + 1)) hdd (show ¬ 8 ≤ c.toNat - 48 by omega) (show cut 8 ≤ acc by rw [hct]; exact hcut)
            rw [hF] at hdec
            have icut : 2305843009213693952 ≤ a := by omega
            clear hcut hacc hF ha hct
            go_wp2_with (first | (go_at_call 50; refine (lower_any _ _).mono ?_; rintro e w' ⟨rfl, rfl⟩))
            all_goals go_ret2
            all_goals exact ⟨by first | rfl | (rw [hdec]; rfl), HBW.out⟩
          · have hcut' : ¬ cut 8 ≤ acc := by rw [hct]; exact hcut
            by_cases hov : 18446744073709551616 ≤ acc * 8 + (c.toNat - 48)
            · exact absurd hov (by omega)
            · have hF := pu_step (r := bs.drop (k + 1)) hdd (show ¬ 8 ≤ c.toNat - 48 by omega) hcut' hov
              have HN : Hid (a * 8 + ((c.toNat : Int) - 48) = ((acc * 8 + (c.toNat - 48) : Nat) : Int) ∧ acc * 8 + (c.toNat - 48) < 18446744073709551616 ∧ pu 8 0 bs = pu 8 (acc * 8 + (c.toNat - 48)) (bs.drop (k + 1))) := Lib.hid ⟨by omega, by omega, hdec.trans hF⟩
              have icut : a < 2305843009213693952 := by omega
              have iov : a * 8 + ((c.toNat : Int) - 48) < 18446744073709551616 := by omega
              clear hcut hcut' hacc hF hov hdec ha hct
              go_wp2_with (first | (go_at_call 50; refine (lower_any _ _).mono ?_; rintro e w' ⟨rfl, rfl⟩))
              all_goals refine ⟨⟨k + 1, acc * 8 + (c.toNat - 48), a * 8 + ((c.toNat : Int) - 48), rfl, (by first | rfl | (congr 1; omega)), (by first | rfl | (congr 1; omega)), by omega, HN⟩, by simp [intOf]; omega⟩
        · have hdb' : 56 ≤ c.toNat := by omega
          have hF := pu_big (b := 8) (acc := acc) (r := bs.drop (k + 1)) hdd (by omega)
          rw [hF] at hdec
          clear hacc hF ha hct
          go_wp2_with (first | (go_at_call 50; refine (lower_any _ _).mono ?_; rintro e w' ⟨rfl, rfl⟩))
          all_goals go_ret2
          all_goals exact ⟨by first | rfl | (rw [hdec]; rfl), HBW.out⟩
      · by_cases h95 : c.toNat = 95
        · have hdd : dg c.toNat = none := by rw [h95]; decide
          have hF := pu_none (b := 8) (acc := acc) (r := bs.drop (k + 1)) hdd
          rw [hF] at hdec
          have hb95 : Go.bits .or .u8 95 32 = 127 := by decide
          rw [h95] at hc
          clear hacc hF ha hct hdd h95 hdig hc256
          go_wp2_with (first | (go_at_call 50; refine (lower_any _ _).mono ?_; rintro e w' ⟨rfl, rfl⟩))
          all_goals go_ret2
          all_goals exact ⟨by first | rfl | (rw [hdec]; rfl), HBW.out⟩
        have h95b : ((c.toNat : Int) == 95) = false := beq_eq_false_iff_ne.mpr (by omega)
        have hv0 := bits_lo_u8 .or (c.toNat : Int) 32
        have hv1 := bits_hi_u8 .or (c.toNat : Int) 32
        have hlw : ∀ l : Int, l = Go.bits .or .u8 (c.toNat : Int) 32 → (97 ≤ l ∧ l ≤ 122 → dg c.toNat = some (l.toNat - 87)) ∧ (¬ (97 ≤ l ∧ l ≤ 122) → dg c.toNat = none) := fun l hl => by
          subst hl
          refine ⟨fun h => ?_, fun h => ?_⟩
          · unfold dg; rw [if_neg hdig, if_pos (by omega)]
          · unfold dg; rw [if_neg hdig, if_neg (by omega)]
        obtain ⟨l, hl⟩ : ∃ l, l = Go.bits .or .u8 (c.toNat : Int) 32 := ⟨_, rfl⟩
        have hlw := hlw l hl
        rw [← hl] at hv0 hv1
        have hnd : ¬ (48 ≤ (c.toNat : Int) ∧ (c.toNat : Int) ≤ 57) := by omega
        have HNC : Hid (l = Go.bits .or .u8 (c.toNat : Int) 32) := Lib.hid hl
        have CL : Aside0 (∀ W, Calls Tryd.prog 50 #[.int .u8 (c.toNat : Int)] W (Lowd l W)) := ⟨fun W => (lower_any _ _).mono fun e w' h => ⟨by rw [h.1, ← hl], h.2⟩⟩
        clear hl
        have hsp : c.toNat < 48 ∨ 57 < c.toNat := by omega
        by_cases hlet : 97 ≤ l ∧ l ≤ 122
        · have hdd := hlw.1 hlet
          obtain ⟨hl0, hl1⟩ := hlet
          have hF := pu_big (b := 8) (acc := acc) (r := bs.drop (k + 1)) hdd (by omega)
          rw [hF] at hdec
          clear hacc hF ha hct hlw
          go_wp2_with (first | (go_at_call 50; refine (CL.out _).mono ?_; rintro e w' ⟨rfl, rfl⟩))
          all_goals go_ret2
          all_goals exact ⟨by first | rfl | (rw [hdec]; rfl), HBW.out⟩
        · have hdd := hlw.2 hlet
          have hl1 : l < 97 ∨ 122 < l := by omega
          clear hlet
          rcases hl1 with hl1 | hl1
          · have hF := pu_none (b := 8) (acc := acc) (r := bs.drop (k + 1)) hdd
            rw [hF] at hdec
            clear hacc hF ha hct hlw
            go_wp2_with (first | (go_at_call 50; refine (CL.out _).mono ?_; rintro e w' ⟨rfl, rfl⟩))
            all_goals go_ret2
            all_goals exact ⟨by first | rfl | (rw [hdec]; rfl), HBW.out⟩
          · have hF := pu_none (b := 8) (acc := acc) (r := bs.drop (k + 1)) hdd
            rw [hF] at hdec
            clear hacc hF ha hct hlw
            go_wp2_with (first | (go_at_call 50; refine (CL.out _).mono ?_; rintro e w' ⟨rfl, rfl⟩))
            all_goals go_ret2
            all_goals exact ⟨by first | rfl | (rw [hdec]; rfl), HBW.out⟩
    · have hkk : k = t.size := by omega
      subst hkk
      have hF : pu 8 acc (bs.drop t.size) = .ok acc := by rw [List.drop_eq_nil_of_le (by omega)]; rfl
      rw [hF] at hdec
      subst ha
      clear hacc hF a0 a1 hct
      go_wp2_with fail
      go_ret2
      exact ⟨by first | rfl | (rw [hdec]; rfl), HBW.out⟩

set_option maxHeartbeats 32000000 in
set_option maxRecDepth 100000 in
theorem parse_10 (t : ByteArray) (hne : t.size ≠ 0) (hmax : t.size ≤ 9223372036854775806) (w : World) : Calls Tryd.prog 44 #[.string t, .int .i64 10, .int .i64 64] w (PUd t 10 w) := by
  have hemp : t.toList.isEmpty = false := by
    rw [← decide_eq_emptyBytes]
    exact decide_eq_false (fun h => hne (by rw [h]; rfl))
  have hcv := Lib.run_convert_string_bytes (P := Tryd.prog) w 9 44 5 t (u := .string) Tryd.underlying9 Tryd.underlying44 Tryd.underlying5
  have hB : ∀ j, j < t.size → (Lib.bytesWorld w 5 t).cell? ⟨w.heap.size, j, none⟩ = some (.int .u8 (t.data.toList.getD j 0).toNat) := fun j hj => Lib.bytesWorld_cell w 5 t j hj
  have HBW := Aside0.mk (Go.Joins.below_bytesWorld w.heap.size w 5 t (Nat.le_refl _))
  unfold PUd
  obtain ⟨W1, hW1⟩ : ∃ W1, W1 = Lib.bytesWorld w 5 t := ⟨_, rfl⟩
  rw [← hW1] at hcv hB HBW
  clear hW1
  obtain ⟨bs, hL⟩ : ∃ bs, bs = t.data.toList := ⟨_, rfl⟩
  have hLn : bs.length = t.size := by rw [hL, Lib.size_eq]
  rw [← hL] at hB ⊢
  clear hL
  have hmv : IntKind.u64.wrap (IntKind.u64.wrap 18446744073709551616 - 1) = 18446744073709551615 := by
    rw [IntKind.wrap_u64, IntKind.wrap_u64]
    decide
  go_enter Tryd.func44, Tryd.ntmps44
  go_wp2_with fail
  go_loop [12, 13, 101] (fun vu vn vi => ∃ (k acc : Nat) (a : Int), vu = .bool false ∧ vn = .int .u64 a ∧ vi = .int .i64 k ∧ k ≤ t.size ∧ Hid (a = (acc : Int) ∧ acc < 18446744073709551616 ∧ pu 10 0 bs = pu 10 acc (bs.drop k)))
    (fun _ _ vi => t.size - (intOf vi).toNat)
  case atStart => exact ⟨0, 0, 0, rfl, rfl, rfl, by omega, rfl, by omega, rfl⟩
  case round =>
    obtain ⟨k, acc, a, rfl, rfl, rfl, hk, hh⟩ := hrel
    obtain ⟨ha, hacc, hdec⟩ := hh.out
    clear hh
    have a0 : 0 ≤ a := by omega
    have a1 : a < 18446744073709551616 := by omega
    have hct : cut 10 = 1844674407370955162 := by decide
    by_cases hkn : k < t.size
    · have hc := hB k hkn
      have hdrop : bs.drop k = bs[k]'(by omega) :: bs.drop (k + 1) := List.drop_eq_getElem_cons (by omega)
      have hget : bs.getD k 0 = bs[k]'(by omega) := by simp [List.getD, List.getElem?_eq_getElem (show k < bs.length by omega)]
      rw [hdrop] at hdec
      rw [hget] at hc
      generalize bs[k]'(by omega) = c at hc hdec
      have hc256 : c.toNat < 256 := c.toNat_lt
      clear hB hdrop hget
      by_cases hdig : 48 ≤ c.toNat ∧ c.toNat ≤ 57
      · have hdd : dg c.toNat = some (c.toNat - 48) := if_pos hdig
        obtain ⟨hd0, hd1⟩ := hdig
        by_cases hcut : 1844674407370955162 ≤ acc
        · have hF := pu_cut (r := bs.drop (k + 1)) hdd (show ¬ 10 ≤ c.toNat - 48 by omega) (show cut 10 ≤ acc by rw [hct]; exact hcut)
          rw [hF] at hdec
          have icut : 1844674407370955162 ≤ a := by omega
          clear hcut hacc hF ha hct
          go_wp2_with (first | (go_at_call 50; refine (lower_any _ _).mono ?_; rintro e w' ⟨rfl, rfl⟩))
          all_goals go_ret2
          all_goals exact ⟨by first | rfl | (rw [hdec]; rfl), HBW.out⟩
        · have hcut' : ¬ cut 10 ≤ acc := by rw [hct]; exact hcut
          by_cases hov : 18446744073709551616 ≤ acc * 10 + (c.toNat - 48)
          · have hF := pu_over (r := bs.drop (k + 1)) hdd (show ¬ 10 ≤ c.toNat - 48 by omega) hcut' hov
            rw [hF] at hdec
            have icut : a < 1844674407370955162 := by omega
            have iov : 18446744073709551616 ≤ a * 10 + ((c.toNat : Int) - 48) := by omega
            have hwr : IntKind.u64.wrap (a * 10 + ((c.toNat : Int) - 48)) = a * 10 + ((c.toNat : Int) - 48) - 18446744073709551616 := by
              rw [IntKind.wrap_u64]
              omega
            clear hcut hcut' hacc hF hov ha hct
            go_wp2_with (first | (go_at_call 50; refine (lower_any _ _).mono ?_; rintro e w' ⟨rfl, rfl⟩))
            all_goals go_ret2
            all_goals exact ⟨by first | rfl | (rw [hdec]; rfl), HBW.out⟩
          · have hF := pu_step (r := bs.drop (k + 1)) hdd (show ¬ 10 ≤ c.toNat - 48 by omega) hcut' hov
            have HN : Hid (a * 10 + ((c.toNat : Int) - 48) = ((acc * 10 + (c.toNat - 48) : Nat) : Int) ∧ acc * 10 + (c.toNat - 48) < 18446744073709551616 ∧ pu 10 0 bs = pu 10 (acc * 10 + (c.toNat - 48)) (bs.drop (k + 1))) := Lib.hid ⟨by omega, by omega, hdec.trans hF⟩
            have icut : a < 1844674407370955162 := by omega
            have iov : a * 10 + ((c.toNat : Int) - 48) < 18446744073709551616 := by omega
            clear hcut hcut' hacc hF hov hdec ha hct
            go_wp2_with (first | (go_at_call 50; refine (lower_any _ _).mono ?_; rintro e w' ⟨rfl, rfl⟩))
            all_goals refine ⟨⟨k + 1, acc * 10 + (c.toNat - 48), a * 10 + ((c.toNat : Int) - 48), rfl, (by first | rfl | (congr 1; omega)), (by first | rfl | (congr 1; omega)), by omega, HN⟩, by simp [intOf]; omega⟩
      · by_cases h95 : c.toNat = 95
        · have hdd : dg c.toNat = none := by rw [h95]; decide
          have hF := pu_none (b := 10) (acc := acc) (r := bs.drop (k + 1)) hdd
          rw [hF] at hdec
          have hb95 : Go.bits .or .u8 95 32 = 127 := by decide
          rw [h95] at hc
          clear hacc hF ha hct hdd h95 hdig hc256
          go_wp2_with (first | (go_at_call 50; refine (lower_any _ _).mono ?_; rintro e w' ⟨rfl, rfl⟩))
          all_goals go_ret2
          all_goals exact ⟨by first | rfl | (rw [hdec]; rfl), HBW.out⟩
        have h95b : ((c.toNat : Int) == 95) = false := beq_eq_false_iff_ne.mpr (by omega)
        have hv0 := bits_lo_u8 .or (c.toNat : Int) 32
        have hv1 := bits_hi_u8 .or (c.toNat : Int) 32
        have hlw : ∀ l : Int, l = Go.bits .or .u8 (c.toNat : Int) 32 → (97 ≤ l ∧ l ≤ 122 → dg c.toNat = some (l.toNat - 87)) ∧ (¬ (97 ≤ l ∧ l ≤ 122) → dg c.toNat = none) := fun l hl => by
          subst hl
          refine ⟨fun h => ?_, fun h => ?_⟩
          · unfold dg; rw [if_neg hdig, if_pos (by omega)]
          · unfold dg; rw [if_neg hdig, if_neg (by omega)]
        obtain ⟨l, hl⟩ : ∃ l, l = Go.bits .or .u8 (c.toNat : Int) 32 := ⟨_, rfl⟩
        have hlw := hlw l hl
        rw [← hl] at hv0 hv1
        have hnd : ¬ (48 ≤ (c.toNat : Int) ∧ (c.toNat : Int) ≤ 57) := by omega
        have HNC : Hid (l = Go.bits .or .u8 (c.toNat : Int) 32) := Lib.hid hl
        have CL : Aside0 (∀ W, Calls Tryd.prog 50 #[.int .u8 (c.toNat : Int)] W (Lowd l W)) := ⟨fun W => (lower_any _ _).mono fun e w' h => ⟨by rw [h.1, ← hl], h.2⟩⟩
        clear hl
        have hsp : c.toNat < 48 ∨ 57 < c.toNat := by omega
        by_cases hlet : 97 ≤ l ∧ l ≤ 122
        · have hdd := hlw.1 hlet
          obtain ⟨hl0, hl1⟩ := hlet
          have hF := pu_big (b := 10) (acc := acc) (r := bs.drop (k + 1)) hdd (by omega)
          rw [hF] at hdec
          clear hacc hF ha hct hlw
          go_wp2_with (first | (go_at_call 50; refine (CL.out _).mono ?_; rintro e w' ⟨rfl, rfl⟩))
          all_goals go_ret2
          all_goals exact ⟨by first | rfl | (rw [hdec]; rfl), HBW.out⟩
        · have hdd := hlw.2 hlet
          have hl1 : l < 97 ∨ 122 < l := by omega
          clear hlet
          rcases hl1 with hl1 | hl1
          · have hF := pu_none (b := 10) (acc := acc) (r := bs.drop (k + 1)) hdd
            rw [hF] at hdec
            clear hacc hF ha hct hlw
            go_wp2_with (first | (go_at_call 50; refine (CL.out _).mono ?_; rintro e w' ⟨rfl, rfl⟩))
            all_goals go_ret2
            all_goals exact ⟨by first | rfl | (rw [hdec]; rfl), HBW.out⟩
          · have hF := pu_none (b := 10) (acc := acc) (r := bs.drop (k + 1)) hdd
            rw [hF] at hdec
            clear hacc hF ha hct hlw
            go_wp2_with (first | (go_at_call 50; refine (CL.out _).mono ?_; rintro e w' ⟨rfl, rfl⟩))
            all_goals go_ret2
            all_goals exact ⟨by first | rfl | (rw [hdec]; rfl), HBW.out⟩
    · have hkk : k = t.size := by omega
      subst hkk
      have hF : pu 10 acc (bs.drop t.size) = .ok acc := by rw [List.drop_eq_nil_of_le (by omega)]; rfl
      rw [hF] at hdec
      subst ha
      clear hacc hF a0 a1 hct
      go_wp2_with fail
      go_ret2
      exact ⟨by first | rfl | (rw [hdec]; rfl), HBW.out⟩

set_option maxHeartbeats 32000000 in
set_option maxRecDepth 100000 in
theorem parse_16 (t : ByteArray) (hne : t.size ≠ 0) (hmax : t.size ≤ 9223372036854775806) (w : World) : Calls Tryd.prog 44 #[.string t, .int .i64 16, .int .i64 64] w (PUd t 16 w) := by
  have hemp : t.toList.isEmpty = false := by
    rw [← decide_eq_emptyBytes]
    exact decide_eq_false (fun h => hne (by rw [h]; rfl))
  have hcv := Lib.run_convert_string_bytes (P := Tryd.prog) w 9 44 5 t (u := .string) Tryd.underlying9 Tryd.underlying44 Tryd.underlying5
  have hB : ∀ j, j < t.size → (Lib.bytesWorld w 5 t).cell? ⟨w.heap.size, j, none⟩ = some (.int .u8 (t.data.toList.getD j 0).toNat) := fun j hj => Lib.bytesWorld_cell w 5 t j hj
  have HBW := Aside0.mk (Go.Joins.below_bytesWorld w.heap.size w 5 t (Nat.le_refl _))
  unfold PUd
  obtain ⟨W1, hW1⟩ : ∃ W1, W1 = Lib.bytesWorld w 5 t := ⟨_, rfl⟩
  rw [← hW1] at hcv hB HBW
  clear hW1
  obtain ⟨bs, hL⟩ : ∃ bs, bs = t.data.toList := ⟨_, rfl⟩
  have hLn : bs.length = t.size := by rw [hL, Lib.size_eq]
  rw [← hL] at hB ⊢
  clear hL
  have hmv : IntKind.u64.wrap (IntKind.u64.wrap 18446744073709551616 - 1) = 18446744073709551615 := by
    rw [IntKind.wrap_u64, IntKind.wrap_u64]
    decide
  go_enter Tryd.func44, Tryd.ntmps44
  go_wp2_with fail
  go_loop [12, 13, 101] (fun vu vn vi => ∃ (k acc : Nat) (a : Int), vu = .bool false ∧ vn = .int .u64 a ∧ vi = .int .i64 k ∧ k ≤ t.size ∧ Hid (a = (acc : Int) ∧ acc < 18446744073709551616 ∧ pu 16 0 bs = pu 16 acc (bs.drop k)))
    (fun _ _ vi => t.size - (intOf vi).toNat)
  case atStart => exact ⟨0, 0, 0, rfl, rfl, rfl, by omega, rfl, by omega, rfl⟩
  case round =>
    obtain ⟨k, acc, a, rfl, rfl, rfl, hk, hh⟩ := hrel
    obtain ⟨ha, hacc, hdec⟩ := hh.out
    clear hh
    have a0 : 0 ≤ a := by omega
    have a1 : a < 18446744073709551616 := by omega
    have hct : cut 16 = 1152921504606846976 := by decide
    by_cases hkn : k < t.size
    · have hc := hB k hkn
      have hdrop : bs.drop k = bs[k]'(by omega) :: bs.drop (k + 1) := List.drop_eq_getElem_cons (by omega)
      have hget : bs.getD k 0 = bs[k]'(by omega) := by simp [List.getD, List.getElem?_eq_getElem (show k < bs.length by omega)]
      rw [hdrop] at hdec
      rw [hget] at hc
      generalize bs[k]'(by omega) = c at hc hdec
      have hc256 : c.toNat < 256 := c.toNat_lt
      clear hB hdrop hget
      by_cases hdig : 48 ≤ c.toNat ∧ c.toNat ≤ 57
      · have hdd : dg c.toNat = some (c.toNat - 48) := if_pos hdig
        obtain ⟨hd0, hd1⟩ := hdig
        by_cases hcut : 1152921504606846976 ≤ acc
        · have hF := pu_cut (r := bs.drop (k + 1)) hdd (show ¬ 16 ≤ c.toNat - 48 by omega) (show cut 16 ≤ acc by rw [hct]; exact hcut)
          rw [hF] at hdec
          have icut : 1152921504606846976 ≤ a := by omega
          clear hcut hacc hF ha hct
          go_wp2_with (first | (go_at_call 50; refine (lower_any _ _).mono ?_; rintro e w' ⟨rfl, rfl⟩))
          all_goals go_ret2
          all_goals exact ⟨by first | rfl | (rw [hdec]; rfl), HBW.out⟩
        · have hcut' : ¬ cut 16 ≤ acc := by rw [hct]; exact hcut
          by_cases hov : 18446744073709551616 ≤ acc * 16 + (c.toNat - 48)
          · exact absurd hov (by omega)
          · have hF := pu_step (r := bs.drop (k + 1)) hdd (show ¬ 16 ≤ c.toNat - 48 by omega) hcut' hov
            have HN : Hid (a * 16 + ((c.toNat : Int) - 48) = ((acc * 16 + (c.toNat - 48) : Nat) : Int) ∧ acc * 16 + (c.toNat - 48) < 18446744073709551616 ∧ pu 16 0 bs = pu 16 (acc * 16 + (c.toNat - 48)) (bs.drop (k + 1))) := Lib.hid ⟨by omega, by omega, hdec.trans hF⟩
            have icut : a < 1152921504606846976 := by omega
            have iov : a * 16 + ((c.toNat : Int) - 48) < 18446744073709551616 := by omega
            clear hcut hcut' hacc hF hov hdec ha hct
            go_wp2_with (first | (go_at_call 50; refine (lower_any _ _).mono ?_; rintro e w' ⟨rfl, rfl⟩))
            all_goals refine ⟨⟨k + 1, acc * 16 + (c.toNat - 48), a * 16 + ((c.toNat : Int) - 48), rfl, (by first | rfl | (congr 1; omega)), (by first | rfl | (congr 1; omega)), by omega, HN⟩, by simp [intOf]; omega⟩
      · by_cases h95 : c.toNat = 95
        · have hdd : dg c.toNat = none := by rw [h95]; decide
          have hF := pu_none (b := 16) (acc := acc) (r := bs.drop (k + 1)) hdd
          rw [hF] at hdec
          have hb95 : Go.bits .or .u8 95 32 = 127 := by decide
          rw [h95] at hc
          clear hacc hF ha hct hdd h95 hdig hc256
          go_wp2_with (first | (go_at_call 50; refine (lower_any _ _).mono ?_; rintro e w' ⟨rfl, rfl⟩))
          all_goals go_ret2
          all_goals exact ⟨by first | rfl | (rw [hdec]; rfl), HBW.out⟩
        have h95b : ((c.toNat : Int) == 95) = false := beq_eq_false_iff_ne.mpr (by omega)
        have hv0 := bits_lo_u8 .or (c.toNat : Int) 32
        have hv1 := bits_hi_u8 .or (c.toNat : Int) 32
        have hlw : ∀ l : Int, l = Go.bits .or .u8 (c.toNat : Int) 32 → (97 ≤ l ∧ l ≤ 122 → dg c.toNat = some (l.toNat - 87)) ∧ (¬ (97 ≤ l ∧ l ≤ 122) → dg c.toNat = none) := fun l hl => by
          subst hl
          refine ⟨fun h => ?_, fun h => ?_⟩
          · unfold dg; rw [if_neg hdig, if_pos (by omega)]
          · unfold dg; rw [if_neg hdig, if_neg (by omega)]
        obtain ⟨l, hl⟩ : ∃ l, l = Go.bits .or .u8 (c.toNat : Int) 32 := ⟨_, rfl⟩
        have hlw := hlw l hl
        rw [← hl] at hv0 hv1
        have hnd : ¬ (48 ≤ (c.toNat : Int) ∧ (c.toNat : Int) ≤ 57) := by omega
        have HNC : Hid (l = Go.bits .or .u8 (c.toNat : Int) 32) := Lib.hid hl
        have CL : Aside0 (∀ W, Calls Tryd.prog 50 #[.int .u8 (c.toNat : Int)] W (Lowd l W)) := ⟨fun W => (lower_any _ _).mono fun e w' h => ⟨by rw [h.1, ← hl], h.2⟩⟩
        clear hl
        have hsp : c.toNat < 48 ∨ 57 < c.toNat := by omega
        by_cases hlet : 97 ≤ l ∧ l ≤ 122
        · have hdd := hlw.1 hlet
          obtain ⟨hl0, hl1⟩ := hlet
          by_cases hl6 : l ≤ 102
          · obtain ⟨d, hde⟩ : ∃ d, d = l.toNat - 87 := ⟨_, rfl⟩
            rw [← hde] at hdd
            have hdl : (d : Int) = l - 87 := by omega
            clear hde
            by_cases hcut : 1152921504606846976 ≤ acc
            · have hF := pu_cut (r := bs.drop (k + 1)) hdd (show ¬ 16 ≤ d by omega) (show cut 16 ≤ acc by rw [hct]; exact hcut)
              rw [hF] at hdec
              have icut : 1152921504606846976 ≤ a := by omega
              clear hcut hacc hF ha hct
              go_wp2_with (first | (go_at_call 50; refine (CL.out _).mono ?_; rintro e w' ⟨rfl, rfl⟩))
              all_goals go_ret2
              all_goals exact ⟨by first | rfl | (rw [hdec]; rfl), HBW.out⟩
            · have hcut' : ¬ cut 16 ≤ acc := by rw [hct]; exact hcut
              by_cases hov : 18446744073709551616 ≤ acc * 16 + (d)
              · exact absurd hov (by omega)
              · have hF := pu_step (r := bs.drop (k + 1)) hdd (show ¬ 16 ≤ d by omega) hcut' hov
                have HN : Hid (a * 16 + (l - 97 + 10) = ((acc * 16 + (d) : Nat) : Int) ∧ acc * 16 + (d) < 18446744073709551616 ∧ pu 16 0 bs = pu 16 (acc * 16 + (d)) (bs.drop (k + 1))) := Lib.hid ⟨by omega, by omega, hdec.trans hF⟩
                have icut : a < 1152921504606846976 := by omega
                have iov : a * 16 + (l - 97 + 10) < 18446744073709551616 := by omega
                clear hcut hcut' hacc hF hov hdec ha hct
                go_wp2_with (first | (go_at_call 50; refine (CL.out _).mono ?_; rintro e w' ⟨rfl, rfl⟩))
                all_goals refine ⟨⟨k + 1, acc * 16 + (d), a * 16 + (l - 97 + 10), rfl, (by first | rfl | (congr 1; omega)), (by first | rfl | (congr 1; omega)), by omega, HN⟩, by simp [intOf]; omega⟩
          · have hl6' : 103 ≤ l := by omega
            have hF := pu_big (b := 16) (acc := acc) (r := bs.drop (k + 1)) hdd (by omega)
            rw [hF] at hdec
            clear hacc hF ha hct hlw
            go_wp2_with (first | (go_at_call 50; refine (CL.out _).mono ?_; rintro e w' ⟨rfl, rfl⟩))
            all_goals go_ret2
            all_goals exact ⟨by first | rfl | (rw [hdec]; rfl), HBW.out⟩
        · have hdd := hlw.2 hlet
          have hl1 : l < 97 ∨ 122 < l := by omega
          clear hlet
          rcases hl1 with hl1 | hl1
          · have hF := pu_none (b := 16) (acc := acc) (r := bs.drop (k + 1)) hdd
            rw [hF] at hdec
            clear hacc hF ha hct hlw
            go_wp2_with (first | (go_at_call 50; refine (CL.out _).mono ?_; rintro e w' ⟨rfl, rfl⟩))
            all_goals go_ret2
            all_goals exact ⟨by first | rfl | (rw [hdec]; rfl), HBW.out⟩
          · have hF := pu_none (b := 16) (acc := acc) (r := bs.drop (k + 1)) hdd
            rw [hF] at hdec
            clear hacc hF ha hct hlw
            go_wp2_with (first | (go_at_call 50; refine (CL.out _).mono ?_; rintro e w' ⟨rfl, rfl⟩))
            all_goals go_ret2
            all_goals exact ⟨by first | rfl | (rw [hdec]; rfl), HBW.out⟩
    · have hkk : k = t.size := by omega
      subst hkk
      have hF : pu 16 acc (bs.drop t.size) = .ok acc := by rw [List.drop_eq_nil_of_le (by omega)]; rfl
      rw [hF] at hdec
      subst ha
      clear hacc hF a0 a1 hct
      go_wp2_with fail
      go_ret2
      exact ⟨by first | rfl | (rw [hdec]; rfl), HBW.out⟩

end Go.Proofs.YtlkbhmmelejmjaaDoor.NumParse
