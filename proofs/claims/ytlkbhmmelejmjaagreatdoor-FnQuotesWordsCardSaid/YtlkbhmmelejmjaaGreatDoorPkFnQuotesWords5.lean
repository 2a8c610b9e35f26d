/- Parts of the proof of FnQuotesWords, one behind the other: FltRound, FltBitsP, FltScope, FltBits, FltHexP, FltHex. Each part says ahead of itself what it proves. -/
import Derived.Test.YtlkbhmmelejmjaaGreatDoorPkFnQuotesWords4
import Derived.ScopeJumps
import Derived.LaidEqlPtr

/- The decimal of the slow road: shouldRoundUp, RoundedInteger. -/
namespace Go.Proofs.YtlkbhmmelejmjaaGreatDoor.FltRound
open Go.RowKit Go.Proofs.YtlkbhmmelejmjaaGreatDoorW.PrintWords Go.Proofs.YtlkbhmmelejmjaaGreatDoor.NumKnown Go.Proofs.YtlkbhmmelejmjaaGreatDoor.NumPure Go.Proofs.YtlkbhmmelejmjaaGreatDoor.FltDec Go.Proofs.YtlkbhmmelejmjaaGreatDoor.FltPure Go.Proofs.YtlkbhmmelejmjaaGreatDoor.FltLeft Go.Proofs.YtlkbhmmelejmjaaGreatDoor.FltRight Go.Proofs.YtlkbhmmelejmjaaGreatDoor.FltLaw Go.Proofs.YtlkbhmmelejmjaaGreatDoor.FltState Go.Proofs.YtlkbhmmelejmjaaGreatDoor.FltShift Go.Proofs.YtlkbhmmelejmjaaGreatDoor.FltBoth
set_option linter.unusedVariables false
set_option linter.unusedSimpArgs false

/-- Whether a number that is cut at a digit is rounded up. -/
def sru (s : St) (nd : Int) : Bool :=
  if nd < 0 ∨ (s.n : Int) ≤ nd then false
  else if dv s.F nd.toNat = 5 ∧ nd.toNat + 1 = s.n then (s.tr || (decide (0 < nd.toNat) && decide (dv s.F (nd.toNat - 1) % 2 ≠ 0)))
  else decide (5 ≤ dv s.F nd.toNat)
theorem At_dig {s : St} {p : Nat} {ng : Bool} {w : World} (hs : s.Good) (h : s.At p ng w) (i : Nat) (hi : i < s.n) : w.cell? ⟨p, i, none⟩ = some (.int .u8 (48 + (dv s.F i : Int))) := by
  obtain ⟨g, h1, h2⟩ := h
  have := hs.most
  rw [h1.dig i (by omega), h2 i hi, hs.dig.dv_eq hi]
theorem At_tr {s : St} {p : Nat} {ng : Bool} {w : World} (h : s.At p ng w) : w.cell? ⟨p, 803, none⟩ = some (.bool s.tr) := by
  obtain ⟨g, h1, h2⟩ := h
  exact h1.tr
def Same (v : Value) (w : World) (e : Ending) (w' : World) : Prop := e = .returned v ∧ w = w'

set_option maxHeartbeats 4000000 in
set_option maxRecDepth 100000 in
theorem sru_walk (p : Nat) (ng : Bool) (s : St) (nd : Int) (hs : s.Good) (w : World) (ha : s.At p ng w) : Calls Tryz.prog 157 #[.pointer (some ⟨p, 0, none⟩), .int .i64 nd] w (Same (.bool (sru s nd)) w) := by
  have hnd := At_nd ha
  have htr := At_tr ha
  have hn := hs.one
  have hm := hs.most
  by_cases h1 : nd < 0
  · have e : sru s nd = false := by unfold sru; rw [if_pos (.inl h1)]
    rw [e]
    clear htr
    generalize s.n = n at *
    go_enter Tryz.func157, Tryz.ntmps157
    go_wp2_with fail
    go_ret
    exact ⟨rfl, rfl⟩
  · by_cases h2 : (s.n : Int) ≤ nd
    · have e : sru s nd = false := by unfold sru; rw [if_pos (.inr h2)]
      rw [e]
      clear htr
      generalize s.n = n at *
      go_enter Tryz.func157, Tryz.ntmps157
      go_wp2_with fail
      go_ret
      exact ⟨rfl, rfl⟩
    · obtain ⟨i, rfl⟩ : ∃ i : Nat, nd = (i : Int) := ⟨nd.toNat, by omega⟩
      have hin : i < s.n := by omega
      have hc := At_dig hs ha i hin
      have hd9 := hs.dig.dv hin
      have hin8 : i < 800 := by omega
      have e : sru s i = if dv s.F i = 5 ∧ i + 1 = s.n then (s.tr || (decide (0 < i) && decide (dv s.F (i - 1) % 2 ≠ 0))) else decide (5 ≤ dv s.F i) := by
        unfold sru
        rw [if_neg (by omega)]
        rfl
      rw [e]
      clear e
      have hprev : 0 < i → w.cell? ⟨p, i - 1, none⟩ = some (.int .u8 (48 + (dv s.F (i - 1) : Int))) ∧ dv s.F (i - 1) ≤ 9 := fun h => ⟨At_dig hs ha (i - 1) (by omega), hs.dig.dv (by omega)⟩
      clear ha hs
      generalize s.n = n at *
      generalize s.tr = tr at *
      generalize hdd : dv s.F i = d at *
      generalize dv s.F (i - 1) = dq at *
      clear hdd
      by_cases h5 : d = 5
      · subst h5
        by_cases hl : i + 1 = n
        · subst hl
          rw [if_pos ⟨rfl, rfl⟩]
          have a1 : wrap64 ((i : Int) + 1) = ((i + 1 : Nat) : Int) := by unfold wrap64; omega
          cases tr with
          | true =>
            go_enter Tryz.func157, Tryz.ntmps157
            go_wp2_with fail
            go_ret
            exact ⟨rfl, rfl⟩
          | false =>
            by_cases hi0 : 0 < i
            · obtain ⟨hcp, hdq⟩ := hprev hi0
              go_enter Tryz.func157, Tryz.ntmps157
              have hb : ((48 + (dq : Int) - 48) % 2 != 0) = decide (dq % 2 = 1) := by
                rw [show (48 + (dq : Int) - 48) = (dq : Int) from by omega]
                rcases Nat.mod_two_eq_zero_or_one dq with h | h
                · have : (dq : Int) % 2 = 0 := by omega
                  rw [h, this]; rfl
                · have : (dq : Int) % 2 = 1 := by omega
                  rw [h, this]; rfl
              have HB := Aside0.mk hb
              clear hb
              go_wp2_with fail
              go_ret
              exact ⟨by rw [← HB.out]; rfl, rfl⟩
            · obtain rfl : i = 0 := by omega
              go_enter Tryz.func157, Tryz.ntmps157
              go_wp2_with fail
              go_ret
              exact ⟨rfl, rfl⟩
        · rw [if_neg (by omega)]
          have hne : ((i : Int) + 1 == (n : Int)) = false := beq_eq_false_iff_ne.mpr (by omega)
          go_enter Tryz.func157, Tryz.ntmps157
          go_wp2_with fail
          go_ret
          exact ⟨rfl, rfl⟩
      · rw [if_neg (by omega)]
        have hne : ((48 + (d : Int)) == 53) = false := beq_eq_false_iff_ne.mpr (by omega)
        go_enter Tryz.func157, Tryz.ntmps157
        go_wp2_with fail
        go_ret
        exact ⟨by rw [show decide (5 ≤ d) = decide (53 ≤ 48 + (d : Int)) from decide_eq_decide.2 (by omega)]; rfl, rfl⟩

/-- The number that is rounded. -/
def riL (F : Nat → Int) : Nat → Int
  | 0 => 0
  | i + 1 => IntKind.u64.wrap (IntKind.u64.wrap (riL F i * 10) + (dv F i : Int))
def riZ (b : Int) : Nat → Int
  | 0 => b
  | c + 1 => IntKind.u64.wrap (riZ b c * 10)
def ri0 (s : St) : Int := riZ (riL s.F (min s.dp.toNat s.n)) (s.dp.toNat - min s.dp.toNat s.n)
def ri (s : St) : Int := if s.dp > 20 then 18446744073709551615 else if sru s s.dp then IntKind.u64.wrap (ri0 s + 1) else ri0 s

set_option maxHeartbeats 4000000 in
set_option maxRecDepth 100000 in
theorem ri_walk (p : Nat) (ng : Bool) (s : St) (hs : s.Good) (w : World) (ha : s.At p ng w) : Calls Tryz.prog 151 #[.pointer (some ⟨p, 0, none⟩)] w (Same (.int .u64 (ri s)) w) := by
  have hnd := At_nd ha
  have hdp := At_dp ha
  have hn := hs.one
  have hm := hs.most
  have HD := Aside0.mk (fun i (hi : i < s.n) => And.intro (At_dig hs ha i hi) (hs.dig.dv hi))
  have CS := Aside0.mk (sru_walk p ng s s.dp hs w ha)
  clear ha hs
  by_cases h20 : s.dp > 20
  · have e : ri s = 18446744073709551615 := by unfold ri; rw [if_pos h20]
    rw [e]
    generalize s.n = n at *
    generalize s.dp = dp at *
    go_enter Tryz.func151, Tryz.ntmps151
    go_wp2_with fail
    go_ret
    exact ⟨rfl, rfl⟩
  · have e : ri s = if sru s s.dp then IntKind.u64.wrap (ri0 s + 1) else ri0 s := by unfold ri; rw [if_neg h20]
    have he0 : ri0 s = riZ (riL s.F (min s.dp.toNat s.n)) (s.dp.toNat - min s.dp.toNat s.n) := rfl
    generalize ri s = y at e ⊢
    have HY := Aside0.mk e
    have HE := Aside0.mk he0
    clear e he0
    generalize ri0 s = x0 at *
    generalize sru s s.dp = sb at *
    generalize s.n = n at *
    generalize s.dp = dp at *
    have hk1 : min dp.toNat n ≤ dp.toNat := Nat.min_le_left _ _
    have hk2 : min dp.toNat n ≤ n := Nat.min_le_right _ _
    have HM := Aside0.mk (show min dp.toNat n = dp.toNat ∨ min dp.toNat n = n by omega)
    have HK := Aside0.mk (And.intro hk1 hk2)
    clear hk1 hk2
    generalize min dp.toNat n = k at *
    go_enter Tryz.func151, Tryz.ntmps151
    go_upto_block 0 with (fail)
    go_cut [3, 4] (fun v3 v4 wc => v3 = .int .i64 (k : Int) ∧ v4 = .int .u64 (riL s.F k) ∧ wc = w)
    case first =>
      go_wp2_with fail
      go_loopw [3, 4] (fun v3 v4 wr => ∃ i : Nat, i ≤ k ∧ v3 = .int .i64 (i : Int) ∧ v4 = .int .u64 (riL s.F i) ∧ wr = w) (fun v3 _ _ => k - (intOf v3).toNat)
      case atStart => exact ⟨0, Nat.zero_le _, rfl, rfl, rfl⟩
      case round =>
        obtain ⟨i, hi, rfl, rfl, rfl⟩ := hrel
        by_cases hik : i < k
        · have g1 : (i : Int) < dp := by have := HK.out; omega
          have g2 : i < n := by have := HK.out; omega
          have g3 : i < 800 := by omega
          obtain ⟨hc, hd9⟩ := HD.out i g2
          have hr : riL s.F (i + 1) = IntKind.u64.wrap (IntKind.u64.wrap (riL s.F i * 10) + (dv s.F i : Int)) := rfl
          have HR := Aside0.mk hr
          clear hr
          generalize dv s.F i = d at *
          go_wp2_with fail
          go_roundw
          case rel => exact ⟨i + 1, by omega, by go_num, by rw [HR.out, show (48 + (d : Int) - 48) = (d : Int) from by omega], by first | trivial | rfl⟩
          case measure => first | (simp [intOf]; done) | (simp [intOf]; omega)
        · obtain rfl : i = k := by omega
          have hcond : (i : Int) < dp → ¬ i < n := by have h1 := HM.out; have h2 := HK.out; omega
          by_cases gd : (i : Int) < dp
          · have gn : ¬ i < n := hcond gd
            clear hcond
            go_wp2_with fail
            go_meet
            case rel => exact ⟨rfl, rfl, rfl⟩
          · clear hcond
            go_wp2_with fail
            go_meet
            case rel => exact ⟨rfl, rfl, rfl⟩
    case rest =>
      obtain ⟨rfl, rfl, rfl⟩ := hcut
      go_wp2_with fail
      go_loopw [3, 4] (fun v3 v4 wr => ∃ c : Nat, c ≤ dp.toNat - k ∧ v3 = .int .i64 ((k + c : Nat) : Int) ∧ v4 = .int .u64 (riZ (riL s.F k) c) ∧ wr = wc) (fun v3 _ _ => dp.toNat - (intOf v3).toNat)
      case atStart => exact ⟨0, Nat.zero_le _, rfl, rfl, rfl⟩
      case round =>
        obtain ⟨c, hc, rfl, rfl, rfl⟩ := hrel
        by_cases hcd : ((k + c : Nat) : Int) < dp
        · have hr : riZ (riL s.F k) (c + 1) = IntKind.u64.wrap (riZ (riL s.F k) c * 10) := rfl
          have HR := Aside0.mk hr
          clear hr
          go_wp2_with fail
          go_roundw
          case rel => exact ⟨c + 1, by omega, by go_num, by rw [HR.out], by first | trivial | rfl⟩
          case measure => first | (simp [intOf]; done) | (simp [intOf]; omega)
        · have hce : c = dp.toNat - k := by have := HK.out; omega
          have hx := HE.out
          rw [← hce] at hx
          rw [← hx]
          clear hx hce
          go_wp2_with fail
          refine CS.out.mono ?_
          rintro e w1 ⟨rfl, rfl⟩
          have hy := HY.out
          cases sb with
          | true =>
            rw [if_pos rfl] at hy
            have HYY := Aside0.mk hy
            clear hy HY
            go_wp2_with fail
            go_ret
            exact ⟨by rw [HYY.out]; rfl, rfl⟩
          | false =>
            rw [if_neg (by decide)] at hy
            have HYY := Aside0.mk hy
            clear hy HY
            go_wp2_with fail
            go_ret
            exact ⟨by rw [HYY.out]; rfl, rfl⟩
end Go.Proofs.YtlkbhmmelejmjaaGreatDoor.FltRound

/- The decimal of the slow road: floatBits as a function (plain), and that its loops end. -/
namespace Go.Proofs.YtlkbhmmelejmjaaGreatDoor.FltBitsP
open Go.RowKit Go.Proofs.YtlkbhmmelejmjaaGreatDoorW.PrintWords Go.Proofs.YtlkbhmmelejmjaaGreatDoor.NumKnown Go.Proofs.YtlkbhmmelejmjaaGreatDoor.NumPure Go.Proofs.YtlkbhmmelejmjaaGreatDoor.FltDec Go.Proofs.YtlkbhmmelejmjaaGreatDoor.FltPure Go.Proofs.YtlkbhmmelejmjaaGreatDoor.FltLeft Go.Proofs.YtlkbhmmelejmjaaGreatDoor.FltRight Go.Proofs.YtlkbhmmelejmjaaGreatDoor.FltLaw Go.Proofs.YtlkbhmmelejmjaaGreatDoor.FltState Go.Proofs.YtlkbhmmelejmjaaGreatDoor.FltShift Go.Proofs.YtlkbhmmelejmjaaGreatDoor.FltBoth Go.Proofs.YtlkbhmmelejmjaaGreatDoor.FltRound
set_option linter.unusedVariables false
set_option linter.unusedSimpArgs false

/-- The table of steps. -/
def pw (d : Nat) : Nat := ([1, 3, 6, 9, 13, 16, 19, 23, 26] : List Nat).getD d 27
theorem pw_in (d : Nat) : 1 ≤ pw d ∧ pw d ≤ 27 := by
  rcases Nat.lt_or_ge d 9 with h | h
  · have : d = 0 ∨ d = 1 ∨ d = 2 ∨ d = 3 ∨ d = 4 ∨ d = 5 ∨ d = 6 ∨ d = 7 ∨ d = 8 := by omega
    rcases this with rfl | rfl | rfl | rfl | rfl | rfl | rfl | rfl | rfl <;> decide
  · unfold pw
    rw [List.getD_eq_getElem?_getD, List.getElem?_eq_none (by simpa using h)]
    decide
theorem rsI_small {k : Nat} (h : k ≤ 60) (s : St) : rsI k k s = rs k s := by
  cases k with
  | zero => rfl
  | succ k => unfold rsI; rw [if_neg (by omega)]
def d0 (s : St) : Nat := dv s.F 0
theorem d0_in {s : St} (hs : s.Good) : 1 ≤ d0 s ∧ d0 s ≤ 9 := by
  have h1 := hs.dig.dv_eq (i := 0) hs.one
  have h2 := hs.dig.dv (i := 0) hs.one
  have h3 := hs.head
  unfold d0
  omega

def m1 (s : St) : Nat := (10 * s.dp + d0 s).toNat
def m2 (s : St) : Nat := (10 * -s.dp + 9 - d0 s).toNat
theorem rs_d0 {s : St} (hs : s.Good) {k : Nat} (h2 : k ≤ 60) : d0 (rs k s) = pv s.F s.n (r0 k s) / 2 ^ k := by
  obtain ⟨h3, h4, h5⟩ := rs_head hs h2
  show (rdig s.F s.n k (r0 k s) 0 - 48).toNat = _
  rw [h3]
  omega
theorem m1_less {s : St} (hs : s.Good) (hd : 0 < s.dp) {k : Nat} (h1 : 1 ≤ k) (h2 : k ≤ 60) : m1 (rs k s) < m1 s := by
  have hg := rs_good hs h2
  have a := d0_in hs
  have b := d0_in hg
  obtain ⟨r1, r2, r3, r4⟩ := r0_law hs h2
  have e : (rs k s).dp = s.dp - ((r0 k s : Int) - 1) := rfl
  unfold m1
  by_cases hr : r0 k s = 1
  · have h3 := rs_d0 hs h2
    rw [hr] at h3 e
    have h4 : pv s.F s.n 1 = d0 s := by rw [pv_lt hs.one, pv_zero]; unfold d0; omega
    rw [h4] at h3
    have h5 : 2 ≤ 2 ^ k := by
      calc 2 = 2 ^ 1 := rfl
        _ ≤ 2 ^ k := Nat.pow_le_pow_right (by omega) h1
    have h6 : d0 s / 2 ^ k < d0 s := Nat.div_lt_self (by omega) (by omega)
    omega
  · omega
theorem ls_dp {s : St} (hs : s.Good) {k : Nat} (h1 : 1 ≤ k) (h2 : k ≤ 60) : s.dp ≤ (ls k s).dp ∧ (ls k s).dp ≤ s.dp + 20 := by
  have := (le_law hs h1 h2).1
  show s.dp ≤ s.dp + (le k s : Int) ∧ s.dp + (le k s : Int) ≤ s.dp + 20
  omega
theorem m2_less {s : St} (hs : s.Good) (hd : s.dp < 0 ∨ (s.dp = 0 ∧ d0 s < 5)) {k : Nat} (h1 : 1 ≤ k) (h2 : k ≤ 60) : m2 (ls k s) < m2 s := by
  have hg := ls_good hs h1 h2
  have a := d0_in hs
  have b := d0_in hg
  obtain ⟨l1, l2, l3, l4⟩ := le_law hs h1 h2
  obtain ⟨h3, h4⟩ := ls_head hs h1 h2
  have e : (ls k s).dp = s.dp + (le k s : Int) := rfl
  have e0 : d0 (ls k s) = lX k s / 10 ^ (s.n + le k s - 1) := by
    show (dig (s.n + le k s) (lX k s) 0 - 48).toNat = _
    rw [h3]; omega
  unfold m2
  by_cases hr : le k s = 0
  · rw [hr] at e e0
    have hn := hs.one
    obtain ⟨N, hN⟩ : ∃ N, s.n = N + 1 := ⟨s.n - 1, by omega⟩
    have hp : 0 < 10 ^ N := Nat.pow_pos (by omega)
    have h7 : d0 s * 10 ^ N ≤ val s.F s.n := by
      have := (pv_val hs.dig 1).1
      rw [pv_lt hn, pv_zero, Nat.mul_zero, Nat.zero_add, hN, Nat.pow_succ, Nat.pow_one, ← Nat.mul_assoc] at this
      rw [hN]
      exact Nat.le_of_mul_le_mul_right this (by omega)
    have h8 : d0 s * 2 * 10 ^ N ≤ lX k s := by
      have h5 : 2 ≤ 2 ^ k := by
        calc 2 = 2 ^ 1 := rfl
          _ ≤ 2 ^ k := Nat.pow_le_pow_right (by omega) h1
      have : d0 s * 10 ^ N * 2 ≤ val s.F s.n * 2 ^ k := Nat.mul_le_mul h7 h5
      unfold lX
      rw [Nat.mul_right_comm]
      exact this
    have h9 : d0 s * 2 ≤ d0 (ls k s) := by
      rw [e0, hN, Nat.add_zero, Nat.add_sub_cancel]
      exact (Nat.le_div_iff_mul_le hp).2 h8
    omega
  · omega

/-- The loops. -/
def up : Nat → St → Int → St × Int
  | 0, s, x => (s, x)
  | f + 1, s, x => if 0 < s.dp then up f (rs (pw s.dp.toNat) s) (x + pw s.dp.toNat) else (s, x)
def dn : Nat → St → Int → St × Int
  | 0, s, x => (s, x)
  | f + 1, s, x => if s.dp < 0 ∨ (s.dp = 0 ∧ d0 s < 5) then dn f (ls (pw (-s.dp).toNat) s) (x - pw (-s.dp).toNat) else (s, x)
theorem up_end {s : St} (h : ¬ 0 < s.dp) (x : Int) : ∀ f, up f s x = (s, x)
  | 0 => rfl
  | f + 1 => by unfold up; rw [if_neg h]
theorem dn_end {s : St} (h : ¬ (s.dp < 0 ∨ (s.dp = 0 ∧ d0 s < 5))) (x : Int) : ∀ f, dn f s x = (s, x)
  | 0 => rfl
  | f + 1 => by unfold dn; rw [if_neg h]

/-- The number's bits without its sign, and whether it is too great: mantissa, exponent, overflow. -/
def s1 (s : St) : St × Int := up (m1 s) s 0
def s2 (s : St) : St × Int := dn (m2 (s1 s).1) (s1 s).1 (s1 s).2
def x3 (s : St) : Int := (s2 s).2 - 1
def s4 (s : St) : St := if x3 s < -1022 then rsI (-1022 - x3 s).toNat (-1022 - x3 s).toNat (s2 s).1 else (s2 s).1
def x4 (s : St) : Int := if x3 s < -1022 then -1022 else x3 s
def mt (s : St) : Int := ri (ls 53 (s4 s))
def mt5 (s : St) : Int := if mt s = 9007199254740992 then 4503599627370496 else mt s
def x5 (s : St) : Int := if mt s = 9007199254740992 then x4 s + 1 else x4 s
def x6 (s : St) : Int := if bits .and .u64 (mt5 s) 4503599627370496 = 0 then -1023 else x5 s
def over (s : St) : Bool := decide (310 < s.dp) || (!decide (s.dp < -330) && (decide (2047 ≤ x4 s + 1023) || (decide (mt s = 9007199254740992) && decide (2047 ≤ x5 s + 1023))))
def fM (s : St) : Int := if over s then 0 else if s.dp < -330 then 0 else mt5 s
def fX (s : St) : Int := if over s then 1024 else if s.dp < -330 then -1023 else x6 s
end Go.Proofs.YtlkbhmmelejmjaaGreatDoor.FltBitsP

/- A scope with two labels, both jumped to from before them: 1 stands before 0. -/
namespace Go.Proofs.YtlkbhmmelejmjaaGreatDoor.FltScope
open Go.RowKit

/-- As Q; a jump to label 0: J0; to label 1: J1; no other. -/
def jump2 (J0 J1 : Act → World → Prop) (Q : Exit → Act → World → Prop) : Exit → Act → World → Prop
  | .goto l, a, w => (l = 0 ∧ J0 a w) ∨ (l = 1 ∧ J1 a w)
  | e, a, w => Q e a w
def noway : Act → World → Prop := fun _ _ => False

section
variable {P : Program} {a : Act} {w : World} {Q : Exit → Act → World → Prop}
theorem wp_scope_two {c r0 r1 : Code} (J0 J1 : Act → World → Prop) (hf0 : findLabel c 0 = some r0) (hf1 : findLabel c 1 = some r1)
    (first : c.wp P (jump2 J0 J1 Q) a w) (pass1 : ∀ a w, J1 a w → r1.wp P (jump2 J0 noway Q) a w) (pass0 : ∀ a w, J0 a w → r0.wp P (jump2 noway noway Q) a w) : (Code.scope c).wp P Q a w := by
  intro b k cs
  have hg0 : gotoIn 0 (.inScope c :: k) = some (.code r0 :: .inScope c :: k) := by simp [gotoIn, hf0]
  have hg1 : gotoIn 1 (.inScope c :: k) = some (.code r1 :: .inScope c :: k) := by simp [gotoIn, hf1]
  have key0 : ∀ a w, J0 a w → ∃ e a' w', Q e a' w' ∧ Arrives P (lone (b.at a (.code r0 :: .inScope c :: k)) cs w) b k cs e a' w' := by
    intro a w hJ
    obtain ⟨e, a₁, w₁, hq, harr⟩ := pass0 a w hJ b (.inScope c :: k) cs
    cases e with
    | normal => exact ⟨.normal, a₁, w₁, hq, Steps.trans harr (.one step_inScope)⟩
    | exit id => exact ⟨.exit id, a₁, w₁, hq, fun k' hk => harr k' (by simp [exitTo, hk])⟩
    | goto l' => rcases hq with ⟨_, h⟩ | ⟨_, h⟩ <;> exact h.elim
    | ret => exact ⟨_, a₁, w₁, hq, harr⟩
    | panic ch => exact ⟨_, a₁, w₁, hq, harr⟩
    | outgrown => exact ⟨_, a₁, w₁, hq, harr⟩
  have key1 : ∀ a w, J1 a w → ∃ e a' w', Q e a' w' ∧ Arrives P (lone (b.at a (.code r1 :: .inScope c :: k)) cs w) b k cs e a' w' := by
    intro a w hJ
    obtain ⟨e, a₁, w₁, hq, harr⟩ := pass1 a w hJ b (.inScope c :: k) cs
    cases e with
    | normal => exact ⟨.normal, a₁, w₁, hq, Steps.trans harr (.one step_inScope)⟩
    | exit id => exact ⟨.exit id, a₁, w₁, hq, fun k' hk => harr k' (by simp [exitTo, hk])⟩
    | goto l' =>
      rcases hq with ⟨rfl, h⟩ | ⟨_, h⟩
      · obtain ⟨e₂, a₂, w₂, hq₂, harr₂⟩ := key0 a₁ w₁ h
        exact ⟨e₂, a₂, w₂, hq₂, .of_steps (harr _ hg0) harr₂⟩
      · exact h.elim
    | ret => exact ⟨_, a₁, w₁, hq, harr⟩
    | panic ch => exact ⟨_, a₁, w₁, hq, harr⟩
    | outgrown => exact ⟨_, a₁, w₁, hq, harr⟩
  obtain ⟨e, a₁, w₁, hq, harr⟩ := first b (.inScope c :: k) cs
  cases e with
  | normal => exact ⟨.normal, a₁, w₁, hq, .head step_scope (Steps.trans harr (.one step_inScope))⟩
  | exit id => exact ⟨.exit id, a₁, w₁, hq, fun k' hk => .head step_scope (harr k' (by simp [exitTo, hk]))⟩
  | goto l' =>
    rcases hq with ⟨rfl, h⟩ | ⟨rfl, h⟩
    · obtain ⟨e₂, a₂, w₂, hq₂, harr₂⟩ := key0 a₁ w₁ h
      exact ⟨e₂, a₂, w₂, hq₂, .of_steps (.head step_scope (harr _ hg0)) harr₂⟩
    · obtain ⟨e₂, a₂, w₂, hq₂, harr₂⟩ := key1 a₁ w₁ h
      exact ⟨e₂, a₂, w₂, hq₂, .of_steps (.head step_scope (harr _ hg1)) harr₂⟩
  | ret => exact ⟨_, a₁, w₁, hq, .of_steps (.one step_scope) harr⟩
  | panic ch => exact ⟨_, a₁, w₁, hq, .of_steps (.one step_scope) harr⟩
  | outgrown => exact ⟨_, a₁, w₁, hq, .of_steps (.one step_scope) harr⟩
theorem wp_scope_get {c : Code} (J0 J1 : Act → World → Prop) (hf0 : (findLabel c 0).isSome = true) (hf1 : (findLabel c 1).isSome = true)
    (first : c.wp P (jump2 J0 J1 Q) a w) (pass1 : ∀ a w, J1 a w → ((findLabel c 1).getD .skip).wp P (jump2 J0 noway Q) a w) (pass0 : ∀ a w, J0 a w → ((findLabel c 0).getD .skip).wp P (jump2 noway noway Q) a w) : (Code.scope c).wp P Q a w := by
  obtain ⟨r0, h0⟩ := Option.isSome_iff_exists.1 hf0
  obtain ⟨r1, h1⟩ := Option.isSome_iff_exists.1 hf1
  rw [h0] at pass0
  rw [h1] at pass1
  exact wp_scope_two J0 J1 h0 h1 first pass1 pass0
end
end Go.Proofs.YtlkbhmmelejmjaaGreatDoor.FltScope

/- The decimal of the slow road: floatBits, walked. -/
namespace Go.Proofs.YtlkbhmmelejmjaaGreatDoor.FltBits
open Go.RowKit Go.Proofs.YtlkbhmmelejmjaaGreatDoorW.PrintWords Go.Proofs.YtlkbhmmelejmjaaGreatDoor.NumKnown Go.Proofs.YtlkbhmmelejmjaaGreatDoor.NumPure Go.Proofs.YtlkbhmmelejmjaaGreatDoor.FltDec Go.Proofs.YtlkbhmmelejmjaaGreatDoor.FltPure Go.Proofs.YtlkbhmmelejmjaaGreatDoor.FltLeft Go.Proofs.YtlkbhmmelejmjaaGreatDoor.FltRight Go.Proofs.YtlkbhmmelejmjaaGreatDoor.FltLaw Go.Proofs.YtlkbhmmelejmjaaGreatDoor.FltState Go.Proofs.YtlkbhmmelejmjaaGreatDoor.FltShift Go.Proofs.YtlkbhmmelejmjaaGreatDoor.FltBoth Go.Proofs.YtlkbhmmelejmjaaGreatDoor.FltRound Go.Proofs.YtlkbhmmelejmjaaGreatDoor.FltBitsP Go.Proofs.YtlkbhmmelejmjaaGreatDoor.FltScope
set_option linter.unusedVariables false
set_option linter.unusedSimpArgs false

theorem jump2_ret {J0 J1 : Act → World → Prop} {Q : Exit → Act → World → Prop} {a : Act} {w : World} (h : Q .ret a w) : jump2 J0 J1 Q .ret a w := h
theorem jump2_zero {J0 J1 : Act → World → Prop} {Q : Exit → Act → World → Prop} {a : Act} {w : World} (h : J0 a w) : jump2 J0 J1 Q (.goto 0) a w := Or.inl ⟨rfl, h⟩
theorem jump2_one {J0 J1 : Act → World → Prop} {Q : Exit → Act → World → Prop} {a : Act} {w : World} (h : J1 a w) : jump2 J0 J1 Q (.goto 1) a w := Or.inr ⟨rfl, h⟩
/-- What a float of 64 bits is made of, below block B. -/
def FI (B G : Nat) (w : World) : Prop := G < B ∧ w.cell? ⟨G, 0, none⟩ = some (.int .u64 52) ∧ w.cell? ⟨G, 1, none⟩ = some (.int .u64 11) ∧ w.cell? ⟨G, 2, none⟩ = some (.int .i64 (-1023))
theorem FI.keep {B G p : Nat} {w w' : World} (h : FI B G w) (hb : Below p w w') (hp : B ≤ p) : FI B G w' := by
  obtain ⟨h1, h2, h3, h4⟩ := h
  exact ⟨h1, (hb.cell (p := ⟨G, 0, none⟩) (Nat.lt_of_lt_of_le h1 hp)).trans h2, (hb.cell (p := ⟨G, 1, none⟩) (Nat.lt_of_lt_of_le h1 hp)).trans h3, (hb.cell (p := ⟨G, 2, none⟩) (Nat.lt_of_lt_of_le h1 hp)).trans h4⟩
/-- The table of steps, below block B. -/
def PT (B : Nat) (w : World) : Prop := ∃ L o c, 8 < B ∧ L < B ∧ w.cell? ⟨8, 0, none⟩ = some (.slice (some ⟨L, o, none⟩) 9 c) ∧ ∀ k, k < 9 → w.cell? ⟨L, o + k, none⟩ = some (.int .i64 (pw k))
theorem PT.keep {B p : Nat} {w w' : World} (h : PT B w) (hb : Below p w w') (hp : B ≤ p) : PT B w' := by
  obtain ⟨L, o, c, h1, h2, h3, h4⟩ := h
  exact ⟨L, o, c, h1, h2, (hb.cell (p := ⟨8, 0, none⟩) (Nat.lt_of_lt_of_le h1 hp)).trans h3, fun k hk => (hb.cell (p := ⟨L, _, none⟩) (Nat.lt_of_lt_of_le h2 hp)).trans (h4 k hk)⟩

set_option maxRecDepth 100000 in
def J0 (p G B : Nat) (M X : Int) (ov : Bool) (ng : Bool) (w : World) : Act → World → Prop := fun a w' => ∃ (v4 : Value) (u : Nat → Value), a = { tmps := #[.pointer (some ⟨p, 0, none⟩), .pointer (some ⟨G, 0, none⟩), undef, undef, v4, .bool ov, .int .i64 X, .int .u64 M, u 8, u 9, u 10, u 11, u 12, u 13, u 14, u 15, u 16, u 17, u 18, u 19, u 20, u 21, u 22, u 23, u 24, u 25, u 26, u 27, u 28, u 29, u 30, u 31, u 32, u 33, u 34, u 35, u 36, u 37, u 38, u 39, u 40, u 41, u 42, u 43, u 44, u 45, u 46, u 47, u 48, u 49, u 50, u 51, u 52, u 53, u 54, u 55, u 56, u 57, u 58, u 59, u 60, u 61, u 62, u 63, u 64, u 65, u 66, u 67, u 68, u 69, u 70, u 71, u 72, u 73, u 74, u 75, u 76, u 77, u 78, u 79, u 80, u 81, u 82, u 83, u 84, u 85, u 86, u 87, u 88, u 89, u 90, u 91, u 92, u 93, u 94, u 95, u 96, u 97, u 98, u 99, u 100, u 101, u 102, u 103, u 104, u 105, u 106, u 107, u 108, u 109, u 110, u 111, u 112, u 113, u 114, u 115, u 116, u 117, u 118, u 119, u 120, u 121, u 122, u 123, u 124, u 125, u 126, u 127, u 128, u 129, u 130, u 131, u 132, u 133, u 134, u 135, u 136, u 137, u 138, u 139, u 140, u 141, u 142, u 143, u 144, u 145, u 146, u 147, u 148, u 149, u 150, u 151, u 152, u 153, u 154, u 155, u 156, u 157, u 158, u 159, u 160, u 161, u 162, u 163, u 164, u 165, u 166, u 167, u 168, u 169, u 170, u 171, u 172, u 173, u 174, u 175, u 176, u 177, u 178, u 179, u 180, u 181, u 182, u 183, u 184, u 185, u 186, u 187, u 188, u 189, u 190, u 191, u 192, u 193, u 194, u 195, u 196, u 197, u 198, u 199, u 200, u 201, u 202, u 203, u 204, u 205, u 206, u 207, u 208, u 209, u 210, u 211, u 212, u 213, u 214, u 215, u 216, u 217, u 218, u 219, u 220, u 221, u 222, u 223, u 224, u 225, u 226, u 227, u 228, u 229, u 230, u 231, u 232, u 233, u 234, u 235, u 236, u 237, u 238, u 239, u 240, u 241, u 242], defers := [] } ∧ Aside0 (w'.cell? ⟨p, 802, none⟩ = some (.bool ng) ∧ FI B G w' ∧ Below p w w')
set_option maxRecDepth 100000 in
def J1 (p G B : Nat) (s : St) (ng : Bool) (w : World) : Act → World → Prop := fun a w' => ∃ (v4 v5 v6 v7 : Value) (u : Nat → Value), a = { tmps := #[.pointer (some ⟨p, 0, none⟩), .pointer (some ⟨G, 0, none⟩), undef, undef, v4, v5, v6, v7, u 8, u 9, u 10, u 11, u 12, u 13, u 14, u 15, u 16, u 17, u 18, u 19, u 20, u 21, u 22, u 23, u 24, u 25, u 26, u 27, u 28, u 29, u 30, u 31, u 32, u 33, u 34, u 35, u 36, u 37, u 38, u 39, u 40, u 41, u 42, u 43, u 44, u 45, u 46, u 47, u 48, u 49, u 50, u 51, u 52, u 53, u 54, u 55, u 56, u 57, u 58, u 59, u 60, u 61, u 62, u 63, u 64, u 65, u 66, u 67, u 68, u 69, u 70, u 71, u 72, u 73, u 74, u 75, u 76, u 77, u 78, u 79, u 80, u 81, u 82, u 83, u 84, u 85, u 86, u 87, u 88, u 89, u 90, u 91, u 92, u 93, u 94, u 95, u 96, u 97, u 98, u 99, u 100, u 101, u 102, u 103, u 104, u 105, u 106, u 107, u 108, u 109, u 110, u 111, u 112, u 113, u 114, u 115, u 116, u 117, u 118, u 119, u 120, u 121, u 122, u 123, u 124, u 125, u 126, u 127, u 128, u 129, u 130, u 131, u 132, u 133, u 134, u 135, u 136, u 137, u 138, u 139, u 140, u 141, u 142, u 143, u 144, u 145, u 146, u 147, u 148, u 149, u 150, u 151, u 152, u 153, u 154, u 155, u 156, u 157, u 158, u 159, u 160, u 161, u 162, u 163, u 164, u 165, u 166, u 167, u 168, u 169, u 170, u 171, u 172, u 173, u 174, u 175, u 176, u 177, u 178, u 179, u 180, u 181, u 182, u 183, u 184, u 185, u 186, u 187, u 188, u 189, u 190, u 191, u 192, u 193, u 194, u 195, u 196, u 197, u 198, u 199, u 200, u 201, u 202, u 203, u 204, u 205, u 206, u 207, u 208, u 209, u 210, u 211, u 212, u 213, u 214, u 215, u 216, u 217, u 218, u 219, u 220, u 221, u 222, u 223, u 224, u 225, u 226, u 227, u 228, u 229, u 230, u 231, u 232, u 233, u 234, u 235, u 236, u 237, u 238, u 239, u 240, u 241, u 242], defers := [] } ∧ Aside0 (over s = true ∧ w'.cell? ⟨p, 802, none⟩ = some (.bool ng) ∧ FI B G w' ∧ Below p w w')

/-- The bits of mantissa M and exponent X; with the sign. -/
def outB (M X : Int) : Int := bits .or .u64 (bits .and .u64 M 4503599627370495) (IntKind.u64.wrap (IntKind.u64.wrap (bits .and .i64 (wrap64 (X + 1023)) 2047) * 4503599627370496))
def signB (ng : Bool) (b : Int) : Int := if ng then bits .or .u64 b 9223372036854775808 else b
set_option maxRecDepth 100000 in
theorem frame_of (t : Array Value) (h : t.size = 243) : ∃ u : Nat → Value, t = #[u 0, u 1, u 2, u 3, u 4, u 5, u 6, u 7, u 8, u 9, u 10, u 11, u 12, u 13, u 14, u 15, u 16, u 17, u 18, u 19, u 20, u 21, u 22, u 23, u 24, u 25, u 26, u 27, u 28, u 29, u 30, u 31, u 32, u 33, u 34, u 35, u 36, u 37, u 38, u 39, u 40, u 41, u 42, u 43, u 44, u 45, u 46, u 47, u 48, u 49, u 50, u 51, u 52, u 53, u 54, u 55, u 56, u 57, u 58, u 59, u 60, u 61, u 62, u 63, u 64, u 65, u 66, u 67, u 68, u 69, u 70, u 71, u 72, u 73, u 74, u 75, u 76, u 77, u 78, u 79, u 80, u 81, u 82, u 83, u 84, u 85, u 86, u 87, u 88, u 89, u 90, u 91, u 92, u 93, u 94, u 95, u 96, u 97, u 98, u 99, u 100, u 101, u 102, u 103, u 104, u 105, u 106, u 107, u 108, u 109, u 110, u 111, u 112, u 113, u 114, u 115, u 116, u 117, u 118, u 119, u 120, u 121, u 122, u 123, u 124, u 125, u 126, u 127, u 128, u 129, u 130, u 131, u 132, u 133, u 134, u 135, u 136, u 137, u 138, u 139, u 140, u 141, u 142, u 143, u 144, u 145, u 146, u 147, u 148, u 149, u 150, u 151, u 152, u 153, u 154, u 155, u 156, u 157, u 158, u 159, u 160, u 161, u 162, u 163, u 164, u 165, u 166, u 167, u 168, u 169, u 170, u 171, u 172, u 173, u 174, u 175, u 176, u 177, u 178, u 179, u 180, u 181, u 182, u 183, u 184, u 185, u 186, u 187, u 188, u 189, u 190, u 191, u 192, u 193, u 194, u 195, u 196, u 197, u 198, u 199, u 200, u 201, u 202, u 203, u 204, u 205, u 206, u 207, u 208, u 209, u 210, u 211, u 212, u 213, u 214, u 215, u 216, u 217, u 218, u 219, u 220, u 221, u 222, u 223, u 224, u 225, u 226, u 227, u 228, u 229, u 230, u 231, u 232, u 233, u 234, u 235, u 236, u 237, u 238, u 239, u 240, u 241, u 242] := by
  refine ⟨fun i => t.getD i undef, ?_⟩
  have e : t = ((List.range 243).map fun i => t.getD i undef).toArray := by
    apply Array.ext
    · simp [h]
    · intro i h1 h2
      simp [Array.getD, h1]
  exact e
set_option maxRecDepth 100000 in
theorem J0_of {p G B : Nat} {M X : Int} {ov : Bool} {ng : Bool} {w w' : World} {t : Array Value} (hsz : t.size = 243) (h0 : t[0]? = some (.pointer (some ⟨p, 0, none⟩))) (h1 : t[1]? = some (.pointer (some ⟨G, 0, none⟩))) (h2 : t[2]? = some undef) (h3 : t[3]? = some undef) (h5 : t[5]? = some (.bool ov)) (h6 : t[6]? = some (.int .i64 X)) (h7 : t[7]? = some (.int .u64 M)) (H : w'.cell? ⟨p, 802, none⟩ = some (.bool ng) ∧ FI B G w' ∧ Below p w w') : J0 p G B M X ov ng w { tmps := t, defers := [] } w' := by
  obtain ⟨u, rfl⟩ := frame_of t hsz
  have e0 : u 0 = .pointer (some ⟨p, 0, none⟩) := Option.some.inj h0
  have e1 : u 1 = .pointer (some ⟨G, 0, none⟩) := Option.some.inj h1
  have e2 : u 2 = undef := Option.some.inj h2
  have e3 : u 3 = undef := Option.some.inj h3
  have e5 : u 5 = .bool ov := Option.some.inj h5
  have e6 : u 6 = .int .i64 X := Option.some.inj h6
  have e7 : u 7 = .int .u64 M := Option.some.inj h7
  refine ⟨u 4, u, ?_, ⟨H⟩⟩
  rw [e0, e1, e2, e3, e5, e6, e7]
set_option maxRecDepth 100000 in
theorem J1_of {p G B : Nat} {s : St} {ng : Bool} {w w' : World} {t : Array Value} (hsz : t.size = 243) (h0 : t[0]? = some (.pointer (some ⟨p, 0, none⟩))) (h1 : t[1]? = some (.pointer (some ⟨G, 0, none⟩))) (h2 : t[2]? = some undef) (h3 : t[3]? = some undef) (H : over s = true ∧ w'.cell? ⟨p, 802, none⟩ = some (.bool ng) ∧ FI B G w' ∧ Below p w w') : J1 p G B s ng w { tmps := t, defers := [] } w' := by
  obtain ⟨u, rfl⟩ := frame_of t hsz
  have e0 : u 0 = .pointer (some ⟨p, 0, none⟩) := Option.some.inj h0
  have e1 : u 1 = .pointer (some ⟨G, 0, none⟩) := Option.some.inj h1
  have e2 : u 2 = undef := Option.some.inj h2
  have e3 : u 3 = undef := Option.some.inj h3
  refine ⟨u 4, u 5, u 6, u 7, u, ?_, ⟨H⟩⟩
  rw [e0, e1, e2, e3]

theorem rsI_law : ∀ (f m : Nat) (s : St), s.Good → m ≤ f → (rsI f m s).Good ∧ s.dp - 19 * ((m / 60 : Nat) + 1 : Int) ≤ (rsI f m s).dp ∧ (rsI f m s).dp ≤ s.dp
  | 0, m, s, hs, h => by
    obtain rfl : m = 0 := by omega
    have := rs_dp hs (k := 0) (by omega)
    exact ⟨rs_good hs (by omega), by show s.dp - 19 * ((0 / 60 : Nat) + 1 : Int) ≤ (rs 0 s).dp; omega, this.2⟩
  | f + 1, m, s, hs, h => by
    unfold rsI
    split
    · next g =>
      have := rs_dp hs (k := 60) (by omega)
      obtain ⟨q1, q2, q3⟩ := rsI_law f (m - 60) (rs 60 s) (rs_good hs (by omega)) (by omega)
      refine ⟨q1, ?_, by omega⟩
      have e : m / 60 = (m - 60) / 60 + 1 := by omega
      omega
    · next g =>
      have := rs_dp hs (k := m) (by omega)
      exact ⟨rs_good hs (by omega), by omega, this.2⟩
theorem At_drewN {s : St} {p : Nat} {ng : Bool} {w : World} (h : s.At p ng w) (n : Nat) : s.At p ng (w.drewN n) := by
  obtain ⟨g, hD, hg⟩ := h
  exact ⟨g, hD.drewN n, hg⟩
theorem At_ng {s : St} {p : Nat} {ng : Bool} {w : World} (h : s.At p ng w) : w.cell? ⟨p, 802, none⟩ = some (.bool ng) := by
  obtain ⟨g, hD, _⟩ := h
  exact hD.ng

def BitsP (p : Nat) (s : St) (ng : Bool) (w : World) (e : Ending) (w' : World) : Prop := e = .returned (.tuple #[.int .u64 (signB ng (outB (fM s) (fX s))), .bool (over s)]) ∧ Below p w w'

set_option maxHeartbeats 16000000 in
set_option maxRecDepth 100000 in
theorem bits_walk (p G B : Nat) (ng : Bool) (s : St) (hs : s.Good) (hB : B ≤ p) (w : World) (ha : s.At p ng w) (hF : FI B G w) (hP : PT B w) (hT : LTb B w) : Calls Tryz.prog 133 #[.pointer (some ⟨p, 0, none⟩), .pointer (some ⟨G, 0, none⟩)] w (BitsP p s ng w) := by
  go_enter Tryz.func133, Tryz.ntmps133
  go_wp2_with fail
  refine wp_scope_get (J0 p G B (fM s) (fX s) (over s) ng w) (J1 p G B s ng w) (by rfl) (by rfl) ?first ?pass1 ?pass0
  case pass0 =>
    clear ha hF hP hT hs
    rintro a w' ⟨v4, u, rfl, HH⟩
    have hng := HH.out.1
    obtain ⟨_, hf0, hf1, hf2⟩ := HH.out.2.1
    have hbel := HH.out.2.2
    unfold BitsP
    generalize fM s = M
    generalize fX s = X
    generalize over s = ov
    have e0 : outB M X = bits .or .u64 (bits .and .u64 M 4503599627370495) (IntKind.u64.wrap (IntKind.u64.wrap (bits .and .i64 (wrap64 (X + 1023)) 2047) * 4503599627370496)) := rfl
    replace e0 := Aside0.mk e0
    simp only [findLabel, Option.getD, reduceCtorEq, if_true, if_false, Nat.reduceBEq, beq_self_eq_true]
    cases ng with
    | true =>
      go_wp2_with fail
      go_quiet (fail)
      go_wp2_with fail
      go_quiet (fail)
      go_wp2_with fail
      refine jump2_ret ?_
      go_ret2
      · exact ⟨rfl, Below.drewN (Below.drewN hbel _) _⟩
    | false =>
      go_wp2_with fail
      go_quiet (fail)
      go_wp2_with fail
      refine jump2_ret ?_
      go_ret2
      · exact ⟨rfl, Below.drewN hbel _⟩
  case pass1 =>
    clear ha hF hP hT hs
    rintro a w' ⟨v4, v5, v6, v7, u, rfl, HH⟩
    have hng := HH.out.2.1
    have hov := HH.out.1
    obtain ⟨_, hf0, hf1, hf2⟩ := HH.out.2.2.1
    have hbel := HH.out.2.2.2
    have eM : fM s = 0 := by unfold fM; rw [if_pos hov]
    have eX : fX s = 1024 := by unfold fX; rw [if_pos hov]
    unfold BitsP
    rw [eM, eX, hov]
    clear eM eX hov
    simp only [findLabel, Option.getD, reduceCtorEq, if_true, if_false, Nat.reduceBEq, beq_self_eq_true]
    cases ng with
    | true =>
      go_wp2_with fail
      go_quiet (fail)
      go_wp2_with fail
      go_step3
      go_wp2_with fail
      go_quiet (fail)
      go_wp2_with fail
      go_quiet (fail)
      go_wp2_with fail
      refine jump2_ret ?_
      go_ret2
      · exact ⟨by kernel_rfl, Below.drewN (Below.drewN hbel _) _⟩
    | false =>
      go_wp2_with fail
      go_quiet (fail)
      go_wp2_with fail
      go_step3
      go_wp2_with fail
      go_quiet (fail)
      go_wp2_with fail
      refine jump2_ret ?_
      go_ret2
      · exact ⟨by kernel_rfl, Below.drewN hbel _⟩
  case first =>
    have hone := hs.one
    have hn0 : ((s.n : Int) == 0) = false := by rw [beq_eq_false_iff_ne]; omega
    have hnd := At_nd ha
    have hdp := At_dp ha
    have hng := At_ng ha
    obtain ⟨_, hf0, hf1, hf2⟩ := id hF
    by_cases h310 : 310 < s.dp
    · have hov : over s = true := by unfold over; simp [h310]
      replace hov := Aside0.mk hov
      go_wp2_with fail
      go_step3
      refine Or.inr ⟨rfl, J1_of rfl rfl rfl rfl rfl ⟨hov.out, hng, hF, Below.refl _ _⟩⟩
    by_cases h330 : s.dp < -330
    · have hov : over s = false := by unfold over; simp [h310, h330]
      have hM : fM s = 0 := by unfold fM; rw [hov]; simp [h330]
      have hX : fX s = -1023 := by unfold fX; rw [hov]; simp [h330]
      have HV := Aside0.mk (And.intro hov (And.intro hM hX))
      clear hov hM hX
      go_wp2_with fail
      go_step3
      refine Or.inl ⟨rfl, J0_of rfl rfl rfl rfl rfl ?_ ?_ ?_ ⟨hng, hF, Below.refl _ _⟩⟩
      · rw [HV.out.1]; rfl
      · rw [HV.out.2.2]; rfl
      · rw [HV.out.2.1]; rfl
    have HS := Aside0.mk (And.intro hs (And.intro ha (And.intro hF (And.intro hP hT))))
    have hdm : m1 s ≤ 3109 := by have := (d0_in hs).2; unfold m1; omega
    have HD := Aside0.mk (And.intro h310 (And.intro h330 hdm))
    go_upto_block 0 with (fail)
    clear hs ha hF hP hT hn0 hnd hdp hng hf0 hf1 hf2 hone h310 h330 hdm
    go_cut [6] (fun v6 wc => ∃ (t : St) (x : Int), v6 = .int .i64 x ∧ Aside0 (s1 s = (t, x) ∧ t.Good ∧ -330 ≤ t.dp ∧ t.dp ≤ 0 ∧ 0 ≤ x ∧ x ≤ 90000 ∧ t.At p ng wc ∧ Below p w wc))
    case first =>
      go_wp2_with fail
      go_loopg [6] (m1 s) (fun kq v6 wx => ∃ (t : St) (x : Int), v6 = .int .i64 x ∧ Aside0 (t.Good ∧ -330 ≤ t.dp ∧ t.dp ≤ 310 ∧ m1 t ≤ kq ∧ 0 ≤ x ∧ x + 27 * kq ≤ 90000 ∧ up kq t x = s1 s ∧ t.At p ng wx ∧ Below p w wx))
      case atStart =>
        have := HD.out
        exact ⟨s, 0, rfl, ⟨HS.out.1, by omega, by omega, Nat.le_refl _, Int.le_refl _, by omega, rfl, HS.out.2.1, Below.refl _ _⟩⟩
      case round =>
        obtain ⟨t, x, rfl, HL⟩ := hrel
        obtain ⟨L, o, c, hL0, hL1, hL2, hL3⟩ := HS.out.2.2.2.1.keep HL.out.2.2.2.2.2.2.2.2 hB
        have hdp := At_dp HL.out.2.2.2.2.2.2.2.1
        have hx0 : 0 ≤ x := HL.out.2.2.2.2.1
        have hx1 : x ≤ 90000 := by have := HL.out.2.2.2.2.2.1; omega
        by_cases g0 : 0 < t.dp
        · obtain ⟨d, hd⟩ : ∃ d : Nat, (d : Int) = t.dp := ⟨t.dp.toNat, by omega⟩
          rw [← hd] at hdp
          have hdt : t.dp.toNat = d := by omega
          have gd : 0 < d := by omega
          have hd310 : d ≤ 310 := by have := HL.out.2.2.1; omega
          cases gk with
          | zero => exact absurd HL.out.2.2.2.1 (by unfold m1; omega)
          | succ k1 =>
          have C0 := fun n h1 h2 q => shiftR_walk p n ng t HL.out.1 h1 h2 (by omega) (by omega) (wr.drewN q) (At_drewN HL.out.2.2.2.2.2.2.2.1 q)
          have HE := Aside0.mk (And.intro hd hdt)
          clear hd hdt g0
          by_cases g9 : 9 ≤ d
          · have C := Aside0.mk (C0 27 (by omega) (by omega))
            have hp27 : pw d = 27 := by
              unfold pw
              rw [List.getD_eq_getElem?_getD, List.getElem?_eq_none (by simpa using g9)]
              rfl
            replace hp27 := Aside0.mk hp27
            clear hL3 C0
            go_wp2_with fail
            go_quiet (fail)
            go_wp2_with fail
            refine (C.out _).mono ?_
            rintro e w1 ⟨rfl, hat, hb⟩
            have HAT := Aside0.mk hat
            have HB := Aside0.mk hb
            clear hat hb
            go_wp2_with fail
            go_roundg k1
            case rel =>
              obtain ⟨q1, q2, q3, q4, q5, q6, q7, q8, q9⟩ := HL.out
              obtain ⟨r1, r2⟩ := HE.out
              have hr := rs_dp q1 (k := pw d) (by have := pw_in d; omega)
              have hl := m1_less q1 (k := pw d) (by omega) (pw_in _).1 (by have := pw_in d; omega)
              have hp := pw_in d
              have hq := hp27.out
              refine ⟨rs (pw d) t, x + (pw d : Nat), ?_, ⟨rs_good q1 (by omega), by omega, by omega, by omega, by omega, by omega, ?_, ?_, (Below.drewN q9 _).trans HB.out⟩⟩
              · first | (rw [hq]; done) | (rw [hq]; rfl)
              · rw [← q7]
                conv => rhs; unfold up
                rw [if_pos (by omega), r2]
              · rw [hq]
                have := HAT.out
                rwa [rsI_small (by omega)] at this
            case measure => exact Nat.lt_succ_self _
          · have hc := hL3 d (by omega)
            obtain ⟨n, hn⟩ : ∃ n : Nat, n = pw d := ⟨_, rfl⟩
            rw [← hn] at hc
            have hn1 : 1 ≤ n := by have := pw_in d; omega
            have hn2 : n ≤ 27 := by have := pw_in d; omega
            have C := Aside0.mk (C0 n (by omega) (by omega))
            have hp27 := Aside0.mk hn.symm
            clear hL3 C0 hn
            have a1 : wrap64 (-(n : Int)) = -(n : Int) := by unfold wrap64; omega
            go_wp2_with fail
            go_quiet (fail)
            go_wp2_with fail
            go_quiet (fail)
            go_wp2_with fail
            refine (C.out _).mono ?_
            rintro e w1 ⟨rfl, hat, hb⟩
            have HAT := Aside0.mk hat
            have HB := Aside0.mk hb
            clear hat hb
            go_wp2_with fail
            go_roundg k1
            case rel =>
              obtain ⟨q1, q2, q3, q4, q5, q6, q7, q8, q9⟩ := HL.out
              obtain ⟨r1, r2⟩ := HE.out
              have hr := rs_dp q1 (k := pw d) (by have := pw_in d; omega)
              have hl := m1_less q1 (k := pw d) (by omega) (pw_in _).1 (by have := pw_in d; omega)
              have hp := pw_in d
              have hq := hp27.out
              refine ⟨rs (pw d) t, x + (pw d : Nat), ?_, ⟨rs_good q1 (by omega), by omega, by omega, by omega, by omega, by omega, ?_, ?_, (Below.drewN q9 _).trans HB.out⟩⟩
              · first | (rw [hq]; done) | (rw [hq]; rfl)
              · rw [← q7]
                conv => rhs; unfold up
                rw [if_pos (by omega), r2]
              · rw [hq]
                have := HAT.out
                rwa [rsI_small (by omega)] at this
            case measure => exact Nat.lt_succ_self _
        · go_wp2_with fail
          go_meet
          case rel =>
            obtain ⟨q1, q2, q3, q4, q5, q6, q7, q8, q9⟩ := HL.out
            refine ⟨t, x, rfl, ⟨?_, q1, q2, by omega, q5, by omega, q8, q9⟩⟩
            rw [← q7, up_end (by omega)]
    case rest =>
      obtain ⟨t, x, rfl, HT⟩ := hcut
      have hdm : m2 t ≤ 3309 := by have := d0_in HT.out.2.1; have := HT.out.2.2.1; unfold m2; omega
      replace hdm := Aside0.mk hdm
      go_upto_block 2 with (fail)
      go_cut [6] from 61 to 102 (fun v6 wd => ∃ (t : St) (x : Int), v6 = .int .i64 x ∧ Aside0 (s2 s = (t, x) ∧ t.Good ∧ -330 ≤ t.dp ∧ t.dp ≤ 20 ∧ -100000 ≤ x ∧ x ≤ 90000 ∧ t.At p ng wd ∧ Below p w wd))
      case first =>
        go_wp2_with fail
        go_loopg [6] (m2 t) (fun kq v6 wx => ∃ (t' : St) (x' : Int), v6 = .int .i64 x' ∧ Aside0 (t'.Good ∧ -330 ≤ t'.dp ∧ t'.dp ≤ 20 ∧ m2 t' ≤ kq ∧ x' ≤ 90000 ∧ -100000 + 27 * kq ≤ x' ∧ dn kq t' x' = s2 s ∧ t'.At p ng wx ∧ Below p w wx))
        case atStart =>
          obtain ⟨q1, q2, q3, q4, q5, q6, q7, q8⟩ := HT.out
          have := hdm.out
          refine ⟨t, x, rfl, ⟨q2, q3, by omega, Nat.le_refl _, by omega, by omega, ?_, q7, q8⟩⟩
          unfold s2
          rw [q1]
        case round =>
          obtain ⟨t', x', rfl, HL⟩ := hrel
          have hFw := HS.out.2.2.2.2.keep HL.out.2.2.2.2.2.2.2.2 hB
          obtain ⟨L, o, c, hL0, hL1, hL2, hL3⟩ := HS.out.2.2.2.1.keep HL.out.2.2.2.2.2.2.2.2 hB
          have hdp := At_dp HL.out.2.2.2.2.2.2.2.1
          have hx0 : -100000 ≤ x' := by have := HL.out.2.2.2.2.2.1; omega
          have hx1 : x' ≤ 90000 := HL.out.2.2.2.2.1
          have C0 := fun n h1 h2 q => shiftL_walk p n ng t' HL.out.1 h1 h2 (by have := HL.out.2.1; omega) (by have := HL.out.2.2.1; omega) (wr.drewN q) (At_drewN HL.out.2.2.2.2.2.2.2.1 q) ((hFw.keep (Below.drewN (Below.refl p wr) q) hB).tab)
          have HFW := Aside0.mk hFw
          clear hFw
          have hc0 := At_dig HL.out.1 HL.out.2.2.2.2.2.2.2.1 0 HL.out.1.one
          have hd0 : dv t'.F 0 = d0 t' := rfl
          rw [hd0] at hc0
          obtain ⟨D0, hD0⟩ : ∃ D0, D0 = d0 t' := ⟨_, rfl⟩
          rw [← hD0] at hc0
          clear hd0
          by_cases g0 : t'.dp < 0
          · obtain ⟨d, hd⟩ : ∃ d : Nat, t'.dp = -(d : Int) := ⟨(-t'.dp).toNat, by omega⟩
            rw [hd] at hdp
            have hdt : (-t'.dp).toNat = d := by omega
            have gd : 0 < d := by omega
            have hd330 : d ≤ 330 := by have := HL.out.2.1; omega
            cases gk with
            | zero => exact absurd HL.out.2.2.2.1 (by have := d0_in HL.out.1; unfold m2; omega)
            | succ k1 =>
            have HE := Aside0.mk (And.intro hd (And.intro hdt (Or.inl g0 : t'.dp < 0 ∨ (t'.dp = 0 ∧ d0 t' < 5))))
            have H0 := Aside0.mk hD0
            clear hd hdt g0 hD0
            have a2 : wrap64 (d : Int) = (d : Int) := by unfold wrap64; omega
            by_cases g9 : 9 ≤ d
            · have C := Aside0.mk (C0 27 (by omega) (by omega))
              have hp27 : pw d = 27 := by
                unfold pw
                rw [List.getD_eq_getElem?_getD, List.getElem?_eq_none (by simpa using g9)]
                rfl
              replace hp27 := Aside0.mk hp27
              clear hL3 C0
              go_wp2_with fail
              go_quiet (fail)
              go_wp2_with fail
              refine (C.out _).mono ?_
              rintro e w1 ⟨rfl, hat, hb⟩
              have HAT := Aside0.mk hat
              have HB := Aside0.mk hb
              clear hat hb
              go_wp2_with fail
              go_roundg k1
              case rel =>
                obtain ⟨q1, q2, q3, q4, q5, q6, q7, q8, q9⟩ := HL.out
                obtain ⟨r1, r2, r3⟩ := HE.out
                have hr := ls_dp q1 (k := pw d) (pw_in _).1 (by have := pw_in d; omega)
                have hl := m2_less q1 r3 (k := pw d) (pw_in _).1 (by have := pw_in d; omega)
                have hp := pw_in d
                have hq := hp27.out
                have h20 : (ls (pw d) t').dp ≤ 20 := by omega
                refine ⟨ls (pw d) t', x' - (pw d : Nat), ?_, ⟨ls_good q1 (by omega) (by omega), by omega, h20, by omega, by omega, by omega, ?_, ?_, (Below.drewN q9 _).trans HB.out⟩⟩
                · first | (rw [hq]; done) | (rw [hq]; rfl)
                · rw [← q7]
                  conv => rhs; unfold dn
                  rw [if_pos r3, r2]
                · rw [hq]
                  exact HAT.out
              case measure => exact Nat.lt_succ_self _
            · have hc := hL3 d (by omega)
              obtain ⟨n, hn⟩ : ∃ n : Nat, n = pw d := ⟨_, rfl⟩
              rw [← hn] at hc
              have hn1 : 1 ≤ n := by have := pw_in d; omega
              have hn2 : n ≤ 27 := by have := pw_in d; omega
              have C := Aside0.mk (C0 n (by omega) (by omega))
              have hp27 := Aside0.mk hn.symm
              clear hL3 C0 hn
              go_wp2_with fail
              go_quiet (fail)
              go_wp2_with fail
              go_quiet (fail)
              go_wp2_with fail
              refine (C.out _).mono ?_
              rintro e w1 ⟨rfl, hat, hb⟩
              have HAT := Aside0.mk hat
              have HB := Aside0.mk hb
              clear hat hb
              go_wp2_with fail
              go_roundg k1
              case rel =>
                obtain ⟨q1, q2, q3, q4, q5, q6, q7, q8, q9⟩ := HL.out
                obtain ⟨r1, r2, r3⟩ := HE.out
                have hr := ls_dp q1 (k := pw d) (pw_in _).1 (by have := pw_in d; omega)
                have hl := m2_less q1 r3 (k := pw d) (pw_in _).1 (by have := pw_in d; omega)
                have hp := pw_in d
                have hq := hp27.out
                have h20 : (ls (pw d) t').dp ≤ 20 := by omega
                refine ⟨ls (pw d) t', x' - (pw d : Nat), ?_, ⟨ls_good q1 (by omega) (by omega), by omega, h20, by omega, by omega, by omega, ?_, ?_, (Below.drewN q9 _).trans HB.out⟩⟩
                · first | (rw [hq]; done) | (rw [hq]; rfl)
                · rw [← q7]
                  conv => rhs; unfold dn
                  rw [if_pos r3, r2]
                · rw [hq]
                  exact HAT.out
              case measure => exact Nat.lt_succ_self _
          · by_cases g5 : t'.dp = 0 ∧ D0 < 5
            · obtain ⟨d, hd⟩ : ∃ d : Nat, d = 0 := ⟨0, rfl⟩
              rw [g5.1] at hdp
              have g50 := g5.2
              cases gk with
              | zero => exact absurd HL.out.2.2.2.1 (by have := d0_in HL.out.1; have := g5.1; unfold m2; omega)
              | succ k1 =>
              have HE := Aside0.mk (And.intro (show t'.dp = -(d : Int) by rw [g5.1, hd]; rfl) (And.intro (show (-t'.dp).toNat = d by rw [g5.1, hd]; rfl) (Or.inr ⟨g5.1, by omega⟩ : t'.dp < 0 ∨ (t'.dp = 0 ∧ d0 t' < 5))))
              have H0 := Aside0.mk hD0
              have hp27 : pw d = 1 := by rw [hd]; rfl
              have hc := hL3 0 (by omega)
              have hc1 : pw 0 = 1 := rfl
              rw [hc1, Nat.add_zero] at hc
              have C := Aside0.mk (C0 1 (by omega) (by omega))
              replace hp27 := Aside0.mk hp27
              clear hL3 C0 g5 g0 hc1 hD0 hd
              go_wp2_with fail
              go_quiet (fail)
              go_wp2_with fail
              go_quiet (fail)
              go_wp2_with fail
              refine (C.out _).mono ?_
              rintro e w1 ⟨rfl, hat, hb⟩
              have HAT := Aside0.mk hat
              have HB := Aside0.mk hb
              clear hat hb
              go_wp2_with fail
              go_roundg k1
              case rel =>
                obtain ⟨q1, q2, q3, q4, q5, q6, q7, q8, q9⟩ := HL.out
                obtain ⟨r1, r2, r3⟩ := HE.out
                have hr := ls_dp q1 (k := pw d) (pw_in _).1 (by have := pw_in d; omega)
                have hl := m2_less q1 r3 (k := pw d) (pw_in _).1 (by have := pw_in d; omega)
                have hp := pw_in d
                have hq := hp27.out
                have h20 : (ls (pw d) t').dp ≤ 20 := by omega
                refine ⟨ls (pw d) t', x' - (pw d : Nat), ?_, ⟨ls_good q1 (by omega) (by omega), by omega, h20, by omega, by omega, by omega, ?_, ?_, (Below.drewN q9 _).trans HB.out⟩⟩
                · first | (rw [hq]; done) | (rw [hq]; rfl)
                · rw [← q7]
                  conv => rhs; unfold dn
                  rw [if_pos r3, r2]
                · rw [hq]
                  exact HAT.out
              case measure => exact Nat.lt_succ_self _
            · have HG := Aside0.mk (And.intro g0 (And.intro g5 hD0))
              have gex : ¬ (t'.dp < 0 ∨ (t'.dp = 0 ∧ d0 t' < 5)) := by omega
              have hrel : dn gk t' x' = (t', x') := dn_end gex x' gk
              have hfin : s2 s = (t', x') := by rw [← HL.out.2.2.2.2.2.2.1, hrel]
              replace hfin := Aside0.mk hfin
              clear gex hrel
              by_cases g1 : t'.dp = 0
              · have g6 : 5 ≤ D0 := by omega
                rw [g1] at hdp
                have G1 := Aside0.mk g1
                clear g0 g5 g1 hD0 C0 hL3
                go_wp2_with fail
                go_meet
                case rel =>
                  obtain ⟨q1, q2, q3, q4, q5, q6, q7, q8, q9⟩ := HL.out
                  exact ⟨t', x', rfl, ⟨hfin.out, q1, q2, q3, by omega, q5, q8, q9⟩⟩
              · have g6 : 0 < t'.dp := by omega
                clear g0 g5 hD0 C0 hL3
                go_wp2_with fail
                go_meet
                case rel =>
                  obtain ⟨q1, q2, q3, q4, q5, q6, q7, q8, q9⟩ := HL.out
                  exact ⟨t', x', rfl, ⟨hfin.out, q1, q2, q3, by omega, q5, q8, q9⟩⟩
      case rest =>
        obtain ⟨t2, x2, rfl, HT2⟩ := hcut
        obtain ⟨_, hf0, hf1, hf2⟩ := HS.out.2.2.1.keep HT2.out.2.2.2.2.2.2.2 hB
        have hx0 : -100000 ≤ x2 := HT2.out.2.2.2.2.1
        have hx1 : x2 ≤ 90000 := HT2.out.2.2.2.2.2.1
        obtain ⟨y, hy⟩ : ∃ y, y = x2 - 1 := ⟨_, rfl⟩
        have a1 : wrap64 (x2 - 1) = y := by unfold wrap64; omega
        have hy0 : -100001 ≤ y := by omega
        have hy1 : y ≤ 90000 := by omega
        have hx3 : x3 s = y := by unfold x3; rw [HT2.out.1]; exact hy.symm
        replace hy := Aside0.mk hy
        replace hx3 := Aside0.mk hx3
        clear hx0 hx1
        have HF := HS.out.2.2.1
        go_upto_if 111 with (fail)
        go_cut [6] (fun v6 we => v6 = .int .i64 (x4 s) ∧ Aside0 ((s4 s).At p ng we ∧ Below p w we))
        case first =>
          by_cases g : y < -1022
          · obtain ⟨n, hn⟩ : ∃ n : Nat, (n : Int) = -1022 - y := ⟨(-1022 - y).toNat, by omega⟩
            have C0 := shiftR_walk p n ng t2 HT2.out.2.1 (by omega) (by omega) (by have := HT2.out.2.2.1; omega) (by have := HT2.out.2.2.2.1; omega) _ HT2.out.2.2.2.2.2.2.1
            rw [hn] at C0
            have C := Aside0.mk C0
            clear C0
            have HN := Aside0.mk (And.intro hn g)
            clear hn
            go_wp2_with fail
            refine C.out.mono ?_
            rintro e w1 ⟨rfl, hat, hb⟩
            have HAT := Aside0.mk hat
            have HB := Aside0.mk hb
            clear hat hb
            go_wp2_with fail
            go_meet
            case rel =>
              obtain ⟨n1, n2⟩ := HN.out
              refine ⟨?_, ⟨?_, HT2.out.2.2.2.2.2.2.2.trans HB.out⟩⟩
              · unfold x4; rw [hx3.out, if_pos n2]; exact congrArg _ (by omega)
              · unfold s4; rw [hx3.out, if_pos n2, HT2.out.1, show (-1022 - y).toNat = n from by omega]; exact HAT.out
          · have HN := Aside0.mk g
            go_wp2_with fail
            go_meet
            case rel =>
              refine ⟨?_, ⟨?_, HT2.out.2.2.2.2.2.2.2⟩⟩
              · unfold x4; rw [hx3.out, if_neg (by have := HN.out; omega)]
              · unfold s4; rw [hx3.out, if_neg (by have := HN.out; omega), HT2.out.1]; exact HT2.out.2.2.2.2.2.2.1
        case rest =>
          obtain ⟨rfl, HW⟩ := hcut
          have hs4 : (s4 s).Good ∧ -1000000 ≤ (s4 s).dp ∧ (s4 s).dp ≤ 1000000 := by
            have b1 := HT2.out.2.2.1
            have b2 := HT2.out.2.2.2.1
            unfold s4
            rw [hx3.out, HT2.out.1]
            split
            · have hL := rsI_law (-1022 - y).toNat (-1022 - y).toNat t2 HT2.out.2.1 (Nat.le_refl _)
              exact ⟨hL.1, by have := hL.2.1; show _ ≤ (rsI _ _ t2).dp; omega, by have := hL.2.2; show (rsI _ _ t2).dp ≤ _; omega⟩
            · exact ⟨HT2.out.2.1, by show _ ≤ t2.dp; omega, by show t2.dp ≤ _; omega⟩
          have hz : -1022 ≤ x4 s ∧ x4 s ≤ 90000 := by
            unfold x4
            rw [hx3.out]
            split <;> omega
          clear hf0 hf1 hf2 a1 hy0 hy1
          obtain ⟨_, hf0, hf1, hf2⟩ := HF.keep HW.out.2 hB
          have HFI := Aside0.mk (HF.keep HW.out.2 hB)
          have C := Aside0.mk fun q => shiftL_walk p 53 ng (s4 s) hs4.1 (by omega) (by omega) hs4.2.1 hs4.2.2 (World.drewN _ q) (At_drewN HW.out.1 q) ((HS.out.2.2.2.2.keep (Below.drewN HW.out.2 q) hB).tab)
          have hg53 : (ls 53 (s4 s)).Good := ls_good hs4.1 (by omega) (by omega)
          have C2 := Aside0.mk fun W hW => ri_walk p ng (ls 53 (s4 s)) hg53 W hW
          have hmt : ri (ls 53 (s4 s)) = mt s := rfl
          rw [hmt] at C2
          clear hmt hs4 hg53
          have hx5 : mt s = 9007199254740992 → x5 s = x4 s + 1 := fun h => by unfold x5; rw [if_pos h]
          have hx5n : mt s ≠ 9007199254740992 → x5 s = x4 s := fun h => by unfold x5; rw [if_neg h]
          have hm5 : mt s = 9007199254740992 → mt5 s = 4503599627370496 := fun h => by unfold mt5; rw [if_pos h]
          have hm5n : mt s ≠ 9007199254740992 → mt5 s = mt s := fun h => by unfold mt5; rw [if_neg h]
          have hov : over s = (decide (2047 ≤ x4 s + 1023) || (decide (mt s = 9007199254740992) && decide (2047 ≤ x5 s + 1023))) := by
            unfold over
            rw [decide_eq_false HD.out.1, decide_eq_false HD.out.2.1]
            rfl
          have hfm : over s = false → fM s = mt5 s := fun h => by
            unfold fM
            rw [h, if_neg (by decide), if_neg HD.out.2.1]
          have hfx : over s = false → fX s = x6 s := fun h => by
            unfold fX
            rw [h, if_neg (by decide), if_neg HD.out.2.1]
          have hx6 : x6 s = if bits .and .u64 (mt5 s) 4503599627370496 = 0 then -1023 else x5 s := rfl
          have HM := Aside0.mk (And.intro hx5 (And.intro hx5n (And.intro hm5 (And.intro hm5n (And.intro hov (And.intro hfm (And.intro hfx hx6)))))))
          clear hx5 hx5n hm5 hm5n hov hfm hfx hx6
          obtain ⟨z, hzz⟩ : ∃ z, z = x4 s := ⟨_, rfl⟩
          rw [← hzz] at hz ⊢
          obtain ⟨hz0, hz1⟩ := hz
          replace hzz := Aside0.mk hzz
          by_cases g1 : 2047 ≤ z + 1023
          · have g2 : 1024 ≤ z := by omega
            have HG := Aside0.mk g1
            go_wp2_with fail
            go_quiet (fail)
            go_wp2_with fail
            go_step3
            refine Or.inr ⟨rfl, J1_of rfl rfl rfl rfl rfl ⟨?_, ?_, HFI.out.keep (Below.drewN (Below.refl p _) _) hB, Below.drewN HW.out.2 _⟩⟩
            · rw [HM.out.2.2.2.2.1, ← hzz.out, decide_eq_true (show 2047 ≤ z + 1023 by have := HG.out; omega)]; rfl
            · exact At_ng (At_drewN HW.out.1 _)
          · have g2 : z < 1024 := by omega
            have HG := Aside0.mk g1
            clear g1
            go_wp2_with fail
            go_quiet (fail)
            go_wp2_with fail
            refine (C.out _).mono ?_
            rintro e w1 ⟨rfl, hat, hb⟩
            have HAT := Aside0.mk hat
            have HB := Aside0.mk ((Below.drewN HW.out.2 _).trans hb)
            have hFI := HF.keep HB.out hB
            obtain ⟨_, hg0, hg1, hg2⟩ := id hFI
            clear hat hb
            go_wp2_with fail
            refine (C2.out _ HAT.out).mono ?_
            rintro e w2 ⟨rfl, rfl⟩
            obtain ⟨M, hM⟩ : ∃ M, M = mt s := ⟨_, rfl⟩
            rw [← hM]
            by_cases gM : M = 9007199254740992
            · subst gM
              replace hM := Aside0.mk hM
              by_cases g3 : 2047 ≤ z + 1 + 1023
              · have g4 : 1023 ≤ z := by omega
                have HG3 := Aside0.mk g3
                go_wp2_with fail
                go_quiet (fail)
                go_wp2_with fail
                go_step3
                refine Or.inr ⟨rfl, J1_of rfl rfl rfl rfl rfl ⟨?_, ?_, hFI.keep (Below.drewN (Below.refl p _) _) hB, Below.drewN HB.out _⟩⟩
                · rw [HM.out.2.2.2.2.1, HM.out.1 hM.out.symm, ← hzz.out, decide_eq_true hM.out.symm, decide_eq_true (show 2047 ≤ z + 1 + 1023 by have := HG3.out; omega)]; simp
                · exact At_ng (At_drewN HAT.out _)
              · have g4 : z < 1023 := by omega
                have HG3 := Aside0.mk g3
                clear g3
                have hovF : over s = false := by
                  rw [HM.out.2.2.2.2.1, HM.out.1 hM.out.symm, ← hzz.out, decide_eq_false (show ¬ 2047 ≤ z + 1 + 1023 by have := HG3.out; omega), decide_eq_false (show ¬ 2047 ≤ z + 1023 by have := HG.out; omega)]; simp
                have hA : ¬ bits .and .u64 4503599627370496 4503599627370496 = 0 := by decide +kernel
                have HO := Aside0.mk (And.intro hovF hA)
                clear hovF hA
                go_wp2_with fail
                go_quiet (fail)
                go_wp2_with fail
                go_step3
                refine Or.inl ⟨rfl, J0_of rfl rfl rfl rfl rfl ?_ ?_ ?_ ⟨At_ng (At_drewN HAT.out _), hFI.keep (Below.drewN (Below.refl p _) _) hB, Below.drewN HB.out _⟩⟩
                · rw [HO.out.1]; rfl
                · rw [HM.out.2.2.2.2.2.2.1 HO.out.1, HM.out.2.2.2.2.2.2.2, HM.out.2.2.1 hM.out.symm, if_neg HO.out.2, HM.out.1 hM.out.symm, ← hzz.out]; rfl
                · rw [HM.out.2.2.2.2.2.1 HO.out.1, HM.out.2.2.1 hM.out.symm]; rfl
            · have hMn : mt s ≠ 9007199254740992 := fun h => gM (hM.trans h)
              replace hM := Aside0.mk hM
              have hovF : over s = false := by
                rw [HM.out.2.2.2.2.1, ← hzz.out, decide_eq_false hMn, decide_eq_false (show ¬ 2047 ≤ z + 1023 by have := HG.out; omega)]; simp
              have HO := Aside0.mk (And.intro hovF hMn)
              clear hovF hMn
              by_cases gA : bits .and .u64 M 4503599627370496 = 0
              · have HA := Aside0.mk gA
                go_wp2_with fail
                go_step3
                refine Or.inl ⟨rfl, J0_of rfl rfl rfl rfl rfl ?_ ?_ ?_ ⟨At_ng HAT.out, hFI, HB.out⟩⟩
                · rw [HO.out.1]; rfl
                · rw [HM.out.2.2.2.2.2.2.1 HO.out.1, HM.out.2.2.2.2.2.2.2, HM.out.2.2.2.1 HO.out.2, ← hM.out, if_pos HA.out]; rfl
                · rw [HM.out.2.2.2.2.2.1 HO.out.1, HM.out.2.2.2.1 HO.out.2, ← hM.out]; rfl
              · have HA := Aside0.mk gA
                go_wp2_with fail
                go_step3
                refine Or.inl ⟨rfl, J0_of rfl rfl rfl rfl rfl ?_ ?_ ?_ ⟨At_ng HAT.out, hFI, HB.out⟩⟩
                · rw [HO.out.1]; rfl
                · rw [HM.out.2.2.2.2.2.2.1 HO.out.1, HM.out.2.2.2.2.2.2.2, HM.out.2.2.2.1 HO.out.2, ← hM.out, if_neg HA.out, HM.out.2.1 HO.out.2, ← hzz.out]; rfl
                · rw [HM.out.2.2.2.2.2.1 HO.out.1, HM.out.2.2.2.1 HO.out.2, ← hM.out]; rfl

def ZeroP (p : Nat) (ng : Bool) (w : World) (e : Ending) (w' : World) : Prop := e = .returned (.tuple #[.int .u64 (signB ng (outB 0 (-1023))), .bool false]) ∧ Below p w w'

set_option maxHeartbeats 16000000 in
set_option maxRecDepth 100000 in
theorem zero_walk (p G B : Nat) (ng : Bool) (s : St) (hs : s.n = 0) (hB : B ≤ p) (w : World) (ha : s.At p ng w) (hF : FI B G w) : Calls Tryz.prog 133 #[.pointer (some ⟨p, 0, none⟩), .pointer (some ⟨G, 0, none⟩)] w (ZeroP p ng w) := by
  go_enter Tryz.func133, Tryz.ntmps133
  go_wp2_with fail
  refine wp_scope_get (J0 p G B 0 (-1023) false ng w) (fun _ _ => False) (by rfl) (by rfl) ?first ?pass1 ?pass0
  case pass0 =>
    clear ha hF
    rintro a w' ⟨v4, u, rfl, HH⟩
    have hng := HH.out.1
    obtain ⟨_, hf0, hf1, hf2⟩ := HH.out.2.1
    have hbel := HH.out.2.2
    unfold ZeroP
    simp only [findLabel, Option.getD, reduceCtorEq, if_true, if_false, Nat.reduceBEq, beq_self_eq_true]
    cases ng with
    | true =>
      go_wp2_with fail
      go_quiet (fail)
      go_wp2_with fail
      go_quiet (fail)
      go_wp2_with fail
      refine jump2_ret ?_
      go_ret2
      · exact ⟨by kernel_rfl, Below.drewN (Below.drewN hbel _) _⟩
    | false =>
      go_wp2_with fail
      go_quiet (fail)
      go_wp2_with fail
      refine jump2_ret ?_
      go_ret2
      · exact ⟨by kernel_rfl, Below.drewN hbel _⟩
  case pass1 => exact fun a w' h => h.elim
  case first =>
    have hnd := At_nd ha
    rw [hs] at hnd
    have hng := At_ng ha
    obtain ⟨_, hf0, hf1, hf2⟩ := id hF
    go_wp2_with fail
    go_step3
    exact Or.inl ⟨rfl, J0_of rfl rfl rfl rfl rfl rfl rfl rfl ⟨hng, hF, Below.refl _ _⟩⟩
end Go.Proofs.YtlkbhmmelejmjaaGreatDoor.FltBits

/- Hexadecimal floats as a function (plain). -/
namespace Go.Proofs.YtlkbhmmelejmjaaGreatDoor.FltHexP
open Go.RowKit Go.Proofs.YtlkbhmmelejmjaaGreatDoorW.PrintWords Go.Proofs.YtlkbhmmelejmjaaGreatDoor.FltKnown Go.Proofs.YtlkbhmmelejmjaaGreatDoor.FltDec Go.Proofs.YtlkbhmmelejmjaaGreatDoor.FltFast Go.Proofs.YtlkbhmmelejmjaaGreatDoor.FltBits
set_option linter.unusedVariables false
set_option linter.unusedSimpArgs false

/-- Halved; a digit that is lost is kept in the last one. -/
def hstep (m : Int) : Int := bits .or .u64 (m / 2) (bits .and .u64 m 1)
theorem w64 (n : Int) (h0 : 0 ≤ n) (h1 : n < 2 ^ 64) : IntKind.u64.wrap n = n := by rw [IntKind.wrap_u64]; omega
theorem hstep_nat (a : Nat) (h : a < 2 ^ 64) : hstep (a : Int) = ((a / 2 ||| a % 2 : Nat) : Int) := by
  unfold hstep
  have e1 : bits .and .u64 (a : Int) 1 = ((a % 2 : Nat) : Int) := by
    have := bits_mask .u64 64 (by decide) w64 1 (by decide) (a : Int) (by omega) (by omega)
    rw [show ((2 : Int) ^ 1 - 1) = 1 from rfl] at this
    rw [this]; rfl
  rw [e1, show (a : Int) / 2 = ((a / 2 : Nat) : Int) from rfl]
  exact (bits_nat .u64 64 (by decide) w64 (a / 2) (a % 2) (by omega) (by omega)).2
theorem hstep_lt (a k : Nat) (hk : 1 ≤ k) (hk2 : k < 64) (h : a < 2 ^ (k + 1)) : 0 ≤ hstep (a : Int) ∧ hstep (a : Int) < 2 ^ k := by
  have h64 : 2 ^ (k + 1) ≤ 2 ^ 64 := Nat.pow_le_pow_right (by omega) (by omega)
  rw [hstep_nat a (Nat.lt_of_lt_of_le h h64)]
  refine ⟨Int.natCast_nonneg _, ?_⟩
  have h2 : 2 ≤ 2 ^ k := by
    calc 2 = 2 ^ 1 := rfl
      _ ≤ 2 ^ k := Nat.pow_le_pow_right (by omega) hk
  have := Nat.or_lt_two_pow (x := a / 2) (y := a % 2) (n := k) (by rw [Nat.pow_succ] at h; omega) (by omega)
  exact_mod_cast this

/-- The three loops. -/
def hl1 : Nat → Int → Int → Int × Int
  | 0, m, x => (m, x)
  | f + 1, m, x => if m ≠ 0 ∧ m / 18014398509481984 = 0 then hl1 f (m * 2) (x - 1) else (m, x)
def hl2 : Nat → Int → Int → Int × Int
  | 0, m, x => (m, x)
  | f + 1, m, x => if m / 36028797018963968 ≠ 0 then hl2 f (hstep m) (x + 1) else (m, x)
def hl3 : Nat → Int → Int → Int × Int
  | 0, m, x => (m, x)
  | f + 1, m, x => if 1 < m ∧ x < -1024 then hl3 f (hstep m) (x + 1) else (m, x)
theorem hl1_end {m : Int} (h : ¬ (m ≠ 0 ∧ m / 18014398509481984 = 0)) (x : Int) : ∀ f, hl1 f m x = (m, x)
  | 0 => rfl
  | f + 1 => by unfold hl1; rw [if_neg h]
theorem hl2_end {m : Int} (h : ¬ (m / 36028797018963968 ≠ 0)) (x : Int) : ∀ f, hl2 f m x = (m, x)
  | 0 => rfl
  | f + 1 => by unfold hl2; rw [if_neg h]
theorem hl3_end {m x : Int} (h : ¬ (1 < m ∧ x < -1024)) : ∀ f, hl3 f m x = (m, x)
  | 0 => rfl
  | f + 1 => by unfold hl3; rw [if_neg h]
def h1 (m x : Int) : Int × Int := hl1 54 m (x + 52)
def h2 (m x : Int) (tr : Bool) : Int × Int := hl2 9 (if tr then bits .or .u64 (h1 m x).1 1 else (h1 m x).1) (h1 m x).2
def h3 (m x : Int) (tr : Bool) : Int × Int := hl3 (-1024 - (h2 m x tr).2).toNat (h2 m x tr).1 (h2 m x tr).2
/-- Rounded: mantissa and exponent. -/
def hr (m x : Int) : Int × Int :=
  if bits .or .u64 (bits .and .u64 m 3) (bits .and .u64 (m / 4) 1) = 3 then (if m / 4 + 1 = 9007199254740992 then (4503599627370496, x + 2 + 1) else (m / 4 + 1, x + 2)) else (m / 4, x + 2)
def h4 (m x : Int) (tr : Bool) : Int × Int := hr (h3 m x tr).1 (h3 m x tr).2
def h5 (m x : Int) (tr : Bool) : Int := if (h4 m x tr).1 / 4503599627370496 = 0 then -1023 else (h4 m x tr).2
def hO (m x : Int) (tr : Bool) : Bool := decide (1023 < h5 m x tr)
def hM (m x : Int) (tr : Bool) : Int := if hO m x tr then 4503599627370496 else (h4 m x tr).1
def hX (m x : Int) (tr : Bool) : Int := if hO m x tr then 1024 else h5 m x tr

/-- The two descriptions of floats stand in blocks of their own, below block B. -/
def PQ (B : Nat) (w : World) : Prop := 6 < B ∧ 4 < B ∧ (∃ c t, w.heap[6]? = some (.cells c t (0, 0))) ∧ ∃ c t, w.heap[4]? = some (.cells c t (0, 0))
theorem PQ.keep {B p : Nat} {w w' : World} (h : PQ B w) (hb : Below p w w') (hp : B ≤ p) : PQ B w' := by
  obtain ⟨h1, h2, ⟨c, t, h3⟩, c', t', h4⟩ := h
  exact ⟨h1, h2, ⟨c, t, (hb.block _ (Nat.lt_of_lt_of_le h1 hp)).trans h3⟩, c', t', (hb.block _ (Nat.lt_of_lt_of_le h2 hp)).trans h4⟩
theorem PQ.drewN {B : Nat} {w : World} (h : PQ B w) (n : Nat) : PQ B (w.drewN n) := h
theorem fi_some : (Tryz.prog.info? 139).isSome = true := by kernel_rfl
theorem neq_ptr {B : Nat} {w : World} (h : PQ B w) : (binOp .eql 137 (.pointer (some ⟨6, 0, none⟩)) (.pointer (some ⟨4, 0, none⟩))).run Tryz.prog w = .ok (.bool false) w := by
  obtain ⟨_, _, ⟨c, t, h3⟩, c', t', h4⟩ := h
  exact run_eql_ptr_other w (te := 139) (j := (Tryz.prog.info? 139).get fi_some) (by kernel_rfl) (Option.some_get fi_some).symm (by decide +kernel) (by decide) h3 h4
end Go.Proofs.YtlkbhmmelejmjaaGreatDoor.FltHexP

/- Hexadecimal floats, walked: atofHex. -/
namespace Go.Proofs.YtlkbhmmelejmjaaGreatDoor.FltHex
open Go.RowKit Go.Proofs.YtlkbhmmelejmjaaGreatDoorW.PrintWords Go.Proofs.YtlkbhmmelejmjaaGreatDoor.FltKnown Go.Proofs.YtlkbhmmelejmjaaGreatDoor.FltDec Go.Proofs.YtlkbhmmelejmjaaGreatDoor.FltFast Go.Proofs.YtlkbhmmelejmjaaGreatDoor.FltBits Go.Proofs.YtlkbhmmelejmjaaGreatDoor.FltHexP
set_option linter.unusedVariables false
set_option linter.unusedSimpArgs false

def HxP (m x : Int) (ng tr : Bool) (w : World) (e : Ending) (w' : World) : Prop := e = .returned (.tuple #[.float .f64 (signB ng (outB (hM m x tr) (hX m x tr))).toNat, erV (hO m x tr)]) ∧ ∃ n, w' = w.drewN n
theorem FI.drewN {B G : Nat} {w : World} (h : FI B G w) (n : Nat) : FI B G (w.drewN n) := ⟨h.1, h.2.1, h.2.2.1, h.2.2.2⟩

set_option maxHeartbeats 16000000 in
set_option maxRecDepth 100000 in
theorem hex_walk (B : Nat) (s : ByteArray) (m x : Int) (ng tr : Bool) (hm0 : 0 ≤ m) (hm1 : m < 18446744073709551616) (hx0 : -10000000000 ≤ x) (hx1 : x ≤ 10000000000) (w : World) (hF : FI B 6 w) (hQ : PQ B w) : Calls Tryz.prog 127 #[.string s, .pointer (some ⟨6, 0, none⟩), .int .u64 m, .int .i64 x, .bool ng, .bool tr] w (HxP m x ng tr w) := by
  obtain ⟨_, hf0, hf1, hf2⟩ := id hF
  go_enter Tryz.func127, Tryz.ntmps127
  go_wp2_with fail
  go_quiet (fail)
  generalize hW0 : World.drewN w _ = W0
  have hF0 : FI B 6 W0 := by rw [← hW0]; exact FI.drewN hF _
  have HW0 : Aside0 (∃ n, W0 = w.drewN n) := ⟨⟨_, hW0.symm⟩⟩
  have HQ0 : Aside0 (PQ B W0) := ⟨by rw [← hW0]; exact hQ⟩
  clear hW0 hf0 hf1 hf2
  obtain ⟨_, hf0, hf1, hf2⟩ := id hF0
  go_upto_block 0 with (fail)
  go_cut [2, 3] from 42 to 57 (fun v2 v3 wc => ∃ (m1 x1 : Int), v2 = .int .u64 m1 ∧ v3 = .int .i64 x1 ∧ 0 ≤ m1 ∧ m1 < 18446744073709551616 ∧ -20000000000 ≤ x1 ∧ x1 ≤ 20000000000 ∧ Aside0 (h1 m x = (m1, x1)) ∧ W0 = wc)
  case first =>
    go_wp2_with fail
    go_loopg [2, 3] 54 (fun kq v2 v3 wx => ∃ (m1 x1 : Int), v2 = .int .u64 m1 ∧ v3 = .int .i64 x1 ∧ 0 ≤ m1 ∧ m1 < 18446744073709551616 ∧ -10000000010 + kq ≤ x1 ∧ x1 ≤ 10000000052 ∧ Aside0 ((m1 = 0 ∨ 18014398509481984 ≤ m1 * 2 ^ kq) ∧ hl1 kq m1 x1 = h1 m x) ∧ W0 = wx)
    case atStart =>
      refine ⟨m, x + 52, rfl, by go_num, hm0, hm1, by omega, by omega, ⟨?_, rfl⟩, rfl⟩
      by_cases h : m = 0
      · exact .inl h
      · exact .inr (by omega)
    case round =>
      obtain ⟨m1, x1, rfl, rfl, a0, a1, b0, b1, H1, rfl⟩ := hrel
      by_cases g : m1 ≠ 0 ∧ m1 / 18014398509481984 = 0
      · obtain ⟨g1, g2⟩ := g
        cases gk with
        | zero => exact absurd H1.out.1 (by omega)
        | succ k1 =>
          have q0 : (m1 != 0) = true := bne_iff_ne.mpr g1
          have HG := Aside0.mk (And.intro g1 g2)
          have gl : m1 < 18014398509481984 := by omega
          clear g1
          go_wp2_with fail
          go_roundg k1
          case rel =>
            obtain ⟨h1, h2⟩ := H1.out
            refine ⟨m1 * 2, x1 - 1, by go_num, by go_num, by omega, by omega, by omega, by omega, ⟨.inr ?_, ?_⟩, rfl⟩
            · rcases h1 with h1 | h1
              · exact absurd h1 HG.out.1
              · rw [Int.pow_succ, Int.mul_comm (2 ^ k1) 2, ← Int.mul_assoc] at h1
                exact h1
            · rw [← h2]
              show _ = if m1 ≠ 0 ∧ m1 / 18014398509481984 = 0 then _ else _
              rw [if_pos HG.out]
          case measure => exact Nat.lt_succ_self _
      · have hfin : h1 m x = (m1, x1) := by rw [← H1.out.2, hl1_end g]
        replace hfin := Aside0.mk hfin
        by_cases g0 : m1 = 0
        · subst g0
          clear g
          go_wp2_with fail
          go_meet
          case rel => exact ⟨0, x1, rfl, rfl, a0, a1, by omega, by omega, hfin, rfl⟩
        · have q0 : (m1 != 0) = true := bne_iff_ne.mpr g0
          have q1 : ¬ m1 / 18014398509481984 = 0 := fun h => g ⟨g0, h⟩
          have q2 : (m1 / 18014398509481984 == 0) = false := beq_eq_false_iff_ne.mpr q1
          clear g
          go_wp2_with fail
          go_meet
          case rel => exact ⟨m1, x1, rfl, rfl, a0, a1, by omega, by omega, hfin, rfl⟩
  case rest =>
    obtain ⟨m1, x1, rfl, rfl, a0, a1, b0, b1, H1, rfl⟩ := hcut
    go_upto_if 58 with (fail)
    go_cut [2] (fun v2 wc => ∃ m2 : Int, v2 = .int .u64 m2 ∧ 0 ≤ m2 ∧ m2 < 18446744073709551616 ∧ Aside0 (m2 = if tr then bits .or .u64 m1 1 else m1) ∧ W0 = wc)
    case first =>
      cases tr with
      | true =>
        go_wp2_with fail
        go_meet
        case rel => exact ⟨_, rfl, bits_lo_u64 .or m1 1, by have := bits_hi_u64 .or m1 1; omega, ⟨rfl⟩, rfl⟩
      | false =>
        go_wp2_with fail
        go_meet
        case rel => exact ⟨m1, rfl, a0, a1, ⟨rfl⟩, rfl⟩
    case rest =>
      obtain ⟨m2, rfl, a2, a3, H2, rfl⟩ := hcut
      go_upto_block 2 with (fail)
      go_cut [2, 3] from 61 to 76 (fun v2 v3 wc => ∃ (m3 x3 : Int), v2 = .int .u64 m3 ∧ v3 = .int .i64 x3 ∧ 0 ≤ m3 ∧ m3 < 36028797018963968 ∧ -20000000000 ≤ x3 ∧ x3 ≤ 30000000000 ∧ Aside0 (h2 m x tr = (m3, x3)) ∧ W0 = wc)
      case first =>
        go_wp2_with fail
        go_loopg [2, 3] 9 (fun kq v2 v3 wx => ∃ (m3 x3 : Int), v2 = .int .u64 m3 ∧ v3 = .int .i64 x3 ∧ 0 ≤ m3 ∧ m3 < 18446744073709551616 ∧ -20000000000 ≤ x3 ∧ x3 + kq ≤ 20000000009 ∧ Aside0 (m3 < 2 ^ (55 + kq) ∧ kq ≤ 9 ∧ hl2 kq m3 x3 = h2 m x tr) ∧ W0 = wx)
        case atStart =>
          refine ⟨m2, x1, rfl, rfl, a2, a3, b0, by omega, ⟨by omega, Nat.le_refl _, ?_⟩, rfl⟩
          unfold h2
          rw [H1.out, H2.out]
        case round =>
          obtain ⟨m3, x3, rfl, rfl, a4, a5, b2, b3, H3, rfl⟩ := hrel
          by_cases g : m3 / 36028797018963968 = 0
          · have hfin : h2 m x tr = (m3, x3) := by rw [← H3.out.2.2, hl2_end (by simpa using g)]
            replace hfin := Aside0.mk hfin
            have q1 : (m3 / 36028797018963968 != 0) = false := by rw [g]; rfl
            have gl : m3 < 36028797018963968 := by omega
            have hk9 := H3.out.2.1
            go_wp2_with fail
            go_meet
            case rel => exact ⟨m3, x3, rfl, rfl, a4, gl, b2, by omega, hfin, rfl⟩
          · cases gk with
            | zero => exact absurd H3.out.1 (by omega)
            | succ k1 =>
              have q1 : (m3 / 36028797018963968 != 0) = true := bne_iff_ne.mpr g
              have hh : 0 ≤ hstep m3 ∧ hstep m3 < 2 ^ (55 + k1) := by
                have h1 := H3.out.1
                have h2 := H3.out.2.1
                have h3 : m3.toNat < 2 ^ (55 + k1 + 1) := by
                  have h4 : ((m3.toNat : Nat) : Int) < ((2 ^ (55 + k1 + 1) : Nat) : Int) := by
                    rw [Int.toNat_of_nonneg a4]
                    exact_mod_cast h1
                  exact_mod_cast h4
                have := hstep_lt m3.toNat (55 + k1) (by omega) (by omega) h3
                rwa [Int.toNat_of_nonneg a4] at this
              have hh2 : hstep m3 < 18446744073709551616 := by
                have := bits_hi_u64 .or (m3 / 2) (bits .and .u64 m3 1)
                unfold hstep
                omega
              have HH := Aside0.mk (And.intro hh (And.intro hh2 g))
              clear hh hh2 g
              go_wp2_with fail
              go_roundg k1
              case rel =>
                refine ⟨hstep m3, x3 + 1, rfl, by go_num, HH.out.1.1, HH.out.2.1, by omega, by omega, ⟨HH.out.1.2, by have := H3.out.2.1; omega, ?_⟩, rfl⟩
                rw [← H3.out.2.2]
                show _ = if m3 / 36028797018963968 ≠ 0 then _ else _
                rw [if_pos HH.out.2.2]
              case measure => exact Nat.lt_succ_self _
      case rest =>
        obtain ⟨m3, x3, rfl, rfl, a4, a5, b2, b3, H3, rfl⟩ := hcut
        clear a0 a1 b0 b1 a2 a3
        go_upto_block 4 with (fail)
        go_cut [2, 3] from 77 to 91 (fun v2 v3 wc => ∃ (m4 x4 : Int), v2 = .int .u64 m4 ∧ v3 = .int .i64 x4 ∧ 0 ≤ m4 ∧ m4 < 36028797018963968 ∧ -20000000000 ≤ x4 ∧ x4 ≤ 30000000000 ∧ Aside0 (h3 m x tr = (m4, x4)) ∧ W0 = wc)
        case first =>
          go_wp2_with fail
          go_loopg [2, 3] (-1024 - x3).toNat (fun kq v2 v3 wx => ∃ (m4 x4 : Int), v2 = .int .u64 m4 ∧ v3 = .int .i64 x4 ∧ 0 ≤ m4 ∧ m4 < 36028797018963968 ∧ -20000000000 ≤ x4 ∧ x4 ≤ 30000000000 ∧ Aside0 (kq = (-1024 - x4).toNat ∧ hl3 kq m4 x4 = h3 m x tr) ∧ W0 = wx)
          case atStart =>
            refine ⟨m3, x3, rfl, rfl, a4, a5, b2, b3, ⟨rfl, ?_⟩, rfl⟩
            unfold h3
            rw [H3.out]
          case round =>
            clear a4 a5 b2 b3
            obtain ⟨m4, x4, rfl, rfl, a6, a7, b4, b5, H4, rfl⟩ := hrel
            by_cases g : 1 < m4 ∧ x4 < -1024
            · cases gk with
              | zero => exact absurd H4.out.1 (by omega)
              | succ k1 =>
                have hh : 0 ≤ hstep m4 ∧ hstep m4 < 2 ^ 55 := by
                  have := hstep_lt m4.toNat 55 (by omega) (by omega) (by omega)
                  rwa [Int.toNat_of_nonneg a6] at this
                have HH := Aside0.mk (And.intro hh g)
                obtain ⟨g1, g2⟩ := g
                clear hh
                go_wp2_with fail
                go_roundg k1
                case rel =>
                  refine ⟨hstep m4, x4 + 1, rfl, by go_num, HH.out.1.1, by have := HH.out.1.2; omega, by omega, by omega, ⟨by have := H4.out.1; omega, ?_⟩, rfl⟩
                  rw [← H4.out.2]
                  show _ = if 1 < m4 ∧ x4 < -1024 then _ else _
                  rw [if_pos HH.out.2]
                case measure => exact Nat.lt_succ_self _
            · have hfin : h3 m x tr = (m4, x4) := by rw [← H4.out.2, hl3_end g]
              replace hfin := Aside0.mk hfin
              by_cases g1 : 1 < m4
              · have g2 : -1024 ≤ x4 := by omega
                clear g
                go_wp2_with fail
                go_meet
                case rel => exact ⟨m4, x4, rfl, rfl, a6, a7, b4, b5, hfin, rfl⟩
              · clear g
                go_wp2_with fail
                go_meet
                case rel => exact ⟨m4, x4, rfl, rfl, a6, a7, b4, b5, hfin, rfl⟩
        case rest =>
          clear a4 a5 b2 b3
          obtain ⟨m4, x4, rfl, rfl, a6, a7, b4, b5, H4, rfl⟩ := hcut
          go_upto_if 103 with (fail)
          have hh4 : h4 m x tr = hr m4 x4 := by unfold h4; rw [H4.out]
          go_cut [2, 3] (fun v2 v3 wc => ∃ (m5 x5 : Int), v2 = .int .u64 m5 ∧ v3 = .int .i64 x5 ∧ 0 ≤ m5 ∧ m5 < 18446744073709551616 ∧ -20000000000 ≤ x5 ∧ x5 ≤ 30000000003 ∧ Aside0 (h4 m x tr = (m5, x5)) ∧ W0 = wc)
          case first =>
            replace hh4 := Aside0.mk hh4
            by_cases g : bits .or .u64 (bits .and .u64 m4 3) (bits .and .u64 (m4 / 4) 1) = 3
            · have HG := Aside0.mk g
              by_cases g2 : m4 / 4 + 1 = 9007199254740992
              · have HG2 := Aside0.mk g2
                have q2 : (m4 / 4 + 1 == 9007199254740992) = true := by rw [g2]; rfl
                go_wp2_with fail
                go_meet
                case rel =>
                  refine ⟨4503599627370496, x4 + 2 + 1, by first | rfl | (rw [HG2.out]; rfl), rfl, by decide, by decide, by omega, by omega, ⟨?_⟩, rfl⟩
                  rw [hh4.out]; unfold hr; rw [if_pos HG.out, if_pos HG2.out]
              · have HG2 := Aside0.mk g2
                have q2 : (m4 / 4 + 1 == 9007199254740992) = false := beq_eq_false_iff_ne.mpr g2
                go_wp2_with fail
                go_meet
                case rel =>
                  refine ⟨m4 / 4 + 1, x4 + 2, rfl, rfl, by omega, by omega, by omega, by omega, ⟨?_⟩, rfl⟩
                  rw [hh4.out]; unfold hr; rw [if_pos HG.out, if_neg HG2.out]
            · have HG := Aside0.mk g
              have q2 : (bits .or .u64 (bits .and .u64 m4 3) (bits .and .u64 (m4 / 4) 1) == 3) = false := beq_eq_false_iff_ne.mpr g
              go_wp2_with fail
              go_meet
              case rel =>
                refine ⟨m4 / 4, x4 + 2, rfl, rfl, by omega, by omega, by omega, by omega, ⟨?_⟩, rfl⟩
                rw [hh4.out]; unfold hr; rw [if_neg HG.out]
          case rest =>
            clear a6 a7 b4 b5 hh4
            obtain ⟨m5, x5, rfl, rfl, a6, a7, b4, b5, H5, rfl⟩ := hcut
            go_upto_if 124 with (fail)
            go_cut [3] (fun v3 wc => ∃ (x6 : Int), v3 = .int .i64 x6 ∧ -20000000000 ≤ x6 ∧ x6 ≤ 30000000003 ∧ Aside0 (h5 m x tr = x6) ∧ W0 = wc)
            case first =>
              by_cases g : m5 / 4503599627370496 = 0
              · have HG := Aside0.mk g
                have q2 : (m5 / 4503599627370496 == 0) = true := by rw [g]; rfl
                go_wp2_with fail
                go_meet
                case rel =>
                  refine ⟨-1023, rfl, by decide, by decide, ⟨?_⟩, rfl⟩
                  unfold h5; rw [H5.out, if_pos HG.out]
              · have HG := Aside0.mk g
                have q2 : (m5 / 4503599627370496 == 0) = false := beq_eq_false_iff_ne.mpr g
                go_wp2_with fail
                go_meet
                case rel =>
                  refine ⟨x5, rfl, b4, b5, ⟨?_⟩, rfl⟩
                  unfold h5; rw [H5.out, if_neg HG.out]
            case rest =>
              clear b4 b5
              obtain ⟨x6, rfl, b4, b5, H6, rfl⟩ := hcut
              go_upto_if 131 with (fail)
              go_cut [2, 3, 17] (fun v2 v3 v17 wc => v2 = .int .u64 (hM m x tr) ∧ v3 = .int .i64 (hX m x tr) ∧ v17 = erV (hO m x tr) ∧ W0 = wc)
              case first =>
                by_cases g : 1023 < x6
                · have hO1 : hO m x tr = true := by unfold hO; rw [H6.out]; exact decide_eq_true g
                  have e1 : hM m x tr = 4503599627370496 := by unfold hM; rw [if_pos hO1]
                  have e2 : hX m x tr = 1024 := by unfold hX; rw [if_pos hO1]
                  have HE := Aside0.mk (And.intro hO1 (And.intro e1 e2))
                  clear hO1 e1 e2
                  go_wp2_with fail
                  go_meet
                  case rel => exact ⟨by rw [HE.out.2.1], by rw [HE.out.2.2], by rw [HE.out.1]; rfl, rfl⟩
                · have hO1 : hO m x tr = false := by unfold hO; rw [H6.out]; exact decide_eq_false g
                  have e1 : hM m x tr = m5 := by unfold hM; rw [if_neg (by rw [hO1]; decide), H5.out]
                  have e2 : hX m x tr = x6 := by unfold hX; rw [if_neg (by rw [hO1]; decide), H6.out]
                  have HE := Aside0.mk (And.intro hO1 (And.intro e1 e2))
                  clear hO1 e1 e2
                  go_wp2_with fail
                  go_meet
                  case rel => exact ⟨by rw [HE.out.2.1], by rw [HE.out.2.2], by rw [HE.out.1]; rfl, rfl⟩
              case rest =>
                obtain ⟨rfl, rfl, rfl, rfl⟩ := hcut
                obtain ⟨M, hMe⟩ : ∃ M, M = hM m x tr := ⟨_, rfl⟩
                obtain ⟨X, hXe⟩ : ∃ X, X = hX m x tr := ⟨_, rfl⟩
                obtain ⟨ov, hOe⟩ : ∃ ov, ov = erV (hO m x tr) := ⟨_, rfl⟩
                rw [← hMe, ← hXe, ← hOe]
                have HE := Aside0.mk (And.intro hMe (And.intro hXe hOe))
                clear hMe hXe hOe b4 b5 a6 a7
                have hfb := fb_run
                cases ng with
                | true =>
                  have hne := fun n => neq_ptr (HQ0.out.drewN n)
                  go_wp2_with fail
                  go_quiet (fail)
                  go_wp2_with fail
                  go_quiet (fail)
                  go_wp2_with fail
                  go_ret2
                  refine ⟨?_, ?_⟩
                  · rw [← HE.out.1, ← HE.out.2.1, ← HE.out.2.2]; rfl
                  · obtain ⟨n, hn⟩ := HW0.out
                    exact ⟨_, by rw [hn, World.drewN_drewN]⟩
                | false =>
                  have hne := fun n => neq_ptr (HQ0.out.drewN n)
                  go_wp2_with fail
                  go_quiet (fail)
                  go_wp2_with fail
                  go_ret2
                  refine ⟨?_, ?_⟩
                  · rw [← HE.out.1, ← HE.out.2.1, ← HE.out.2.2]; rfl
                  · obtain ⟨n, hn⟩ := HW0.out
                    exact ⟨_, by rw [hn, World.drewN_drewN]⟩
end Go.Proofs.YtlkbhmmelejmjaaGreatDoor.FltHex
