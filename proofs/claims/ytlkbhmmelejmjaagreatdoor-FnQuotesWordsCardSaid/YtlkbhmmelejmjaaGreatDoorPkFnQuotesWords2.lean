/- Parts of the proof of FnQuotesWords, one behind the other: FltLeft, FltRight, FltLaw, FltState, FltTextP. Each part says ahead of itself what it proves. -/
import Derived.Test.YtlkbhmmelejmjaaGreatDoorPkFnQuotesWords1
import GoSem.PinnedTables

/- The decimal of the slow road: the shift to the left. -/
namespace Go.Proofs.YtlkbhmmelejmjaaGreatDoor.FltLeft
open Go.RowKit Go.Proofs.YtlkbhmmelejmjaaGreatDoorW.PrintWords Go.Proofs.YtlkbhmmelejmjaaGreatDoor.NumKnown Go.Proofs.YtlkbhmmelejmjaaGreatDoor.NumPure Go.Proofs.YtlkbhmmelejmjaaGreatDoor.FltDec Go.Proofs.YtlkbhmmelejmjaaGreatDoor.FltPure
set_option linter.unusedVariables false
set_option linter.unusedSimpArgs false

/-- Whether the first n digits stand before a text, from place i on. -/
def pl (F : Nat → Int) (n : Nat) : Nat → List UInt8 → Bool
  | _, [] => false
  | i, c :: r => if n ≤ i then true else if F i = (c.toNat : Int) then pl F n (i + 1) r else decide (F i < (c.toNat : Int))

theorem drewN_add (w : World) (a b : Nat) : (w.drewN a).drewN b = w.drewN (a + b) := by simp [World.drewN, Nat.add_assoc]
theorem pl_cons (F : Nat → Int) (n i : Nat) (c : UInt8) (r : List UInt8) : pl F n i (c :: r) = if n ≤ i then true else if F i = (c.toNat : Int) then pl F n (i + 1) r else decide (F i < (c.toNat : Int)) := rfl
def Bd (b : Bool) (w : World) (e : Ending) (w' : World) : Prop := e = .returned (.bool b) ∧ ∃ n, w' = w.drewN n

theorem drop_cons {l : List UInt8} {i : Nat} (h : i < l.length) : l.drop i = l[i] :: l.drop (i + 1) := List.drop_eq_getElem_cons h

set_option maxHeartbeats 4000000 in
set_option maxRecDepth 100000 in
theorem pl_walk (p : Nat) (F : Nat → Int) (n c : Nat) (s : ByteArray) (hn : n ≤ 800) (hs : s.size ≤ 1000) (w : World) (h : ∀ i, i < n → w.cell? ⟨p, i, none⟩ = some (.int .u8 (F i))) : Calls Tryz.prog 162 #[.slice (some ⟨p, 0, none⟩) n c, .string s] w (Bd (pl F n 0 s.data.toList) w) := by
  have H := Aside0.mk h
  clear h
  have hL : s.data.toList.length = s.size := (Lib.size_eq s).symm
  go_enter Tryz.func162, Tryz.ntmps162
  go_wp2_with fail
  go_loopw [5] (fun vi wr => ∃ i : Nat, i ≤ s.size ∧ vi = .int .i64 i ∧ Aside0 (pl F n i (s.data.toList.drop i) = pl F n 0 s.data.toList) ∧ ∃ q, wr = w.drewN q) (fun vi _ => s.size - (intOf vi).toNat)
  case atStart => exact ⟨0, Nat.zero_le _, rfl, ⟨rfl⟩, 0, rfl⟩
  case round =>
    obtain ⟨i, hi, rfl, hp, q, rfl⟩ := hrel
    by_cases hlt : i < s.size
    · have hd := drop_cons (l := s.data.toList) (i := i) (by omega)
      rw [hd] at hp
      have hge : s.data.toList[i]'(by omega) = s[i] := rfl
      rw [hge] at hp
      clear hd hge
      by_cases hin : n ≤ i
      · go_wp2_with fail
        go_ret
        have := hp.out
        rw [pl_cons, if_pos hin] at this
        exact ⟨by rw [← this]; rfl, q, rfl⟩
      · have hc := H.out i (by omega)
        have hin' : i < n := by omega
        by_cases he : F i = (s[i].toNat : Int)
        · have hq : (F i == (s[i].toNat : Int)) = true := by simpa using he
          have HE := Aside0.mk he
          rw [he] at hc
          clear he hq
          go_wp2_with fail
          go_quiet (fail)
          go_wp2_with fail
          go_roundw
          case rel =>
            have := hp.out
            rw [pl_cons, if_neg hin, if_pos HE.out] at this
            exact ⟨i + 1, by omega, by go_num, ⟨this⟩, _, by first | rfl | (simp only [drewN_add]; rfl)⟩
          case measure => simp [intOf]; omega
        · have hq : (F i == (s[i].toNat : Int)) = false := beq_eq_false_iff_ne.mpr he
          have HE := Aside0.mk he
          clear he
          go_wp2_with fail
          go_quiet (fail)
          go_wp2_with fail
          go_quiet (fail)
          go_wp2_with fail
          go_ret
          have := hp.out
          rw [pl_cons, if_neg hin, if_neg HE.out] at this
          exact ⟨by rw [← this]; rfl, _, by simp only [drewN_add]; rfl⟩
    · obtain rfl : i = s.size := by omega
      go_wp2_with fail
      go_ret
      have := hp.out
      rw [List.drop_eq_nil_of_le (by omega)] at this
      exact ⟨by rw [← this]; rfl, q, rfl⟩

/-- The table of the shifts to the left. -/
structure LTab (w : World) (D : Nat → Nat) (T : Nat → ByteArray) : Prop where
  row : ∃ L o c, w.cell? ⟨11, 0, none⟩ = some (.slice (some ⟨L, o, none⟩) 61 c) ∧ ∀ k, k < 61 → w.cell? ⟨L, o + k * 2, none⟩ = some (.int .i64 (D k)) ∧ w.cell? ⟨L, o + k * 2 + 1, none⟩ = some (.string (T k))

theorem slice94 (p n : Nat) (hn : n ≤ 800) (W : World) : (Instr.sliceAt 147 (.pointer (some ⟨p, 0, none⟩)) (some (.int .i64 0)) (some (.int .i64 (n : Int))) none).run Tryz.prog W = .ok (.slice (some ⟨p, 0, none⟩) n 800) W := by
  have ga : Tryz.prog.arrayLen 147 = 800 := by kernel_rfl
  rw [run_sliceAt_array_lh W 147 ⟨p, 0, none⟩ (by kernel_rfl) .i64 .i64 0 (n : Int) (by omega) (by omega) (by rw [ga]; omega), ga]
  have hs : ∀ W, (sizeOf (Tryz.prog.elem 147)).run Tryz.prog W = .ok 1 W := fun W => by
    rw [show Tryz.prog.elem 147 = 5 from by kernel_rfl]
    simp [go_sem]
  rw [hs]
  simp [slicedAt, Result.andThen]
  rfl
def LeftP (p n e k : Nat) (F : Nat → Int) (dp : Int) (ng tr : Bool) (w : World) (r : Ending) (w' : World) : Prop :=
  r = .returned (.tuple #[]) ∧ ∃ g, Dec w' p g (cut (dig (n + e) (val F n * 2 ^ k)) (min (n + e) 800) : Nat) (trimDp (cut (dig (n + e) (val F n * 2 ^ k)) (min (n + e) 800)) (dp + e)) ng (tr || lost (n + e) (val F n * 2 ^ k) (n + e)) ∧ (∀ j, j < min (n + e) 800 → g j = dig (n + e) (val F n * 2 ^ k) j) ∧ Below p w w'

set_option maxHeartbeats 8000000 in
set_option maxRecDepth 100000 in
theorem left_walk (p n e k : Nat) (F : Nat → Int) (dp : Int) (ng tr : Bool) (D : Nat → Nat) (T : Nat → ByteArray) (hn : n ≤ 800) (hk : k ≤ 60) (he : e ≤ 20) (hdp0 : -1000000 ≤ dp) (hdp1 : dp ≤ 1000000) (hg : good F n) (hT : (T k).size ≤ 1000) (hD : D k = e + (if pl F n 0 (T k).data.toList then 1 else 0)) (hx0 : val F n * 2 ^ k < 10 ^ (n + e)) (hx1 : 10 ^ (n + e) ≤ 10 * (val F n * 2 ^ k)) (w : World) (h : Dec w p F n dp ng tr) (ht : LTab w D T) : Calls Tryz.prog 155 #[.pointer (some ⟨p, 0, none⟩), .int .u64 k] w (LeftP p n e k F dp ng tr w) := by
  obtain ⟨L, o, c, hs, hrow⟩ := ht.row
  have hr1 := (hrow k (by omega)).1
  have hr2 := (hrow k (by omega)).2
  clear hrow ht
  have H := Aside0.mk h
  have CP := Aside0.mk (fun (W : World) (hW : ∀ i, i < n → W.cell? ⟨p, i, none⟩ = some (.int .u8 (F i))) => pl_walk p F n 800 (T k) hn hT W hW)
  have hnd := h.nd
  have HX0 := Aside0.mk hx0
  have HX1 := Aside0.mk hx1
  have HD := Aside0.mk hD
  have HG := Aside0.mk hg
  clear h hx0 hx1 hD hg
  go_enter Tryz.func155, Tryz.ntmps155
  have g1 : k < 61 := by omega
  have hsl := slice94 p n hn
  go_upto_region 1 with (fail)
  go_quiet ((go_at_call 162; refine Calls.quiet_of (CP.out _ (fun i hi => ?_)); exact H.out.dig i (by omega)))
  go_upto_if 30 with (fail)
  go_cut [4] (fun v4 wc => v4 = .int .i64 (e : Int) ∧ ∃ q, wc = w.drewN q)
  case first =>
    have hD := HD.out
    cases hb : pl F n 0 (T k).data.toList with
    | true =>
      rw [hb, if_pos rfl] at hD
      go_wp2_with fail
      go_meet
      case rel => exact ⟨rfl, _, rfl⟩
    | false =>
      rw [hb] at hD
      have hD' : D k = e := by simpa using hD
      go_wp2_with fail
      go_meet
      case rel => exact ⟨by rw [hD'], _, rfl⟩
  case rest =>
    obtain ⟨rfl, q0, rfl⟩ := hcut
    clear hs hr1 hr2 hsl CP HD
    go_wp2_with fail
    go_loopw [5, 6, 7] (fun vr vw vc wr => ∃ t : Nat, t ≤ n ∧ vr = .int .i64 ((n : Int) - t - 1) ∧ vw = .int .i64 ((n + e - t : Nat) : Int) ∧ vc = .int .u64 (carry (val F n) k t : Nat) ∧ Aside0 (∃ g, Dec wr p g n dp ng (tr || lost (n + e) (val F n * 2 ^ k) t) ∧ (∀ j, j < n - t → g j = F j) ∧ (∀ j, n + e - t ≤ j → j < n + e → j < 800 → g j = dig (n + e) (val F n * 2 ^ k) j) ∧ Below p w wr)) (fun vr _ _ _ => (intOf vr + 1).toNat)
    case atStart =>
      refine ⟨0, Nat.zero_le _, by go_num, by go_num, by rw [carry_zero]; rfl, ⟨F, ?_, fun j _ => rfl, fun j h1 h2 _ => absurd h2 (by omega), Below.drewN (Below.refl _ _) _⟩⟩
      have : (tr || lost (n + e) (val F n * 2 ^ k) 0) = tr := by simp [lost]
      rw [this]
      exact H.out.drewN q0
    case round =>
      obtain ⟨t, ht, rfl, rfl, rfl, HL⟩ := hrel
      by_cases hlt : t < n
      · have e1 : (n : Int) - t - 1 = ((n - 1 - t : Nat) : Int) := by omega
        rw [e1]
        have hd0 := HG.out.dv (i := n - 1 - t) (by omega)
        have hcell : wr.cell? ⟨p, n - 1 - t, none⟩ = some (.int .u8 (48 + (dv F (n - 1 - t) : Int))) := by
          obtain ⟨g, h1, h2, h3, h4⟩ := HL.out
          rw [h1.dig _ (by omega), h2 _ (by omega), HG.out.dv_eq (by omega)]
        have hfz : ∀ o, wr.frozen? ⟨p, o, none⟩ = false := by
          obtain ⟨g, h1, h2, h3, h4⟩ := HL.out
          exact h1.fz
        have gi : n - 1 - t < 800 := by omega
        have hcl := carry_lt (val F n) k t
        have hsucc := carry_succ (val F n) k t
        have hdig := carry_digit (val F n) k t
        rw [val_digit HG.out t (by omega)] at hsucc hdig
        generalize dv F (n - 1 - t) = d at hcell hd0 hsucc hdig ⊢
        generalize carry (val F n) k t = cy at hcl hsucc hdig ⊢
        have hk2 : 2 ^ k ≤ 1152921504606846976 := Nat.le_trans (Nat.pow_le_pow_right (by omega) hk) (by decide)
        have hdk : d * 2 ^ k ≤ 9 * 2 ^ k := Nat.mul_le_mul_right _ hd0
        obtain ⟨u, hu⟩ : ∃ u : Nat, u = d * 2 ^ k := ⟨_, rfl⟩
        obtain ⟨s, hs⟩ : ∃ s : Nat, s = cy + u := ⟨_, rfl⟩
        obtain ⟨q, hq⟩ : ∃ q : Nat, q = s / 10 := ⟨_, rfl⟩
        obtain ⟨m, hm⟩ : ∃ m : Nat, m = 10 * q := ⟨_, rfl⟩
        obtain ⟨r, hr⟩ : ∃ r : Nat, r = s % 10 := ⟨_, rfl⟩
        obtain ⟨v, hv⟩ : ∃ v : Nat, v = 48 + r := ⟨_, rfl⟩
        obtain ⟨x, hx⟩ : ∃ x : Nat, x = n + e - t - 1 := ⟨_, rfl⟩
        have f1 : IntKind.u64.wrap ((48 + (d : Int) - 48) * 2 ^ k) = (u : Int) := by
          rw [show (48 + (d : Int) - 48) * 2 ^ k = ((d * 2 ^ k : Nat) : Int) from by rw [Int.natCast_mul, Int.natCast_pow]; congr 1; omega, ← hu, IntKind.wrap_u64]; omega
        have f2 : IntKind.u64.wrap ((cy : Int) + (u : Int)) = (s : Int) := by rw [IntKind.wrap_u64]; omega
        have f3 : IntKind.u64.wrap ((s : Int).tdiv 10) = (q : Int) := by
          rw [Int.tdiv_eq_ediv_of_nonneg (by omega), IntKind.wrap_u64]; omega
        have f3' : IntKind.u64.wrap ((s : Int) / 10) = (q : Int) := by rw [IntKind.wrap_u64]; omega
        have f4 : IntKind.u64.wrap (10 * (q : Int)) = (m : Int) := by rw [IntKind.wrap_u64]; omega
        have f5 : IntKind.u64.wrap ((s : Int) - (m : Int)) = (r : Int) := by rw [IntKind.wrap_u64]; omega
        have f6 : IntKind.u64.wrap ((r : Int) + 48) = (v : Int) := by rw [IntKind.wrap_u64]; omega
        have f7 : (v : Int) % 256 = (v : Int) := by omega
        have hw1 : ((n + e - t : Nat) : Int) - 1 = (x : Int) := by omega
        rw [← hu, ← hs, ← hq] at hsucc
        rw [← hu, ← hs, ← hr] at hdig
        have HS := Aside0.mk (show q = carry (val F n) k (t + 1) from hsucc.symm)
        have HR := Aside0.mk (show v = 48 + val F n * 2 ^ k / 10 ^ t % 10 by omega)
        have HR2 := Aside0.mk hdig
        have HXX := Aside0.mk hx
        have hxle : x + 1 + t = n + e := by omega
        have HH := Aside0.mk hxle
        have hr10 : r ≤ 9 := by omega
        clear hsucc hdig hv hr hm hq hs hu hdk hk2 hcl hx
        by_cases gw : x < 800
        · have hcx : ∃ z, wr.cell? ⟨p, x, none⟩ = some z := by
            obtain ⟨g, h1, h2, h3, h4⟩ := HL.out
            exact ⟨_, h1.dig x gw⟩
          obtain ⟨z, hcx⟩ := hcx
          go_wp2_with fail
          go_roundw
          case rel =>
            refine ⟨t + 1, by omega, by go_num, by go_num, by rw [HS.out], ?_⟩
            obtain ⟨g, h1, h2, h3, h4⟩ := HL.out
            refine ⟨upd g x v, ?_, ?_, ?_, h4.setCell (Nat.le_refl _) _⟩
            · have hl : lost (n + e) (val F n * 2 ^ k) (t + 1) = lost (n + e) (val F n * 2 ^ k) t := by
                rw [lost_succ, show decide (800 ≤ n + e - 1 - t) = false from decide_eq_false (by omega)]
                simp
              rw [hl]
              exact h1.setD x gw _
            · intro j hj
              unfold upd
              rw [if_neg (by omega)]
              exact h2 j (by omega)
            · intro j hj1 hj2 hj3
              unfold upd
              by_cases hjx : j = x
              · rw [if_pos hjx, HR.out]
                unfold dig
                rw [show n + e - 1 - j = t from by omega]
                rfl
              · rw [if_neg hjx]
                exact h3 j (by omega) hj2 hj3
          case measure => first | (simp [intOf]; done) | (simp [intOf]; omega)
        · have hc3 : ∃ z, wr.cell? ⟨p, 803, none⟩ = some z := by
            obtain ⟨g, h1, h2, h3, h4⟩ := HL.out
            exact ⟨_, h1.tr⟩
          obtain ⟨z, hc3⟩ := hc3
          by_cases hr0 : r = 0
          · subst hr0
            go_wp2_with fail
            go_roundw
            case rel =>
              refine ⟨t + 1, by omega, by go_num, by go_num, by rw [HS.out], ?_⟩
              obtain ⟨g, h1, h2, h3, h4⟩ := HL.out
              refine ⟨g, ?_, fun j hj => h2 j (by omega), fun j hj1 hj2 hj3 => h3 j (by omega) hj2 hj3, h4⟩
              have hl : lost (n + e) (val F n * 2 ^ k) (t + 1) = lost (n + e) (val F n * 2 ^ k) t := by
                rw [lost_succ, ← HR2.out]
                simp
              rw [hl]
              exact h1
            case measure => first | (simp [intOf]; done) | (simp [intOf]; omega)
          · have hrb : ((r : Int) != 0) = true := by simp; omega
            go_wp2_with fail
            go_roundw
            case rel =>
              refine ⟨t + 1, by omega, by go_num, by go_num, by rw [HS.out], ?_⟩
              obtain ⟨g, h1, h2, h3, h4⟩ := HL.out
              refine ⟨g, ?_, fun j hj => h2 j (by omega), fun j hj1 hj2 hj3 => h3 j (by omega) hj2 hj3, h4.setCell (Nat.le_refl _) _⟩
              have hl : (tr || lost (n + e) (val F n * 2 ^ k) (t + 1)) = true := by
                rw [lost_succ, ← HR2.out, show decide (800 ≤ n + e - 1 - t) = true from decide_eq_true (by omega), show decide (r ≠ 0) = true from decide_eq_true hr0]
                simp
              rw [hl]
              exact h1.setTr true
            case measure => first | (simp [intOf]; done) | (simp [intOf]; omega)
      · obtain rfl : t = n := by omega
        have e1 : (t : Int) - t - 1 = -1 := by omega
        rw [e1, carry_end (val_lt HG.out)]
        have e2 : t + e - t = e := by omega
        rw [e2]
        go_wp2_with fail
        go_loopw [6, 7] (fun vw vc wr => ∃ y : Nat, t ≤ y ∧ y ≤ t + e ∧ vw = .int .i64 ((t + e - y : Nat) : Int) ∧ vc = .int .u64 (val F t * 2 ^ k / 10 ^ y : Nat) ∧ Aside0 (∃ g, Dec wr p g t dp ng (tr || lost (t + e) (val F t * 2 ^ k) y) ∧ (∀ j, t + e - y ≤ j → j < t + e → j < 800 → g j = dig (t + e) (val F t * 2 ^ k) j) ∧ Below p w wr)) (fun _ vc _ => (intOf vc).toNat)
        case atStart =>
          obtain ⟨g, h1, h2, h3, h4⟩ := HL.out
          exact ⟨t, Nat.le_refl _, by omega, by rw [e2], rfl, ⟨g, h1, h3, h4⟩⟩
        case round =>
          clear HL e1 e2
          obtain ⟨y, hy0, hy1, rfl, rfl, HL⟩ := hrel
          have hk2 : 2 ^ k ≤ 1152921504606846976 := Nat.le_trans (Nat.pow_le_pow_right (by omega) hk) (by decide)
          have hs64 : val F t * 2 ^ k / 10 ^ y < 18446744073709551616 := by
            have h1 : val F t * 2 ^ k / 10 ^ y ≤ val F t * 2 ^ k / 10 ^ t := Nat.div_le_div_left (Nat.pow_le_pow_right (by omega) hy0) (Nat.pow_pos (by omega))
            have h2 : val F t * 2 ^ k / 10 ^ t < 2 ^ k := by
              rw [← carry_end (val_lt HG.out)]
              exact carry_lt _ _ _
            omega
          have hsu : val F t * 2 ^ k / 10 ^ (y + 1) = val F t * 2 ^ k / 10 ^ y / 10 := by rw [Nat.pow_succ, Nat.div_div_eq_div_mul]
          have hyb : val F t * 2 ^ k / 10 ^ y ≠ 0 → y < t + e := by
            intro hne
            rcases Nat.lt_or_ge y (t + e) with h | h
            · exact h
            · exact absurd (Nat.div_eq_of_lt (Nat.lt_of_lt_of_le HX0.out (Nat.pow_le_pow_right (by omega) h))) hne
          have hyz : val F t * 2 ^ k / 10 ^ y = 0 → y = t + e := by
            intro hz
            have h1 : val F t * 2 ^ k < 10 ^ y := by
              rcases Nat.lt_or_ge (val F t * 2 ^ k) (10 ^ y) with h | h
              · exact h
              · exact absurd hz (Nat.ne_of_gt (Nat.div_pos h (Nat.pow_pos (by omega))))
            have h2 := HX1.out
            have h3 : 10 ^ (t + e) < 10 ^ (y + 1) := by rw [Nat.pow_succ]; omega
            have h4 := (Nat.pow_lt_pow_iff_right (a := 10) (by omega)).1 h3
            omega
          obtain ⟨s, hs⟩ : ∃ s : Nat, s = val F t * 2 ^ k / 10 ^ y := ⟨_, rfl⟩
          rw [← hs] at hs64 hsu hyb hyz ⊢
          have HSV := Aside0.mk hs
          by_cases hs0 : s = 0
          · subst hs0
            obtain rfl := hyz rfl
            have hz : t + e - (t + e) = 0 := by omega
            rw [hz]
            have hnd' : wr.cell? ⟨p, 800, none⟩ = some (.int .i64 (t : Int)) := by
              obtain ⟨g, h1, h2, h3⟩ := HL.out
              exact h1.nd
            have hdp' : wr.cell? ⟨p, 801, none⟩ = some (.int .i64 dp) := by
              obtain ⟨g, h1, h2, h3⟩ := HL.out
              exact h1.dp
            have hfz : ∀ o, wr.frozen? ⟨p, o, none⟩ = false := by
              obtain ⟨g, h1, h2, h3⟩ := HL.out
              exact h1.fz
            have a1 : wrap64 ((t : Int) + (e : Int)) = ((t + e : Nat) : Int) := by unfold wrap64; omega
            have a2 : wrap64 (dp + (e : Int)) = dp + e := by unfold wrap64; omega
            clear hyz hyb hsu hs
            by_cases h8 : 800 ≤ t + e
            · go_wp2_with fail
              obtain ⟨g, h1, h2, h3⟩ := HL.out
              have h4 := ((h1.setNd ((t : Int) + e)).setNd 800).setDp (dp + e)
              refine (trim_walk p g 800 (dp + e) ng _ (by omega) _ h4).mono ?_
              rintro r w2 ⟨rfl, hD2, hB2⟩
              go_wp2_with fail
              go_end0
              have hg : ∀ j, j < 800 → g j = dig (t + e) (val F t * 2 ^ k) j := fun j hj => h2 j (by omega) (by omega) hj
              have hmin : min (t + e) 800 = 800 := by omega
              refine ⟨rfl, g, ?_, by rw [hmin]; exact hg, (((h3.setCell (Nat.le_refl _) _).setCell (Nat.le_refl _) _).setCell (Nat.le_refl _) _).trans hB2⟩
              rw [hmin, ← cut_congr hg]
              exact hD2
            · go_wp2_with fail
              obtain ⟨g, h1, h2, h3⟩ := HL.out
              have h4 := (h1.setNd ((t : Int) + e)).setDp (dp + e)
              refine (trim_walk p g (t + e) (dp + e) ng _ (by omega) _ h4).mono ?_
              rintro r w2 ⟨rfl, hD2, hB2⟩
              go_wp2_with fail
              go_end0
              have hg : ∀ j, j < t + e → g j = dig (t + e) (val F t * 2 ^ k) j := fun j hj => h2 j (by omega) (by omega) (by omega)
              have hmin : min (t + e) 800 = t + e := by omega
              refine ⟨rfl, g, ?_, by rw [hmin]; exact hg, ((h3.setCell (Nat.le_refl _) _).setCell (Nat.le_refl _) _).trans hB2⟩
              rw [hmin, ← cut_congr hg]
              exact hD2
          · have hy2 := hyb hs0
            obtain ⟨q, hq⟩ : ∃ q : Nat, q = s / 10 := ⟨_, rfl⟩
            obtain ⟨m, hm⟩ : ∃ m : Nat, m = 10 * q := ⟨_, rfl⟩
            obtain ⟨r, hr⟩ : ∃ r : Nat, r = s % 10 := ⟨_, rfl⟩
            obtain ⟨v, hv⟩ : ∃ v : Nat, v = 48 + r := ⟨_, rfl⟩
            obtain ⟨x, hx⟩ : ∃ x : Nat, x = t + e - y - 1 := ⟨_, rfl⟩
            have f3 : IntKind.u64.wrap ((s : Int) / 10) = (q : Int) := by rw [IntKind.wrap_u64]; omega
            have f3' : IntKind.u64.wrap ((s : Int).tdiv 10) = (q : Int) := by
              rw [Int.tdiv_eq_ediv_of_nonneg (by omega), IntKind.wrap_u64]; omega
            have f4 : IntKind.u64.wrap (10 * (q : Int)) = (m : Int) := by rw [IntKind.wrap_u64]; omega
            have f5 : IntKind.u64.wrap ((s : Int) - (m : Int)) = (r : Int) := by rw [IntKind.wrap_u64]; omega
            have f6 : IntKind.u64.wrap ((r : Int) + 48) = (v : Int) := by rw [IntKind.wrap_u64]; omega
            have f7 : (v : Int) % 256 = (v : Int) := by omega
            have hw1 : ((t + e - y : Nat) : Int) - 1 = (x : Int) := by omega
            rw [← hq] at hsu
            have HS := Aside0.mk hsu
            have HR2 := Aside0.mk (show val F t * 2 ^ k / 10 ^ y % 10 = r by omega)
            have HR := Aside0.mk hv
            have hqs : q < s := by omega
            have HQ := Aside0.mk hqs
            have hxle : x + 1 + y = t + e := by omega
            have hr10 : r ≤ 9 := by omega
            have gs : 0 < s := by omega
            have hfz : ∀ o, wr.frozen? ⟨p, o, none⟩ = false := by
              obtain ⟨g, h1, h2, h3⟩ := HL.out
              exact h1.fz
            clear hsu hv hr hm hq hs hx hyb hyz hqs
            have gw : x < 800 := by omega
            · have hcx : ∃ z, wr.cell? ⟨p, x, none⟩ = some z := by
                obtain ⟨g, h1, h2, h3⟩ := HL.out
                exact ⟨_, h1.dig x gw⟩
              obtain ⟨z, hcx⟩ := hcx
              go_wp2_with fail
              go_roundw
              case rel =>
                refine ⟨y + 1, by omega, by omega, by go_num, by rw [HS.out], ?_⟩
                obtain ⟨g, h1, h2, h3⟩ := HL.out
                refine ⟨upd g x v, ?_, ?_, h3.setCell (Nat.le_refl _) _⟩
                · have hl : lost (t + e) (val F t * 2 ^ k) (y + 1) = lost (t + e) (val F t * 2 ^ k) y := by
                    rw [lost_succ, show decide (800 ≤ t + e - 1 - y) = false from decide_eq_false (by omega)]
                    simp
                  rw [hl]
                  exact h1.setD x gw _
                · intro j hj1 hj2 hj3
                  unfold upd
                  by_cases hjx : j = x
                  · rw [if_pos hjx, HR.out]
                    unfold dig
                    rw [show t + e - 1 - j = y from by omega, HR2.out]
                    rfl
                  · rw [if_neg hjx]
                    exact h2 j (by omega) hj2 hj3
              case measure => have := HQ.out; first | (simp [intOf]; done) | (simp [intOf]; omega)
end Go.Proofs.YtlkbhmmelejmjaaGreatDoor.FltLeft

/- The decimal of the slow road: the shift to the right. -/
namespace Go.Proofs.YtlkbhmmelejmjaaGreatDoor.FltRight
open Go.RowKit Go.Proofs.YtlkbhmmelejmjaaGreatDoorW.PrintWords Go.Proofs.YtlkbhmmelejmjaaGreatDoor.NumKnown Go.Proofs.YtlkbhmmelejmjaaGreatDoor.NumPure Go.Proofs.YtlkbhmmelejmjaaGreatDoor.FltDec Go.Proofs.YtlkbhmmelejmjaaGreatDoor.FltPure Go.Proofs.YtlkbhmmelejmjaaGreatDoor.FltLeft
set_option linter.unusedVariables false
set_option linter.unusedSimpArgs false

def RightP (p n k r0 J : Nat) (F : Nat → Int) (dp : Int) (ng tr : Bool) (w : World) (r : Ending) (w' : World) : Prop :=
  r = .returned (.tuple #[]) ∧ ∃ g, Dec w' p g (cut (rdig F n k r0) (min J 800) : Nat) (trimDp (cut (rdig F n k r0) (min J 800)) (dp - (r0 - 1))) ng (tr || lostR F n k r0 J) ∧ (∀ j, j < min J 800 → g j = rdig F n k r0 j) ∧ Below p w w'

set_option maxHeartbeats 8000000 in
set_option maxRecDepth 100000 in
theorem right_walk (p n k r0 J : Nat) (F : Nat → Int) (dp : Int) (ng tr : Bool) (hn : n ≤ 800) (hk : k ≤ 60) (hr1 : 1 ≤ r0) (hrn : r0 ≤ 1000) (hJn : J ≤ 1000000) (hdp0 : -1000000 ≤ dp) (hdp1 : dp ≤ 1000000) (hg : good F n) (hn0 : 0 < val F n) (hp0 : ∀ r, r < r0 → pv F n r < 2 ^ k) (hp1 : 2 ^ k ≤ pv F n r0) (hJ0 : n - r0 ≤ J) (hJ1 : rn F n k (r0 + J) = 0) (hJ2 : ∀ j, n - r0 ≤ j → j < J → rn F n k (r0 + j) ≠ 0) (w : World) (h : Dec w p F n dp ng tr) : Calls Tryz.prog 156 #[.pointer (some ⟨p, 0, none⟩), .int .u64 k] w (RightP p n k r0 J F dp ng tr w) := by
  have H := Aside0.mk h
  have hnd := h.nd
  have HG := Aside0.mk hg
  have HP0 := Aside0.mk hp0
  have HP1 := Aside0.mk hp1
  have HN0 := Aside0.mk hn0
  have HJ := Aside0.mk (And.intro hJ1 hJ2)
  clear h hg hp0 hp1 hn0 hJ1 hJ2
  have hk2 : 2 ^ k ≤ 1152921504606846976 := Nat.le_trans (Nat.pow_le_pow_right (by omega) hk) (by decide)
  have HK2 := Aside0.mk hk2
  clear hk2
  go_enter Tryz.func156, Tryz.ntmps156
  go_upto_block 0 with (fail)
  go_cut [4, 6] (fun v4 v6 wc => v4 = .int .i64 (r0 : Int) ∧ v6 = .int .u64 (pv F n r0 : Nat) ∧ wc = w)
  case first =>
    go_wp2_with fail
    go_loopw [4, 6] (fun v4 v6 wr => ∃ i : Nat, i ≤ r0 ∧ i ≤ n ∧ v4 = .int .i64 (i : Int) ∧ v6 = .int .u64 (pv F n i : Nat) ∧ wr = w) (fun v4 _ _ => r0 - (intOf v4).toNat)
    case atStart => exact ⟨0, Nat.zero_le _, Nat.zero_le _, rfl, by rw [pv_zero]; rfl, rfl⟩
    case round =>
      obtain ⟨i, hi0, hi1, rfl, rfl, rfl⟩ := hrel
      have hnd' := hnd
      have hk2 := HK2.out
      by_cases hlt : pv F n i < 2 ^ k
      · have hi2 : i < r0 := by
          rcases Nat.lt_or_ge i r0 with h | h
          · exact h
          · have := HP1.out
            rw [show r0 = i from by omega] at this
            omega
        have hsh : ((pv F n i : Nat) : Int) / 2 ^ k = 0 := by
          have : ((pv F n i / 2 ^ k : Nat) : Int) = 0 := by rw [Nat.div_eq_of_lt hlt]; rfl
          simpa using this
        by_cases hin : i < n
        · have hcell : wr.cell? ⟨p, i, none⟩ = some (.int .u8 (48 + (dv F i : Int))) := by
            rw [H.out.dig i (by omega), HG.out.dv_eq hin]
          have hd0 := HG.out.dv hin
          have hstep := pv_lt (F := F) hin
          have gi : i < 800 := by omega
          generalize dv F i = d at hcell hd0 hstep
          generalize pv F n i = x at hlt hsh hstep ⊢
          obtain ⟨m, hm⟩ : ∃ m : Nat, m = x * 10 := ⟨_, rfl⟩
          obtain ⟨z, hz⟩ : ∃ z : Nat, z = m + (48 + d) := ⟨_, rfl⟩
          obtain ⟨v, hv⟩ : ∃ v : Nat, v = 10 * x + d := ⟨_, rfl⟩
          have f1 : IntKind.u64.wrap ((x : Int) * 10) = (m : Int) := by rw [IntKind.wrap_u64]; omega
          have f2 : IntKind.u64.wrap ((m : Int) + (48 + (d : Int))) = (z : Int) := by rw [IntKind.wrap_u64]; omega
          have f3 : IntKind.u64.wrap ((z : Int) - 48) = (v : Int) := by rw [IntKind.wrap_u64]; omega
          rw [← hv] at hstep
          have HX := Aside0.mk hstep
          clear hstep hlt hk2 hm hz hv
          go_wp2_with fail
          go_roundw
          case rel =>
            exact ⟨i + 1, by omega, by omega, by go_num, by rw [HX.out], by first | trivial | rfl⟩
          case measure => first | (simp [intOf]; done) | (simp [intOf]; omega)
        · obtain rfl : i = n := by omega
          have hx0 : (((pv F i i : Nat) : Int) == 0) = false := by
            rw [beq_eq_false_iff_ne]
            have : pv F i i = val F i := by unfold pv; rw [if_pos (Nat.le_refl _)]
            rw [this]
            have := HN0.out
            omega
          have hge : ¬ (i : Int) < i := by omega
          clear hlt hk2
          go_wp2_with fail
          go_loopw [4, 6] (fun v4 v6 wx => ∃ y : Nat, i ≤ y ∧ y ≤ r0 ∧ v4 = .int .i64 (y : Int) ∧ v6 = .int .u64 (pv F i y : Nat) ∧ wx = wr) (fun v4 _ _ => r0 - (intOf v4).toNat)
          case atStart => exact ⟨i, Nat.le_refl _, by omega, rfl, rfl, rfl⟩
          case round =>
            clear hsh hx0
            obtain ⟨y, hy0, hy1, rfl, rfl, rfl⟩ := hrel
            have hk2 := HK2.out
            by_cases hlt : pv F i y < 2 ^ k
            · have hi2 : y < r0 := by
                rcases Nat.lt_or_ge y r0 with h | h
                · exact h
                · have := HP1.out
                  rw [show r0 = y from by omega] at this
                  omega
              have hsh : ((pv F i y : Nat) : Int) / 2 ^ k = 0 := by
                have : ((pv F i y / 2 ^ k : Nat) : Int) = 0 := by rw [Nat.div_eq_of_lt hlt]; rfl
                simpa using this
              have hstep := pv_ge (F := F) hy0
              generalize pv F i y = x at hlt hsh hstep ⊢
              obtain ⟨v, hv⟩ : ∃ v : Nat, v = 10 * x := ⟨_, rfl⟩
              have f1 : IntKind.u64.wrap ((x : Int) * 10) = (v : Int) := by rw [IntKind.wrap_u64]; omega
              rw [← hv] at hstep
              have HX := Aside0.mk hstep
              clear hstep hlt hk2 hv
              go_wp2_with fail
              go_roundw
              case rel => exact ⟨y + 1, by omega, by omega, by go_num, by rw [HX.out], by first | trivial | rfl⟩
              case measure => first | (simp [intOf]; done) | (simp [intOf]; omega)
            · obtain rfl : y = r0 := by
                rcases Nat.lt_or_ge y r0 with h | h
                · exact absurd (HP0.out y h) hlt
                · omega
              have hsh : (((pv F i y : Nat) : Int) / 2 ^ k == 0) = false := by
                rw [beq_eq_false_iff_ne]
                have h1 : 0 < pv F i y / 2 ^ k := Nat.div_pos (by omega) (Nat.pow_pos (by omega))
                have h2 : ((pv F i y / 2 ^ k : Nat) : Int) ≠ 0 := by omega
                simpa using h2
              go_wp2_with fail
              go_meet
              case rel => exact ⟨rfl, rfl, rfl⟩
      · obtain rfl : i = r0 := by
          rcases Nat.lt_or_ge i r0 with h | h
          · exact absurd (HP0.out i h) hlt
          · omega
        have hsh : (((pv F n i : Nat) : Int) / 2 ^ k == 0) = false := by
          rw [beq_eq_false_iff_ne]
          have h1 : 0 < pv F n i / 2 ^ k := Nat.div_pos (by omega) (Nat.pow_pos (by omega))
          have h2 : ((pv F n i / 2 ^ k : Nat) : Int) ≠ 0 := by omega
          simpa using h2
        go_wp2_with fail
        go_meet
        case rel => exact ⟨rfl, rfl, rfl⟩
  case rest =>
    obtain ⟨rfl, rfl, rfl⟩ := hcut
    have hdp := H.out.dp
    have hfz := H.out.fz 801
    have a1 : wrap64 ((r0 : Int) - 1) = (r0 : Int) - 1 := by unfold wrap64; omega
    have a2 : wrap64 (dp - ((r0 : Int) - 1)) = dp - ((r0 : Int) - 1) := by unfold wrap64; omega
    go_wp2_with fail
    obtain ⟨M, hM⟩ : ∃ M : Int, M = 2 ^ k - 1 := ⟨_, rfl⟩
    have hmask : IntKind.u64.wrap (IntKind.u64.wrap (2 ^ k) - 1) = M := by
      have e : (2 : Int) ^ k = ((2 ^ k : Nat) : Int) := by simp
      have := HK2.out
      have hp : 0 < 2 ^ k := Nat.pow_pos (by omega)
      rw [hM, e, IntKind.wrap_u64, IntKind.wrap_u64]
      omega
    rw [hmask]
    have hand : ∀ x : Nat, x < 18446744073709551616 → bits .and .u64 (x : Int) M = ((x % 2 ^ k : Nat) : Int) := fun x hx => by
      rw [hM, bits_mask .u64 64 (by decide) (fun n h0 h1 => by rw [IntKind.wrap_u64]; omega) k (by omega) (x : Int) (by omega) (by omega)]
      simp
    have HAND := Aside0.mk hand
    have hpk : 0 < 2 ^ k := Nat.pow_pos (by omega)
    have hstart : pv F n r0 = rn F n k (r0 + 0) := by
      unfold rn
      rw [Nat.add_zero, Nat.mod_eq_of_lt]
      have h1 := HP0.out (r0 - 1) (by omega)
      obtain ⟨r, rfl⟩ : ∃ r, r0 = r + 1 := ⟨r0 - 1, by omega⟩
      rw [Nat.add_sub_cancel] at h1
      by_cases hrn : r < n
      · have := HG.out.dv hrn
        rw [pv_lt hrn]
        omega
      · rw [pv_ge (by omega)]
        omega
    have HP := Aside0.mk hpk
    clear hmask hand hM hpk hdp hfz a1 a2
    go_loopw [4, 5, 6] (fun v4 v5 v6 wr => ∃ j : Nat, j ≤ n - r0 ∧ v4 = .int .i64 ((r0 + j : Nat) : Int) ∧ v5 = .int .i64 (j : Int) ∧ v6 = .int .u64 (rn F n k (r0 + j) : Nat) ∧ Aside0 (∃ g, Dec wr p g n (dp - ((r0 : Int) - 1)) ng tr ∧ (∀ i, j ≤ i → i < n → g i = F i) ∧ (∀ i, i < j → g i = rdig F n k r0 i) ∧ Below p wc wr)) (fun v4 _ _ _ => n - (intOf v4).toNat)
    case atStart =>
      exact ⟨0, Nat.zero_le _, rfl, rfl, by rw [hstart], ⟨F, H.out.setDp _, fun i _ _ => rfl, fun i hi => absurd hi (by omega), Below.setCell (B := p) (Below.refl p wc) (p := ⟨p, 801, none⟩) (Nat.le_refl p) _⟩⟩
    case round =>
      clear hstart hnd
      obtain ⟨j, hj, rfl, rfl, rfl, HL⟩ := hrel
      have hnd' : wr.cell? ⟨p, 800, none⟩ = some (.int .i64 (n : Int)) := by
        obtain ⟨g, h1, h2, h3, h4⟩ := HL.out
        exact h1.nd
      by_cases hin : r0 + j < n
      · have hcell : wr.cell? ⟨p, r0 + j, none⟩ = some (.int .u8 (48 + (dv F (r0 + j) : Int))) := by
          obtain ⟨g, h1, h2, h3, h4⟩ := HL.out
          rw [h1.dig _ (by omega), h2 _ (by omega) hin, HG.out.dv_eq hin]
        have hcj : ∃ z, wr.cell? ⟨p, j, none⟩ = some z := by
          obtain ⟨g, h1, h2, h3, h4⟩ := HL.out
          exact ⟨_, h1.dig j (by omega)⟩
        obtain ⟨zj, hcj⟩ := hcj
        have hfz : ∀ o, wr.frozen? ⟨p, o, none⟩ = false := by
          obtain ⟨g, h1, h2, h3, h4⟩ := HL.out
          exact h1.fz
        have gi : r0 + j < 800 := by omega
        have gj : j < 800 := by omega
        have hd0 := HG.out.dv hin
        have hstep := rn_succ_lt (k := k) HG.out hin
        have hlt := rn_lt F n k (r0 + j)
        have hdiv := rn_div F n k (r0 + j)
        have hk2 := HK2.out
        have hpk := HP.out
        generalize dv F (r0 + j) = d at hcell hd0 hstep
        generalize rn F n k (r0 + j) = x at hstep hlt hdiv ⊢
        have hx64 : x < 18446744073709551616 := by omega
        have f0 := HAND.out x hx64
        have hmlt : x % 2 ^ k < 2 ^ k := Nat.mod_lt _ hpk
        have hq9 : x / 2 ^ k ≤ 9 := by rw [hdiv]; omega
        obtain ⟨m, hm⟩ : ∃ m : Nat, m = x % 2 ^ k := ⟨_, rfl⟩
        obtain ⟨q, hq⟩ : ∃ q : Nat, q = x / 2 ^ k := ⟨_, rfl⟩
        obtain ⟨m10, hm10⟩ : ∃ m10 : Nat, m10 = m * 10 := ⟨_, rfl⟩
        obtain ⟨z, hz⟩ : ∃ z : Nat, z = m10 + (48 + d) := ⟨_, rfl⟩
        obtain ⟨y, hy⟩ : ∃ y : Nat, y = m * 10 + d := ⟨_, rfl⟩
        obtain ⟨v, hv⟩ : ∃ v : Nat, v = 48 + q := ⟨_, rfl⟩
        have hsh : (x : Int) / 2 ^ k = (q : Int) := by
          rw [hq]; simp
        rw [← hm] at f0 hmlt hstep
        rw [← hq] at hq9 hdiv
        rw [← hy] at hstep
        have f1 : IntKind.u64.wrap ((m : Int) * 10) = (m10 : Int) := by rw [IntKind.wrap_u64]; omega
        have f2 : IntKind.u64.wrap ((m10 : Int) + (48 + (d : Int))) = (z : Int) := by rw [IntKind.wrap_u64]; omega
        have f3 : IntKind.u64.wrap ((z : Int) - 48) = (y : Int) := by rw [IntKind.wrap_u64]; omega
        have f4 : IntKind.u64.wrap ((q : Int) + 48) = (v : Int) := by rw [IntKind.wrap_u64]; omega
        have f5 : (v : Int) % 256 = (v : Int) := by omega
        have HX := Aside0.mk hstep
        have HD := Aside0.mk hdiv
        have HV := Aside0.mk hv
        clear hstep hlt hk2 hm hz hv hq hm10 hy hdiv hx64 hpk hmlt
        go_wp2_with fail
        go_roundw
        case rel =>
          obtain ⟨g, h1, h2, h3, h4⟩ := HL.out
          refine ⟨j + 1, by omega, by go_num, by go_num, by rw [← Nat.add_assoc, HX.out], ⟨upd g j v, h1.setD j gj _, fun i hi1 hi2 => ?_, fun i hi => ?_, h4.setCell (Nat.le_refl _) _⟩⟩
          · unfold upd
            rw [if_neg (by omega)]
            exact h2 i (by omega) hi2
          · unfold upd
            by_cases e : i = j
            · rw [if_pos e, e]
              unfold rdig
              rw [← HD.out, HV.out]
              rfl
            · rw [if_neg e]
              exact h3 i (by omega)
        case measure => first | (simp [intOf]; done) | (simp [intOf]; omega)
      · have hjn : j = n - r0 := by omega
        have gge : n ≤ r0 + j := by omega
        go_wp2_with fail
        subst hjn
        go_loopg [5, 6] (J - (n - r0)) (fun kq v5 v6 wx => ∃ y : Nat, y + kq = J ∧ n - r0 ≤ y ∧ v5 = .int .i64 ((min y 800 : Nat) : Int) ∧ v6 = .int .u64 (rn F n k (r0 + y) : Nat) ∧ Aside0 (∃ g, Dec wx p g n (dp - ((r0 : Int) - 1)) ng (tr || lostR F n k r0 y) ∧ (∀ i, i < min y 800 → g i = rdig F n k r0 i) ∧ Below p wc wx))
        case atStart =>
          obtain ⟨g, h1, h2, h3, h4⟩ := HL.out
          refine ⟨n - r0, by omega, Nat.le_refl _, by rw [show min (n - r0) 800 = n - r0 from by omega], rfl, ⟨g, ?_, fun i hi => h3 i (by omega), h4⟩⟩
          rw [lostR_low _ _ _ _ _ (by omega), Bool.or_false]
          exact h1
        case round =>
          clear HL hnd' gge
          obtain ⟨y, hy0, hy1, rfl, rfl, HL⟩ := hrel
          have hfz : ∀ o, wr.frozen? ⟨p, o, none⟩ = false := by
            obtain ⟨g, h1, h2, h3⟩ := HL.out
            exact h1.fz
          obtain ⟨W, hW⟩ : ∃ W : Nat, W = min y 800 := ⟨_, rfl⟩
          rw [← hW]
          have hW8 : W ≤ 800 := by omega
          cases gk with
          | zero =>
            have hyJ : y = J := by omega
            subst hyJ
            rw [HJ.out.1]
            have hc8 : ∃ z, wr.cell? ⟨p, 800, none⟩ = some z := by
              obtain ⟨g, h1, h2, h3⟩ := HL.out
              exact ⟨_, h1.nd⟩
            obtain ⟨z8, hc8⟩ := hc8
            have HW0 := Aside0.mk hW
            clear hW
            go_wp2_with fail
            have hW := HW0.out
            obtain ⟨g, h1, h2, h3⟩ := HL.out
            have h4 := h1.setNd (W : Int)
            refine (trim_walk p g W (dp - ((r0 : Int) - 1)) ng _ hW8 _ h4).mono ?_
            rintro r w2 ⟨rfl, hD2, hB2⟩
            go_wp2_with fail
            go_end0
            have hg : ∀ j, j < W → g j = rdig F n k r0 j := fun j hj => h2 j (by omega)
            refine ⟨rfl, g, ?_, by rw [← hW]; exact hg, (Below.setCell (B := p) h3 (p := ⟨p, 800, none⟩) (Nat.le_refl p) _).trans hB2⟩
            rw [← hW, ← cut_congr hg]
            exact hD2
          | succ k1 =>
            have hne := HJ.out.2 y hy1 (by omega)
            have hstep := rn_succ_ge (F := F) (k := k) (nd := n) (r := r0 + y) (by omega)
            have hlt := rn_lt F n k (r0 + y)
            have hdiv := rn_div F n k (r0 + y)
            have hk2 := HK2.out
            have hpk := HP.out
            have hlost := lostR_succ F n k r0 y
            generalize rn F n k (r0 + y) = x at hstep hlt hdiv hne hlost ⊢
            have hx64 : x < 18446744073709551616 := by omega
            have f0 := HAND.out x hx64
            have hmlt : x % 2 ^ k < 2 ^ k := Nat.mod_lt _ hpk
            have hq9 : x / 2 ^ k ≤ 9 := by rw [hdiv]; omega
            have gx : 0 < x := by omega
            obtain ⟨m, hm⟩ : ∃ m : Nat, m = x % 2 ^ k := ⟨_, rfl⟩
            obtain ⟨q, hq⟩ : ∃ q : Nat, q = x / 2 ^ k := ⟨_, rfl⟩
            obtain ⟨m10, hm10⟩ : ∃ m10 : Nat, m10 = m * 10 := ⟨_, rfl⟩
            obtain ⟨v, hv⟩ : ∃ v : Nat, v = 48 + q := ⟨_, rfl⟩
            have hsh : (x : Int) / 2 ^ k = (q : Int) := by
              rw [hq]; simp
            rw [← hm] at f0 hmlt hstep
            rw [← hq] at hq9 hdiv hlost
            rw [← hm10] at hstep
            have f1 : IntKind.u64.wrap ((m : Int) * 10) = (m10 : Int) := by rw [IntKind.wrap_u64]; omega
            have f4 : IntKind.u64.wrap ((q : Int) + 48) = (v : Int) := by rw [IntKind.wrap_u64]; omega
            have f5 : (v : Int) % 256 = (v : Int) := by omega
            have HX := Aside0.mk hstep
            have HD := Aside0.mk hdiv
            have HV := Aside0.mk hv
            have HLS := Aside0.mk hlost
            have HWW := Aside0.mk hW
            clear hstep hlt hk2 hm hv hq hm10 hdiv hx64 hpk hmlt hlost hne
            by_cases gw : W < 800
            · have hcw : ∃ z, wr.cell? ⟨p, W, none⟩ = some z := by
                obtain ⟨g, h1, h2, h3⟩ := HL.out
                exact ⟨_, h1.dig W gw⟩
              obtain ⟨zw, hcw⟩ := hcw
              have HWy := Aside0.mk (show W = y by omega)
              clear hW
              go_wp2_with fail
              go_roundg k1
              case measure => omega
              case rel =>
                have hWy := HWy.out
                obtain ⟨g, h1, h2, h3⟩ := HL.out
                refine ⟨y + 1, by omega, by omega, by go_num, by rw [← Nat.add_assoc, HX.out], ⟨upd g W v, ?_, fun i hi => ?_, Below.setCell (B := p) h3 (p := ⟨p, W, none⟩) (Nat.le_refl p) _⟩⟩
                · rw [HLS.out, show decide (800 ≤ y) = false from decide_eq_false (by omega), Bool.false_and, Bool.or_false]
                  exact h1.setD W gw _
                · unfold upd
                  by_cases e : i = W
                  · rw [if_pos e, e, hWy]
                    unfold rdig
                    rw [← HD.out, HV.out]
                    rfl
                  · rw [if_neg e]
                    exact h2 i (by omega)
            · have hc3 : ∃ z, wr.cell? ⟨p, 803, none⟩ = some z := by
                obtain ⟨g, h1, h2, h3⟩ := HL.out
                exact ⟨_, h1.tr⟩
              obtain ⟨z3, hc3⟩ := hc3
              have HY8 := Aside0.mk (show 800 ≤ y ∧ W = 800 by omega)
              have gw' : 800 ≤ W := by omega
              clear hW gw
              by_cases hq0 : q = 0
              · subst hq0
                go_wp2_with fail
                go_roundg k1
                case measure => omega
                case rel =>
                  obtain ⟨hy8, hW800⟩ := HY8.out
                  obtain ⟨g, h1, h2, h3⟩ := HL.out
                  refine ⟨y + 1, by omega, by omega, by go_num, by rw [← Nat.add_assoc, HX.out], ⟨g, ?_, fun i hi => h2 i (by omega), h3⟩⟩
                  rw [HLS.out, show decide ((0 : Nat) ≠ 0) = false from by decide, Bool.and_false, Bool.or_false]
                  exact h1
              · have gq : 0 < q := by omega
                go_wp2_with fail
                go_roundg k1
                case measure => omega
                case rel =>
                  obtain ⟨hy8, hW800⟩ := HY8.out
                  obtain ⟨g, h1, h2, h3⟩ := HL.out
                  refine ⟨y + 1, by omega, by omega, by go_num, by rw [← Nat.add_assoc, HX.out], ⟨g, ?_, fun i hi => h2 i (by omega), Below.setCell (B := p) h3 (p := ⟨p, 803, none⟩) (Nat.le_refl p) _⟩⟩
                  rw [HLS.out, show decide (800 ≤ y) = true from decide_eq_true hy8, show decide (q ≠ 0) = true from decide_eq_true hq0]
                  simp only [Bool.and_self, Bool.or_true]
                  exact h1.setTr true
end Go.Proofs.YtlkbhmmelejmjaaGreatDoor.FltRight

/- The decimal of the slow road: what the shifts make of a good one (plain). -/
namespace Go.Proofs.YtlkbhmmelejmjaaGreatDoor.FltLaw
open Go.RowKit Go.Proofs.YtlkbhmmelejmjaaGreatDoorW.PrintWords Go.Proofs.YtlkbhmmelejmjaaGreatDoor.NumKnown Go.Proofs.YtlkbhmmelejmjaaGreatDoor.NumPure Go.Proofs.YtlkbhmmelejmjaaGreatDoor.FltDec Go.Proofs.YtlkbhmmelejmjaaGreatDoor.FltPure Go.Proofs.YtlkbhmmelejmjaaGreatDoor.FltLeft Go.Proofs.YtlkbhmmelejmjaaGreatDoor.FltRight
set_option linter.unusedVariables false
set_option linter.unusedSimpArgs false

/-- The digits from place i on, m of them, with zeros behind the last. -/
def pd (F : Nat → Int) (n i : Nat) : Nat := if i < n then dv F i else 0
def sv (F : Nat → Int) (n : Nat) : Nat → Nat → Nat
  | _, 0 => 0
  | i, m + 1 => pd F n i * 10 ^ m + sv F n (i + 1) m
theorem pd_le {F : Nat → Int} {n i : Nat} (h : good F n) : pd F n i ≤ 9 := by
  unfold pd
  split
  · exact h.dv (by assumption)
  · omega
theorem sv_lt {F : Nat → Int} {n : Nat} (h : good F n) : ∀ m i, sv F n i m < 10 ^ m
  | 0, i => by simp [sv]
  | m + 1, i => by
    have h1 := sv_lt h m (i + 1)
    have h2 := pd_le (i := i) h
    simp only [sv, Nat.pow_succ]
    have : pd F n i * 10 ^ m ≤ 9 * 10 ^ m := Nat.mul_le_mul_right _ h2
    omega
theorem sv_zero {F : Nat → Int} {n : Nat} : ∀ m i, n ≤ i → sv F n i m = 0
  | 0, i, _ => rfl
  | m + 1, i, h => by
    simp only [sv]
    rw [sv_zero m (i + 1) (by omega)]
    unfold pd
    rw [if_neg (by omega)]
    omega
/-- The number that a text of digits is. -/
def tv : List UInt8 → Nat
  | [] => 0
  | c :: r => (c.toNat - 48) * 10 ^ r.length + tv r
/-- Digits alone, the last none of 0. -/
def tgood : List UInt8 → Bool
  | [] => true
  | [c] => decide (49 ≤ c.toNat) && decide (c.toNat ≤ 57)
  | c :: r => decide (48 ≤ c.toNat) && decide (c.toNat ≤ 57) && tgood r
theorem tgood_head {c : UInt8} {r : List UInt8} (h : tgood (c :: r) = true) : 48 ≤ c.toNat ∧ c.toNat ≤ 57 ∧ tgood r = true := by
  cases r with
  | nil =>
    simp only [tgood, Bool.and_eq_true, decide_eq_true_eq] at h
    exact ⟨by omega, h.2, rfl⟩
  | cons d r =>
    unfold tgood at h
    rw [Bool.and_eq_true, Bool.and_eq_true, decide_eq_true_eq, decide_eq_true_eq] at h
    exact ⟨h.1.1, h.1.2, h.2⟩
theorem tgood_pos : ∀ {c : UInt8} {r : List UInt8}, tgood (c :: r) = true → 0 < tv (c :: r)
  | c, [], h => by
    simp only [tgood, Bool.and_eq_true, decide_eq_true_eq] at h
    simp only [tv, List.length_nil, Nat.pow_zero]
    omega
  | c, d :: r, h => by
    have h1 := (tgood_head h).2.2
    have h2 := tgood_pos h1
    rw [tv]
    omega
theorem pl_eq {F : Nat → Int} {n : Nat} (hg : good F n) : ∀ (l : List UInt8) (i : Nat), tgood l = true → pl F n i l = decide (sv F n i l.length < tv l)
  | [], i, _ => by simp [pl, sv, tv]
  | c :: r, i, h => by
    have hp := tgood_pos h
    obtain ⟨h0, h1, h2⟩ := tgood_head h
    rw [pl_cons]
    by_cases hin : n ≤ i
    · rw [if_pos hin, sv_zero _ _ hin]
      simp [hp]
    · rw [if_neg hin]
      have hd := hg.dv_eq (i := i) (by omega)
      have hd9 := hg.dv (i := i) (by omega)
      have hs := sv_lt hg r.length (i + 1)
      have e1 : sv F n i (c :: r).length = dv F i * 10 ^ r.length + sv F n (i + 1) r.length := by
        rw [List.length_cons]
        simp only [sv]
        unfold pd
        rw [if_pos (by omega)]
      rw [e1]
      have hT : tv (c :: r) = (c.toNat - 48) * 10 ^ r.length + tv r := rfl
      generalize tv (c :: r) = T at hT hp
      by_cases he : F i = (c.toNat : Int)
      · rw [if_pos he, pl_eq hg r (i + 1) h2]
        have : c.toNat - 48 = dv F i := by omega
        apply Bool.eq_iff_iff.2
        rw [decide_eq_true_iff, decide_eq_true_iff, hT, this, Nat.add_lt_add_iff_left]
      · rw [if_neg he]
        by_cases hlt : F i < (c.toNat : Int)
        · rw [decide_eq_true hlt]
          symm
          apply decide_eq_true
          have : (dv F i + 1) * 10 ^ r.length ≤ (c.toNat - 48) * 10 ^ r.length := Nat.mul_le_mul_right _ (by omega)
          rw [Nat.add_mul] at this
          omega
        · rw [decide_eq_false hlt]
          symm
          apply decide_eq_false
          have : (c.toNat - 48 + 1) * 10 ^ r.length ≤ dv F i * 10 ^ r.length := Nat.mul_le_mul_right _ (by omega)
          rw [Nat.add_mul] at this
          have htv : ∀ l : List UInt8, tgood l = true → tv l < 10 ^ l.length := by
            intro l
            induction l with
            | nil => simp [tv]
            | cons d l ih =>
              intro hh
              obtain ⟨q0, q1, q2⟩ := tgood_head hh
              have := ih q2
              rw [tv, List.length_cons, Nat.pow_succ]
              have h9 : (d.toNat - 48) * 10 ^ l.length ≤ 9 * 10 ^ l.length := Nat.mul_le_mul_right _ (by omega)
              omega
          have := htv r h2
          omega

/-- The first m digits and the number of all. -/
theorem sv_val {F : Nat → Int} {n : Nat} (hg : good F n) : ∀ m, sv F n 0 m = pv F n m := by
  have key : ∀ m i, pv F n (i + m) = pv F n i * 10 ^ m + sv F n i m := by
    intro m
    induction m with
    | zero => intro i; simp [sv]
    | succ m ih =>
      intro i
      rw [show i + (m + 1) = (i + 1) + m from by omega, ih (i + 1)]
      simp only [sv, Nat.pow_succ]
      unfold pd
      by_cases h : i < n
      · rw [if_pos h, pv_lt h, Nat.add_mul, Nat.mul_comm 10, Nat.mul_assoc, Nat.mul_comm 10]
        omega
      · rw [if_neg h, pv_ge (by omega), Nat.mul_comm 10, Nat.mul_assoc, Nat.mul_comm 10]
        omega
  intro m
  have := key m 0
  rw [pv_zero, Nat.zero_add] at this
  omega
theorem pv_val {F : Nat → Int} {n : Nat} (hg : good F n) (m : Nat) : pv F n m * 10 ^ n ≤ val F n * 10 ^ m ∧ val F n * 10 ^ m < (pv F n m + 1) * 10 ^ n := by
  unfold pv
  by_cases h : m ≤ n
  · rw [if_pos h]
    have key : ∀ d m, good F (m + d) → val F m * 10 ^ d ≤ val F (m + d) ∧ val F (m + d) < (val F m + 1) * 10 ^ d := by
      intro d
      induction d with
      | zero => intro m _; simp
      | succ d ih =>
        intro m hgm
        obtain ⟨h1, h2⟩ := ih m (hgm.mono (by omega))
        have h3 := hgm.dv (i := m + d) (by omega)
        rw [show m + (d + 1) = (m + d) + 1 from by omega]
        simp only [val]
        rw [Nat.pow_succ, ← Nat.mul_assoc, ← Nat.mul_assoc]
        omega
    obtain ⟨d, rfl⟩ : ∃ d, n = m + d := ⟨n - m, by omega⟩
    obtain ⟨h1, h2⟩ := key d m hg
    rw [Nat.pow_add, Nat.mul_comm (10 ^ m), ← Nat.mul_assoc, ← Nat.mul_assoc]
    exact ⟨Nat.mul_le_mul_right _ h1, Nat.mul_lt_mul_of_pos_right h2 (Nat.pow_pos (by omega))⟩
  · rw [if_neg h]
    obtain ⟨d, rfl⟩ : ∃ d, m = n + d := ⟨m - n, by omega⟩
    rw [Nat.add_sub_cancel_left, Nat.pow_add, Nat.mul_comm (10 ^ n), ← Nat.mul_assoc]
    exact ⟨Nat.le_refl _, Nat.mul_lt_mul_of_pos_right (Nat.lt_succ_self _) (Nat.pow_pos (by omega))⟩

theorem val_low {F : Nat → Int} {n : Nat} (hg : good F n) (hn : 1 ≤ n) (h0 : F 0 ≠ 48) : 10 ^ n ≤ 10 * val F n := by
  have h1 := hg.dv_eq (i := 0) (by omega)
  have hd : 1 ≤ dv F 0 := by omega
  have h2 := (pv_val hg 1).1
  have h3 : pv F n 1 = dv F 0 := by rw [pv_lt (by omega), pv_zero]; omega
  rw [h3] at h2
  have : 1 * 10 ^ n ≤ dv F 0 * 10 ^ n := Nat.mul_le_mul_right _ hd
  omega

/-- What the shift to the left makes of the number, by the table's two cells. -/
theorem left_law {F : Nat → Int} {n k L d : Nat} (hg : good F n) (hn : 1 ≤ n) (h0 : F 0 ≠ 48) (l : List UInt8) (hl : l.length = L) (ht : tgood l = true) (h5 : tv l = 5 ^ k) (hL : L ≤ k) (hd : d = k - L + 1) (hlo : 10 ^ L ≤ 10 * 5 ^ k) (hhi : 5 ^ k < 10 ^ L) :
    ∃ e, d = e + (if pl F n 0 l then 1 else 0) ∧ val F n * 2 ^ k < 10 ^ (n + e) ∧ 10 ^ (n + e) ≤ 10 * (val F n * 2 ^ k) := by
  rw [pl_eq hg l 0 ht, hl, h5, sv_val hg]
  obtain ⟨v1, v2⟩ := pv_val hg L
  have vhi := val_lt hg
  have vlo := val_low hg hn h0
  have e25 : 5 ^ k * 2 ^ k = 10 ^ k := by rw [← Nat.mul_pow]
  have hLp : 0 < 10 ^ L := Nat.pow_pos (by omega)
  have h2p : 0 < 2 ^ k := Nat.pow_pos (by omega)
  have h5p : 0 < 5 ^ k := Nat.pow_pos (by omega)
  obtain ⟨q, rfl⟩ : ∃ q, k = L + q := ⟨k - L, by omega⟩
  rw [Nat.add_sub_cancel_left] at hd
  by_cases hc : pv F n L < 5 ^ (L + q)
  · refine ⟨q, by rw [if_pos (by simpa using hc)]; exact hd, ?_, ?_⟩
    · have h1 : val F n * 10 ^ L < 5 ^ (L + q) * 10 ^ n := Nat.lt_of_lt_of_le v2 (Nat.mul_le_mul_right _ hc)
      have h2 : val F n * 10 ^ L * 2 ^ (L + q) < 5 ^ (L + q) * 10 ^ n * 2 ^ (L + q) := Nat.mul_lt_mul_of_pos_right h1 h2p
      have h3 : 5 ^ (L + q) * 10 ^ n * 2 ^ (L + q) = 10 ^ (n + q) * 10 ^ L := by
        rw [Nat.mul_assoc, Nat.mul_comm (10 ^ n), ← Nat.mul_assoc, e25, ← Nat.pow_add, ← Nat.pow_add]
        congr 1; omega
      have h4 : val F n * 10 ^ L * 2 ^ (L + q) = val F n * 2 ^ (L + q) * 10 ^ L := by rw [Nat.mul_assoc, Nat.mul_comm (10 ^ L), ← Nat.mul_assoc]
      rw [h3, h4] at h2
      exact Nat.lt_of_mul_lt_mul_right h2
    · have h1 : 10 ^ q ≤ 2 ^ (L + q) := by
        have : 10 ^ q * 10 ^ L ≤ 2 ^ (L + q) * 10 ^ L := by
          rw [← Nat.pow_add, Nat.add_comm q L, ← e25, Nat.mul_comm]
          exact Nat.mul_le_mul_left _ (Nat.le_of_lt hhi)
        exact Nat.le_of_mul_le_mul_right this hLp
      rw [Nat.pow_add 10 n q, ← Nat.mul_assoc]
      exact Nat.mul_le_mul vlo h1
  · refine ⟨q + 1, by rw [if_neg (by simpa using hc)]; omega, ?_, ?_⟩
    · have h1 : 2 ^ (L + q) ≤ 10 ^ (q + 1) := by
        have : 2 ^ (L + q) * 10 ^ L ≤ 10 ^ (q + 1) * 10 ^ L := by
          calc 2 ^ (L + q) * 10 ^ L ≤ 2 ^ (L + q) * (10 * 5 ^ (L + q)) := Nat.mul_le_mul_left _ hlo
            _ = 10 * (5 ^ (L + q) * 2 ^ (L + q)) := by rw [Nat.mul_comm, Nat.mul_assoc]
            _ = 10 ^ (q + 1) * 10 ^ L := by rw [e25, ← Nat.pow_add, Nat.mul_comm, ← Nat.pow_succ]; congr 1; omega
        exact Nat.le_of_mul_le_mul_right this hLp
      rw [Nat.pow_add 10 n (q + 1)]
      exact Nat.lt_of_lt_of_le (Nat.mul_lt_mul_of_pos_right vhi h2p) (Nat.mul_le_mul_left _ h1)
    · have h1 : 5 ^ (L + q) * 10 ^ n ≤ val F n * 10 ^ L := Nat.le_trans (Nat.mul_le_mul_right _ (by omega)) v1
      have h2 : 5 ^ (L + q) * 10 ^ n * 2 ^ (L + q) ≤ val F n * 10 ^ L * 2 ^ (L + q) := Nat.mul_le_mul_right _ h1
      have h3 : 5 ^ (L + q) * 10 ^ n * 2 ^ (L + q) = 10 ^ (n + q) * 10 ^ L := by
        rw [Nat.mul_assoc, Nat.mul_comm (10 ^ n), ← Nat.mul_assoc, e25, ← Nat.pow_add, ← Nat.pow_add]
        congr 1; omega
      have h4 : val F n * 10 ^ L * 2 ^ (L + q) = val F n * 2 ^ (L + q) * 10 ^ L := by rw [Nat.mul_assoc, Nat.mul_comm (10 ^ L), ← Nat.mul_assoc]
      rw [h3, h4] at h2
      have h5' := Nat.le_of_mul_le_mul_right h2 hLp
      rw [← Nat.add_assoc, Nat.pow_succ, Nat.mul_comm]
      exact Nat.mul_le_mul_left _ h5'
end Go.Proofs.YtlkbhmmelejmjaaGreatDoor.FltLaw

/- The decimal of the slow road: its state, and the two shifts as functions of it. -/
namespace Go.Proofs.YtlkbhmmelejmjaaGreatDoor.FltState
open Go.RowKit Go.Proofs.YtlkbhmmelejmjaaGreatDoorW.PrintWords Go.Proofs.YtlkbhmmelejmjaaGreatDoor.NumKnown Go.Proofs.YtlkbhmmelejmjaaGreatDoor.NumPure Go.Proofs.YtlkbhmmelejmjaaGreatDoor.FltDec Go.Proofs.YtlkbhmmelejmjaaGreatDoor.FltPure Go.Proofs.YtlkbhmmelejmjaaGreatDoor.FltLeft Go.Proofs.YtlkbhmmelejmjaaGreatDoor.FltRight Go.Proofs.YtlkbhmmelejmjaaGreatDoor.FltLaw
set_option linter.unusedVariables false
set_option linter.unusedSimpArgs false

structure St where
  F : Nat → Int
  n : Nat
  dp : Int
  tr : Bool
structure St.Good (s : St) : Prop where
  one : 1 ≤ s.n
  most : s.n ≤ 800
  dig : good s.F s.n
  head : s.F 0 ≠ 48
def St.At (s : St) (p : Nat) (ng : Bool) (w : World) : Prop := ∃ g, Dec w p g s.n s.dp ng s.tr ∧ ∀ j, j < s.n → g j = s.F j

/-- The table's cells. -/
def lcD (k : Nat) : Nat := (Pinned.cheatRows.getD k (0, [])).1
def lcL (k : Nat) : List UInt8 := (Pinned.cheatRows.getD k (0, [])).2
def lcT (k : Nat) : ByteArray := ⟨(lcL k).toArray⟩
def lcOk (k : Nat) : Bool := tgood (lcL k) && decide (tv (lcL k) = 5 ^ k) && decide ((lcL k).length ≤ k) && decide (lcD k = k - (lcL k).length + 1) && decide (10 ^ (lcL k).length ≤ 10 * 5 ^ k) && decide (5 ^ k < 10 ^ (lcL k).length) && decide ((lcL k).length ≤ 1000) && decide (lcD k ≤ 20)
theorem lc_all : ((List.range 60).all fun i => lcOk (i + 1)) = true := by decide +kernel
theorem lc_at (k : Nat) (h1 : 1 ≤ k) (h2 : k ≤ 60) : lcOk k = true := by
  have := List.all_eq_true.1 lc_all (k - 1) (by simp; omega)
  rwa [show k - 1 + 1 = k from by omega] at this

/-- The first place from i on that a test takes. -/
def least (P : Nat → Bool) : Nat → Nat → Nat
  | 0, i => i
  | f + 1, i => if P i = true then i else least P f (i + 1)
theorem least_le (P : Nat → Bool) : ∀ f i j, i ≤ j → j ≤ i + f → P j = true → least P f i ≤ j
  | 0, i, j, h1, h2, _ => h1
  | f + 1, i, j, h1, h2, h3 => by
    unfold least
    split
    · exact h1
    · next h =>
      have : i ≠ j := fun e => h (e ▸ h3)
      exact least_le P f (i + 1) j (by omega) (by omega) h3
theorem least_ge (P : Nat → Bool) : ∀ f i, i ≤ least P f i
  | 0, i => Nat.le_refl _
  | f + 1, i => by
    unfold least
    split
    · exact Nat.le_refl _
    · exact Nat.le_trans (Nat.le_succ i) (least_ge P f (i + 1))
theorem least_is (P : Nat → Bool) : ∀ f i j, i ≤ j → j ≤ i + f → P j = true → P (least P f i) = true
  | 0, i, j, h1, h2, h3 => by
    obtain rfl : i = j := by omega
    exact h3
  | f + 1, i, j, h1, h2, h3 => by
    unfold least
    split
    · assumption
    · next h =>
      have : i ≠ j := fun e => h (e ▸ h3)
      exact least_is P f (i + 1) j (by omega) (by omega) h3
theorem least_not (P : Nat → Bool) : ∀ f i j, i ≤ j → j < least P f i → P j = false
  | 0, i, j, h1, h2 => absurd h2 (by unfold least; omega)
  | f + 1, i, j, h1, h2 => by
    unfold least at h2
    split at h2
    · omega
    · next h =>
      by_cases e : i = j
      · subst e; simpa using h
      · exact least_not P f (i + 1) j (by omega) h2

theorem val_congr {F G : Nat → Int} : ∀ {n : Nat}, (∀ j, j < n → F j = G j) → val F n = val G n
  | 0, _ => rfl
  | n + 1, h => by
    simp only [val]
    rw [val_congr (n := n) (fun j hj => h j (by omega))]
    unfold dv
    rw [h n (by omega)]
theorem pl_congr {F G : Nat → Int} {n : Nat} (h : ∀ j, j < n → F j = G j) : ∀ (l : List UInt8) (i : Nat), pl F n i l = pl G n i l
  | [], _ => rfl
  | c :: r, i => by
    rw [pl_cons, pl_cons]
    by_cases hin : n ≤ i
    · rw [if_pos hin, if_pos hin]
    · rw [if_neg hin, if_neg hin, h i (by omega), pl_congr h r (i + 1)]
theorem pv_congr {F G : Nat → Int} {n : Nat} (h : ∀ j, j < n → F j = G j) (r : Nat) : pv F n r = pv G n r := by
  unfold pv
  by_cases hr : r ≤ n
  · rw [if_pos hr, if_pos hr, val_congr (fun j hj => h j (by omega))]
  · rw [if_neg hr, if_neg hr, val_congr h]
theorem rdig_congr {F G : Nat → Int} {n : Nat} (h : ∀ j, j < n → F j = G j) (k r0 : Nat) : rdig F n k r0 = rdig G n k r0 := by
  funext j
  unfold rdig
  rw [pv_congr h]
theorem rn_congr {F G : Nat → Int} {n : Nat} (h : ∀ j, j < n → F j = G j) (k r : Nat) : rn F n k r = rn G n k r := by
  unfold rn
  rw [pv_congr h]
theorem lostR_congr {F G : Nat → Int} {n : Nat} (h : ∀ j, j < n → F j = G j) (k r0 : Nat) : ∀ j, lostR F n k r0 j = lostR G n k r0 j
  | 0 => rfl
  | j + 1 => by rw [lostR_succ, lostR_succ, lostR_congr h k r0 j, rn_congr h]
theorem good_congr {F G : Nat → Int} {n : Nat} (h : ∀ j, j < n → F j = G j) (hg : good G n) : good F n := fun i hi => by rw [h i hi]; exact hg i hi

/-- The shift to the left. -/
def le (k : Nat) (s : St) : Nat := lcD k - (if pl s.F s.n 0 (lcL k) then 1 else 0)
def lX (k : Nat) (s : St) : Nat := val s.F s.n * 2 ^ k
def ls (k : Nat) (s : St) : St := ⟨dig (s.n + le k s) (lX k s), cut (dig (s.n + le k s) (lX k s)) (min (s.n + le k s) 800), s.dp + le k s, s.tr || lost (s.n + le k s) (lX k s) (s.n + le k s)⟩
theorem le_law {s : St} (hs : s.Good) {k : Nat} (h1 : 1 ≤ k) (h2 : k ≤ 60) : le k s ≤ 20 ∧ lcD k = le k s + (if pl s.F s.n 0 (lcL k) then 1 else 0) ∧ lX k s < 10 ^ (s.n + le k s) ∧ 10 ^ (s.n + le k s) ≤ 10 * lX k s := by
  have ho := lc_at k h1 h2
  unfold lcOk at ho
  simp only [Bool.and_eq_true, decide_eq_true_eq] at ho
  obtain ⟨⟨⟨⟨⟨⟨⟨o1, o2⟩, o3⟩, o4⟩, o5⟩, o6⟩, o7⟩, o8⟩ := ho
  obtain ⟨e, e1, e2, e3⟩ := left_law hs.dig hs.one hs.head (lcL k) rfl o1 o2 o3 o4 o5 o6
  have he : le k s = e := by unfold le; omega
  rw [he]
  exact ⟨by omega, e1, e2, e3⟩
theorem ls_head {s : St} (hs : s.Good) {k : Nat} (h1 : 1 ≤ k) (h2 : k ≤ 60) : dig (s.n + le k s) (lX k s) 0 = 48 + (lX k s / 10 ^ (s.n + le k s - 1) : Nat) ∧ 1 ≤ lX k s / 10 ^ (s.n + le k s - 1) := by
  obtain ⟨_, _, e2, e3⟩ := le_law hs h1 h2
  have hn := hs.one
  obtain ⟨N, hN⟩ : ∃ N, s.n + le k s = N + 1 := ⟨s.n + le k s - 1, by omega⟩
  rw [hN] at e2 e3 ⊢
  rw [Nat.pow_succ] at e2 e3
  rw [Nat.add_sub_cancel]
  have hp : 0 < 10 ^ N := Nat.pow_pos (by omega)
  have h9 : lX k s / 10 ^ N < 10 := by rw [Nat.div_lt_iff_lt_mul hp]; omega
  have h0 : 1 ≤ lX k s / 10 ^ N := Nat.div_pos (by omega) hp
  refine ⟨?_, h0⟩
  unfold dig
  rw [Nat.add_sub_cancel, Nat.sub_zero, Nat.mod_eq_of_lt h9]
theorem ls_good {s : St} (hs : s.Good) {k : Nat} (h1 : 1 ≤ k) (h2 : k ≤ 60) : (ls k s).Good := by
  obtain ⟨h3, h4⟩ := ls_head hs h1 h2
  have hn := hs.one
  have hne : dig (s.n + le k s) (lX k s) 0 ≠ 48 := by omega
  exact ⟨cut_pos hne (by omega), Nat.le_trans (cut_le _ _) (Nat.min_le_right _ _), dig_good _ _ _, hne⟩
end Go.Proofs.YtlkbhmmelejmjaaGreatDoor.FltState

/- The texts of floats as functions of their bytes (plain): the sign, the digits, the exponent; decimal.set and readFloat. -/
namespace Go.Proofs.YtlkbhmmelejmjaaGreatDoor.FltTextP
open Go.RowKit Go.Proofs.YtlkbhmmelejmjaaGreatDoorW.PrintWords Go.Proofs.YtlkbhmmelejmjaaGreatDoor.NumKnown Go.Proofs.YtlkbhmmelejmjaaGreatDoor.NumPure Go.Proofs.YtlkbhmmelejmjaaGreatDoor.FltDec Go.Proofs.YtlkbhmmelejmjaaGreatDoor.FltPure Go.Proofs.YtlkbhmmelejmjaaGreatDoor.FltLeft Go.Proofs.YtlkbhmmelejmjaaGreatDoor.FltRight Go.Proofs.YtlkbhmmelejmjaaGreatDoor.FltLaw Go.Proofs.YtlkbhmmelejmjaaGreatDoor.FltState
set_option linter.unusedVariables false
set_option linter.unusedSimpArgs false

/-- A letter as a small one. -/
def low (c : UInt8) : Int := Go.bits .or .u8 (c.toNat : Int) 32
def isD (c : UInt8) : Bool := decide (48 ≤ c.toNat ∧ c.toNat ≤ 57)
/-- The sign, and what is behind it. -/
def sgn : List UInt8 → Bool × List UInt8
  | [] => (false, [])
  | c :: r => if c.toNat = 43 then (false, r) else if c.toNat = 45 then (true, r) else (false, c :: r)
/-- The digits of an exponent. -/
def escan : List UInt8 → Int → Int × List UInt8
  | [], e => (e, [])
  | c :: r, e => if isD c then escan r (if e < 10000 then e * 10 + (c.toNat : Int) - 48 else e) else (e, c :: r)
def eval (g : Int) : List UInt8 → Option (Int × List UInt8)
  | [] => none
  | c :: r => if isD c then some ((escan (c :: r) 0).1 * g, (escan (c :: r) 0).2) else none
/-- An exponent behind its letter. -/
def expo : List UInt8 → Option (Int × List UInt8)
  | [] => none
  | c :: r => if c.toNat = 43 then eval 1 r else if c.toNat = 45 then eval (-1) r else eval 1 (c :: r)

/-- decimal.set: the state of its loop. -/
structure SS where
  F : Nat → Int
  n : Nat
  dp : Int
  tr : Bool
  dot : Bool
  dig : Bool
def sdig (c : UInt8) (s : SS) : SS :=
  if c.toNat = 48 ∧ s.n = 0 then ⟨s.F, s.n, s.dp - 1, s.tr, s.dot, true⟩
  else if s.n < 800 then ⟨upd s.F s.n (c.toNat : Int), s.n + 1, s.dp, s.tr, s.dot, true⟩
  else if c.toNat = 48 then ⟨s.F, s.n, s.dp, s.tr, s.dot, true⟩ else ⟨s.F, s.n, s.dp, true, s.dot, true⟩
def sscan : List UInt8 → SS → SS × List UInt8
  | [], s => (s, [])
  | c :: r, s => if c.toNat = 46 then (if s.dot then (s, c :: r) else sscan r ⟨s.F, s.n, s.n, s.tr, true, s.dig⟩)
    else if isD c then sscan r (sdig c s) else (s, c :: r)
def ss0 : SS := ⟨fun _ => 0, 0, 0, false, false, false⟩
def sdp (s : SS) : Int := if s.dot then s.dp else s.n
def sfin (s : SS) (x : Int) : List UInt8 → Option St
  | [] => some ⟨s.F, s.n, sdp s + x, s.tr⟩
  | _ :: _ => none
def sE (s : SS) : Option (Int × List UInt8) → Option St
  | none => none
  | some q => sfin s q.1 q.2
def sexp (s : SS) : List UInt8 → Option St
  | [] => some ⟨s.F, s.n, sdp s, s.tr⟩
  | c :: r => if low c = 101 then sE s (expo r) else none
def setF (L : List UInt8) : Option St := if (sscan L ss0).1.dig then sexp (sscan L ss0).1 (sscan L ss0).2 else none

/-- readFloat: the state of its loop (base b, at most m digits kept). -/
structure RS where
  man : Int
  nd : Int
  nm : Int
  dp : Int
  tr : Bool
  dot : Bool
  dig : Bool
def rdig1 (b m : Int) (c : UInt8) (s : RS) : RS :=
  if c.toNat = 48 ∧ s.nd = 0 then ⟨s.man, s.nd, s.nm, s.dp - 1, s.tr, s.dot, true⟩
  else if s.nm < m then ⟨IntKind.u64.wrap (IntKind.u64.wrap (s.man * b) + ((c.toNat : Int) - 48)), s.nd + 1, s.nm + 1, s.dp, s.tr, s.dot, true⟩
  else if c.toNat = 48 then ⟨s.man, s.nd + 1, s.nm, s.dp, s.tr, s.dot, true⟩ else ⟨s.man, s.nd + 1, s.nm, s.dp, true, s.dot, true⟩
def rhex1 (m : Int) (c : UInt8) (s : RS) : RS :=
  if s.nm < m then ⟨IntKind.u64.wrap (IntKind.u64.wrap (s.man * 16) + (low c - 87)), s.nd + 1, s.nm + 1, s.dp, s.tr, s.dot, true⟩
  else ⟨s.man, s.nd + 1, s.nm, s.dp, true, s.dot, true⟩
def rscan (b m : Int) : List UInt8 → RS → RS × List UInt8
  | [], s => (s, [])
  | c :: r, s => if c.toNat = 46 then (if s.dot then (s, c :: r) else rscan b m r ⟨s.man, s.nd, s.nm, s.nd, s.tr, true, s.dig⟩)
    else if isD c then rscan b m r (rdig1 b m c s)
    else if b = 16 ∧ 97 ≤ low c ∧ low c ≤ 102 then rscan b m r (rhex1 m c s) else (s, c :: r)
def rs0 : RS := ⟨0, 0, 0, 0, false, false, false⟩
structure RR where
  man : Int
  exp : Int
  tr : Bool
  hx : Bool
  rest : List UInt8
def rdp (b : Int) (s : RS) : Int := if b = 16 then (if s.dot then s.dp else s.nd) * 4 else (if s.dot then s.dp else s.nd)
def rnm (b : Int) (s : RS) : Int := if b = 16 then s.nm * 4 else s.nm
def rfin (b : Int) (s : RS) (x : Int) (rest : List UInt8) : RR := ⟨s.man, if s.man = 0 then 0 else rdp b s + x - rnm b s, s.tr, decide (b = 16), rest⟩
def rbare (b : Int) (s : RS) (L : List UInt8) : Option RR := if b = 16 then none else some (rfin b s 0 L)
def rE (b : Int) (s : RS) : Option (Int × List UInt8) → Option RR
  | none => none
  | some q => some (rfin b s q.1 q.2)
def rexp (b ec : Int) (s : RS) : List UInt8 → Option RR
  | [] => rbare b s []
  | c :: r => if low c = ec then rE b s (expo r) else rbare b s (c :: r)
def rmain (b m ec : Int) (L : List UInt8) : Option RR := if (rscan b m L rs0).1.dig then rexp b ec (rscan b m L rs0).1 (rscan b m L rs0).2 else none
def hexat : List UInt8 → Bool
  | a :: b :: _ :: _ => decide (a.toNat = 48 ∧ low b = 120)
  | _ => false
def readF (L : List UInt8) : Option RR := if hexat L then rmain 16 16 112 (L.drop 2) else rmain 10 19 101 L

theorem sgn_cons (c : UInt8) (r : List UInt8) : sgn (c :: r) = if c.toNat = 43 then (false, r) else if c.toNat = 45 then (true, r) else (false, c :: r) := rfl
theorem eval_cons (g : Int) (c : UInt8) (r : List UInt8) : eval g (c :: r) = if isD c then some ((escan (c :: r) 0).1 * g, (escan (c :: r) 0).2) else none := rfl
theorem escan_cons (c : UInt8) (r : List UInt8) (e : Int) : escan (c :: r) e = if isD c then escan r (if e < 10000 then e * 10 + (c.toNat : Int) - 48 else e) else (e, c :: r) := rfl
theorem expo_cons (c : UInt8) (r : List UInt8) : expo (c :: r) = if c.toNat = 43 then eval 1 r else if c.toNat = 45 then eval (-1) r else eval 1 (c :: r) := rfl
theorem sexp_cons (s : SS) (c : UInt8) (r : List UInt8) : sexp s (c :: r) = if low c = 101 then sE s (expo r) else none := rfl
theorem sscan_cons (c : UInt8) (r : List UInt8) (s : SS) : sscan (c :: r) s = if c.toNat = 46 then (if s.dot then (s, c :: r) else sscan r ⟨s.F, s.n, s.n, s.tr, true, s.dig⟩) else if isD c then sscan r (sdig c s) else (s, c :: r) := rfl
theorem rscan_cons (b m : Int) (c : UInt8) (r : List UInt8) (s : RS) : rscan b m (c :: r) s = if c.toNat = 46 then (if s.dot then (s, c :: r) else rscan b m r ⟨s.man, s.nd, s.nm, s.nd, s.tr, true, s.dig⟩) else if isD c then rscan b m r (rdig1 b m c s) else if b = 16 ∧ 97 ≤ low c ∧ low c ≤ 102 then rscan b m r (rhex1 m c s) else (s, c :: r) := rfl
theorem rexp_cons (b ec : Int) (s : RS) (c : UInt8) (r : List UInt8) : rexp b ec s (c :: r) = if low c = ec then rE b s (expo r) else rbare b s (c :: r) := rfl
theorem escan_e (L : List UInt8) : ∀ e : Int, 0 ≤ e → e ≤ 99999 → 0 ≤ (escan L e).1 ∧ (escan L e).1 ≤ 99999 := by
  induction L with
  | nil => intro e h1 h2; exact ⟨h1, h2⟩
  | cons c r ih =>
    intro e h1 h2
    unfold escan
    split
    · next h =>
      have := of_decide_eq_true h
      apply ih <;> split <;> omega
    · exact ⟨h1, h2⟩
theorem eval_e {g : Int} (hg : g = 1 ∨ g = -1) {L : List UInt8} {q : Int × List UInt8} (h : eval g L = some q) : -99999 ≤ q.1 ∧ q.1 ≤ 99999 := by
  cases L with
  | nil => simp [eval] at h
  | cons c r =>
    rw [eval_cons] at h
    split at h
    · have := escan_e (c :: r) 0 (by omega) (by omega)
      injection h with h
      subst h
      rcases hg with rfl | rfl
      · show -99999 ≤ (escan (c :: r) 0).1 * 1 ∧ (escan (c :: r) 0).1 * 1 ≤ 99999; omega
      · show -99999 ≤ (escan (c :: r) 0).1 * -1 ∧ (escan (c :: r) 0).1 * -1 ≤ 99999; omega
    · exact absurd h (by simp)
theorem expo_e {L : List UInt8} {q : Int × List UInt8} (h : expo L = some q) : -99999 ≤ q.1 ∧ q.1 ≤ 99999 := by
  cases L with
  | nil => simp [expo] at h
  | cons c r =>
    rw [expo_cons] at h
    split at h
    · exact eval_e (.inl rfl) h
    · split at h
      · exact eval_e (.inr rfl) h
      · exact eval_e (.inl rfl) h

/-- What holds of the loop of set: digits are digits, the first is not 0. -/
structure SS.Ok (s : SS) : Prop where
  most : s.n ≤ 800
  dig : good s.F s.n
  head : 1 ≤ s.n → s.F 0 ≠ 48
theorem ss0_ok : ss0.Ok := ⟨Nat.zero_le _, fun i hi => absurd hi (Nat.not_lt_zero i), fun h => absurd h (by decide)⟩
theorem sdig_ok {c : UInt8} (hc : isD c = true) {s : SS} (hs : s.Ok) : (sdig c s).Ok := by
  have hd := of_decide_eq_true hc
  unfold sdig
  split
  · exact ⟨hs.most, hs.dig, hs.head⟩
  · next h =>
    split
    · next h8 =>
      refine ⟨by show s.n + 1 ≤ 800; omega, ?_, ?_⟩
      · intro i hi
        show 48 ≤ upd s.F s.n (c.toNat : Int) i ∧ upd s.F s.n (c.toNat : Int) i ≤ 57
        unfold upd
        split
        · omega
        · exact hs.dig i (by have : i < s.n + 1 := hi; omega)
      · intro h1
        show upd s.F s.n (c.toNat : Int) 0 ≠ 48
        unfold upd
        split
        · omega
        · exact hs.head (by omega)
    · split
      · exact ⟨hs.most, hs.dig, hs.head⟩
      · exact ⟨hs.most, hs.dig, hs.head⟩
theorem sscan_ok (L : List UInt8) : ∀ s : SS, s.Ok → (sscan L s).1.Ok := by
  induction L with
  | nil => intro s h; exact h
  | cons c r ih =>
    intro s h
    unfold sscan
    split
    · split
      · exact h
      · exact ih _ ⟨h.most, h.dig, h.head⟩
    · split
      · next hd => exact ih _ (sdig_ok hd h)
      · exact h
theorem setF_ok {L : List UInt8} {t : St} (h : setF L = some t) : t.n = 0 ∨ t.Good := by
  have hk := sscan_ok L ss0 ss0_ok
  have key : ∀ s : SS, s.Ok → ∀ x, (⟨s.F, s.n, x, s.tr⟩ : St).n = 0 ∨ (⟨s.F, s.n, x, s.tr⟩ : St).Good := by
    intro s hs x
    by_cases h0 : s.n = 0
    · exact .inl h0
    · exact .inr ⟨by show 1 ≤ s.n; omega, hs.most, hs.dig, hs.head (by omega)⟩
  unfold setF at h
  split at h
  · revert h
    generalize (sscan L ss0).1 = s at hk
    generalize (sscan L ss0).2 = M
    intro h
    cases M with
    | nil =>
      injection h with h
      subst h
      exact key s hk _
    | cons c r =>
      rw [sexp_cons] at h
      split at h
      · revert h
        cases expo r with
        | none => exact fun h => absurd h (by simp [sE])
        | some q =>
          show sfin _ q.1 q.2 = some t → _
          generalize q.2 = N
          intro h
          cases N with
          | nil => injection h with h; subst h; exact key s hk _
          | cons a b => exact absurd h (by simp [sfin])
      · exact absurd h (by simp)
  · exact absurd h (by simp)
end Go.Proofs.YtlkbhmmelejmjaaGreatDoor.FltTextP
