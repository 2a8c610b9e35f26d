/- Parts of the proof of FnQuotesWords, one behind the other: FltReadE, FltRead, FltReadIn, FltSet, FltKnown, FltFast, FltShift, FltBoth. Each part says ahead of itself what it proves. -/
import Derived.Test.YtlkbhmmelejmjaaGreatDoorPkFnQuotesWords3
import Derived.Test.YtlkbhmmelejmjaaGreatDoorPkFnQuotesWords2
import Derived.BigRegion
import Derived.StillTailTactics
import Derived.Test.YtlkbhmmelejmjaaGreatDoorPkFnQuotesWords1
import Derived.Laws.Externs

/- readFloat, walked: what is behind its digits. -/
namespace Go.Proofs.YtlkbhmmelejmjaaGreatDoor.FltReadE
open Go.RowKit Go.Proofs.YtlkbhmmelejmjaaGreatDoorW.PrintWords Go.Proofs.YtlkbhmmelejmjaaGreatDoor.NumKnown Go.Proofs.YtlkbhmmelejmjaaGreatDoor.NumPure Go.Proofs.YtlkbhmmelejmjaaGreatDoor.FltDec Go.Proofs.YtlkbhmmelejmjaaGreatDoor.FltPure Go.Proofs.YtlkbhmmelejmjaaGreatDoor.FltLeft Go.Proofs.YtlkbhmmelejmjaaGreatDoor.FltRight Go.Proofs.YtlkbhmmelejmjaaGreatDoor.FltLaw Go.Proofs.YtlkbhmmelejmjaaGreatDoor.FltState Go.Proofs.YtlkbhmmelejmjaaGreatDoor.FltTextP Go.Proofs.YtlkbhmmelejmjaaGreatDoor.FltSetB Go.Proofs.YtlkbhmmelejmjaaGreatDoor.FltReadA Go.Proofs.YtlkbhmmelejmjaaGreatDoor.FltReadB Go.Proofs.YtlkbhmmelejmjaaGreatDoor.FltReadC Go.Proofs.YtlkbhmmelejmjaaGreatDoor.FltReadD
set_option linter.unusedVariables false
set_option linter.unusedSimpArgs false

theorem hexat_cons3 (a b c : UInt8) (r : List UInt8) : hexat (a :: b :: c :: r) = decide (a.toNat = 48 ∧ low b = 120) := rfl
theorem readF_nil : readF [] = none := rfl

set_option maxHeartbeats 16000000 in
set_option maxRecDepth 100000 in
theorem read_zero (s : ByteArray) (hsz : s.size ≤ 2200000000) (L : List UInt8) (ng : Bool) (HU : Aside0 (∀ i (h : i < s.size), s[i].toNat ≠ 95)) (w : World) (hx : Bool) (b m ec : Int) (hb : (b == 16) = hx) (hm0 : 0 ≤ m) (hm1 : m ≤ 19) (i1 : Nat) (hi1 : i1 ≤ s.size) (L1 : List UInt8) (HL1 : Aside0 (s.data.toList.drop i1 = L1 ∧ readF L = rmain b m ec L1))
    (t : Array Value) (hz : t.size = 253) (t0 : t[0]? = some (.string s)) (t2 : t[2]? = some (.int .u64 0)) (t3 : t[3]? = some (.int .i64 0)) (t4 : t[4]? = some (.bool ng)) (t5 : t[5]? = some (.bool false)) (t6 : t[6]? = some (.bool hx)) (t7 : t[7]? = some (.int .i64 (i1 : Int))) (t8 : t[8]? = some (.bool false)) (t9 : t[9]? = some (.bool false)) (t10 : t[10]? = some (.int .u64 b)) (t11 : t[11]? = some (.int .i64 m)) (t12 : t[12]? = some (.int .u8 ec)) :
    (after 7 (inner (after 1 (Tryz.f126.body.getD .skip)))).wp Tryz.prog (Exit.noGoto (bodyPost Tryz.prog Tryz.f126 (RdP s L ng w))) { tmps := t, defers := [] } w := by
  obtain ⟨u, rfl⟩ := frame253 t hz
  have e0 : u 0 = .string s := Option.some.inj t0
  have e2 : u 2 = .int .u64 0 := Option.some.inj t2
  have e3 : u 3 = .int .i64 0 := Option.some.inj t3
  have e4 : u 4 = .bool ng := Option.some.inj t4
  have e5 : u 5 = .bool false := Option.some.inj t5
  have e6 : u 6 = .bool hx := Option.some.inj t6
  have e7 : u 7 = .int .i64 (i1 : Int) := Option.some.inj t7
  have e8 : u 8 = .bool false := Option.some.inj t8
  have e9 : u 9 = .bool false := Option.some.inj t9
  have e10 : u 10 = .int .u64 b := Option.some.inj t10
  have e11 : u 11 = .int .i64 m := Option.some.inj t11
  have e12 : u 12 = .int .u8 ec := Option.some.inj t12
  rw [e0, e2, e3, e4, e5, e6, e7, e8, e9, e10, e11, e12]
  clear t0 e0 t2 e2 t3 e3 t4 e4 t5 e5 t6 e6 t7 e7 t8 e8 t9 e9 t10 e10 t11 e11 t12 e12 hz
  dsimp only
  have hL : s.data.toList.length = s.size := (Lib.size_eq s).symm
  conv =>
    arg 2
    simp only [Tryz.f126, after, inner, Option.getD]
  go_upto_region 22 with (fail)
  go_cut [13, 14, 15, 16, 17] (fun v13 v14 v15 v16 v17 wd => v13 = .bool false ∧ v14 = .bool false ∧ v15 = .int .i64 0 ∧ v16 = .int .i64 0 ∧ v17 = .int .i64 0 ∧ w = wd)
  case first =>
    go_wp2_with fail
    go_meet
    case rel => exact ⟨rfl, rfl, rfl, rfl, rfl, rfl⟩
  case rest =>
    obtain ⟨rfl, rfl, rfl, rfl, rfl, rfl⟩ := hcut
    refine ‹∀ (a : Act) (w1 : World), Code.wp _ _ _ a w1 → _› _ _ ?_
    exact read_loop s hsz L ng hx HU w b m ec hb hm0 hm1 i1 hi1 L1 HL1 _ rfl rfl rfl rfl rfl rfl rfl rfl rfl rfl rfl rfl rfl rfl rfl rfl rfl rfl

set_option maxHeartbeats 16000000 in
set_option maxRecDepth 100000 in
theorem read_hex (s : ByteArray) (hsz : s.size ≤ 2200000000) (L : List UInt8) (ng : Bool) (HU : Aside0 (∀ i (h : i < s.size), s[i].toNat ≠ 95)) (w : World) (i0 : Nat) (hi0 : i0 ≤ s.size) (HC : Aside0 (s.data.toList.drop i0 = L))
    (t : Array Value) (hz : t.size = 253) (t0 : t[0]? = some (.string s)) (t2 : t[2]? = some (.int .u64 0)) (t3 : t[3]? = some (.int .i64 0)) (t4 : t[4]? = some (.bool ng)) (t5 : t[5]? = some (.bool false)) (t6 : t[6]? = some (.bool false)) (t7 : t[7]? = some (.int .i64 (i0 : Int))) (t8 : t[8]? = some (.bool false)) (t9 : t[9]? = some (.bool false)) :
    (after 3 (inner (after 1 (Tryz.f126.body.getD .skip)))).wp Tryz.prog (Exit.noGoto (bodyPost Tryz.prog Tryz.f126 (RdP s L ng w))) { tmps := t, defers := [] } w := by
  obtain ⟨u, rfl⟩ := frame253 t hz
  have e0 : u 0 = .string s := Option.some.inj t0
  have e2 : u 2 = .int .u64 0 := Option.some.inj t2
  have e3 : u 3 = .int .i64 0 := Option.some.inj t3
  have e4 : u 4 = .bool ng := Option.some.inj t4
  have e5 : u 5 = .bool false := Option.some.inj t5
  have e6 : u 6 = .bool false := Option.some.inj t6
  have e7 : u 7 = .int .i64 (i0 : Int) := Option.some.inj t7
  have e8 : u 8 = .bool false := Option.some.inj t8
  have e9 : u 9 = .bool false := Option.some.inj t9
  rw [e0, e2, e3, e4, e5, e6, e7, e8, e9]
  clear t0 e0 t2 e2 t3 e3 t4 e4 t5 e5 t6 e6 t7 e7 t8 e8 t9 e9 hz
  dsimp only
  have hL : s.data.toList.length = s.size := (Lib.size_eq s).symm
  conv =>
    arg 2
    simp only [Tryz.f126, after, inner, Option.getD]
  go_upto_region 12 with (fail)
  go_cut [54] (fun v54 wd => v54 = .bool (hexat L) ∧ w = wd)
  case first =>
    have h3 : s.size ≤ i0 + 2 ∨ ∃ a b c r, L = a :: b :: c :: r ∧ i0 + 2 < s.size := by
      by_cases h : s.size ≤ i0 + 2
      · exact .inl h
      · refine .inr ?_
        have hl : L.length = s.size - i0 := by rw [← HC.out, List.length_drop, hL]
        match L, hl with
        | [], hl => exact absurd hl (by simp; omega)
        | [a], hl => exact absurd hl (by simp; omega)
        | [a, b], hl => exact absurd hl (by simp; omega)
        | a :: b :: c :: r, hl => exact ⟨a, b, c, r, rfl, by omega⟩
    rcases h3 with h3 | ⟨a, b, c, r, h3, h4⟩
    · have hx : hexat L = false := by
        have hl : L.length = s.size - i0 := by rw [← HC.out, List.length_drop, hL]
        match L, hl with
        | [], _ => rfl
        | [a], _ => rfl
        | [a, b], _ => rfl
        | a :: b :: c :: r, hl => exact absurd hl (by simp; omega)
      have g1 : decide ((i0 : Int) + 2 < (s.size : Int)) = false := decide_eq_false (by omega)
      have HX := Aside0.mk hx
      clear hx
      go_wp2_with fail
      go_meet
      case rel => exact ⟨by rw [HX.out], rfl⟩
    · have hd0 := drop_cons (l := s.data.toList) (i := i0) (by omega)
      have hd1 := drop_cons (l := s.data.toList) (i := i0 + 1) (by omega)
      have hce0 : s.data.toList[i0]'(by omega) = s[i0] := rfl
      have hce1 : s.data.toList[i0 + 1]'(by omega) = s[i0 + 1] := rfl
      rw [HC.out, h3, hce0] at hd0
      injection hd0 with hd2 hd3
      rw [← hd3, hce1] at hd1
      injection hd1 with hd4 hd5
      have hs0 : s[i0] = a := hd2.symm
      have hs1 : s[i0 + 1] = b := hd4.symm
      have HL3 := Aside0.mk h3
      clear hd2 hd3 hd4 hd5 hce0 hce1 h3
      by_cases ha : a.toNat = 48
      · obtain ⟨lb, hlb⟩ : ∃ lb, lb = low b := ⟨_, rfl⟩
        have C := Aside0.mk (low_walk b)
        rw [← hlb] at C
        have HA := Aside0.mk (And.intro ha hlb)
        clear hlb
        by_cases h120 : lb = 120
        · have hx : hexat L = true := by rw [HL3.out, hexat_cons3]; exact decide_eq_true ⟨ha, by rw [← HA.out.2]; exact h120⟩
          replace hx := Aside0.mk hx
          subst h120
          go_wp2_with (first | (go_at_call 123; refine (C.out _).mono ?_; rintro e w' ⟨rfl, rfl⟩))
          go_meet
          case rel => exact ⟨by rw [hx.out], rfl⟩
        · have hx : hexat L = false := by rw [HL3.out, hexat_cons3]; exact decide_eq_false (fun h => h120 (by rw [HA.out.2]; exact h.2))
          replace hx := Aside0.mk hx
          have q120 : (lb == 120) = false := beq_eq_false_iff_ne.mpr h120
          go_wp2_with (first | (go_at_call 123; refine (C.out _).mono ?_; rintro e w' ⟨rfl, rfl⟩))
          go_meet
          case rel => exact ⟨by rw [hx.out], rfl⟩
      · have hx : hexat L = false := by rw [HL3.out, hexat_cons3]; exact decide_eq_false (fun h => ha h.1)
        replace hx := Aside0.mk hx
        have q48 : ((a.toNat : Int) == 48) = false := beq_eq_false_iff_ne.mpr (by omega)
        go_wp2_with fail
        go_meet
        case rel => exact ⟨by rw [hx.out], rfl⟩
  case rest =>
    obtain ⟨rfl, rfl⟩ := hcut
    go_upto_if 54 with (fail)
    go_cut [6, 7, 10, 11, 12] (fun v6 v7 v10 v11 v12 wd => ∃ (hx : Bool) (i1 : Nat) (L1 : List UInt8) (b m ec : Int), v6 = .bool hx ∧ v7 = .int .i64 i1 ∧ v10 = .int .u64 b ∧ v11 = .int .i64 m ∧ v12 = .int .u8 ec ∧ (b == 16) = hx ∧ 0 ≤ m ∧ m ≤ 19 ∧ i1 ≤ s.size ∧ Aside0 (s.data.toList.drop i1 = L1 ∧ readF L = rmain b m ec L1) ∧ w = wd)
    case first =>
      have hl : L.length = s.size - i0 := by rw [← HC.out, List.length_drop, hL]
      cases hx : hexat L with
      | true =>
        have hi2 : i0 + 2 ≤ s.size := by
          match L, hl, hx with
          | [], _, hx => exact absurd (show false = true from hx) (by decide)
          | [a], _, hx => exact absurd (show false = true from hx) (by decide)
          | [a, b], _, hx => exact absurd (show false = true from hx) (by decide)
          | a :: b :: c :: r, hl, _ => simp at hl; omega
        have HX := Aside0.mk hx
        go_wp2_with fail
        go_meet
        case rel =>
          refine ⟨true, i0 + 2, L.drop 2, 16, 16, 112, rfl, by go_num, rfl, rfl, rfl, by decide, by decide, by decide, hi2, ⟨?_, ?_⟩, rfl⟩
          · rw [← HC.out, List.drop_drop]
          · unfold readF; rw [if_pos HX.out]
      | false =>
        have HX := Aside0.mk hx
        go_wp2_with fail
        go_meet
        case rel =>
          refine ⟨false, i0, L, 10, 19, 101, rfl, rfl, rfl, rfl, rfl, by decide, by decide, by decide, by omega, ⟨HC.out, ?_⟩, rfl⟩
          unfold readF; rw [if_neg (by rw [HX.out]; decide)]
    case rest =>
      obtain ⟨hx, i1, L1, b, m, ec, rfl, rfl, rfl, rfl, rfl, hb, hm0, hm1, hi1, HL1, rfl⟩ := hcut
      refine ‹∀ (a : Act) (w1 : World), Code.wp _ _ _ a w1 → _› _ _ ?_
      exact read_zero s hsz L ng HU w hx b m ec hb hm0 hm1 i1 hi1 L1 HL1 _ rfl rfl rfl rfl rfl rfl rfl rfl rfl rfl rfl rfl rfl
end Go.Proofs.YtlkbhmmelejmjaaGreatDoor.FltReadE

/- readFloat, walked: what is behind its digits. -/
namespace Go.Proofs.YtlkbhmmelejmjaaGreatDoor.FltRead
open Go.RowKit Go.Proofs.YtlkbhmmelejmjaaGreatDoorW.PrintWords Go.Proofs.YtlkbhmmelejmjaaGreatDoor.NumKnown Go.Proofs.YtlkbhmmelejmjaaGreatDoor.NumPure Go.Proofs.YtlkbhmmelejmjaaGreatDoor.FltDec Go.Proofs.YtlkbhmmelejmjaaGreatDoor.FltPure Go.Proofs.YtlkbhmmelejmjaaGreatDoor.FltLeft Go.Proofs.YtlkbhmmelejmjaaGreatDoor.FltRight Go.Proofs.YtlkbhmmelejmjaaGreatDoor.FltLaw Go.Proofs.YtlkbhmmelejmjaaGreatDoor.FltState Go.Proofs.YtlkbhmmelejmjaaGreatDoor.FltTextP Go.Proofs.YtlkbhmmelejmjaaGreatDoor.FltSetB Go.Proofs.YtlkbhmmelejmjaaGreatDoor.FltReadA Go.Proofs.YtlkbhmmelejmjaaGreatDoor.FltReadB Go.Proofs.YtlkbhmmelejmjaaGreatDoor.FltReadC Go.Proofs.YtlkbhmmelejmjaaGreatDoor.FltReadD Go.Proofs.YtlkbhmmelejmjaaGreatDoor.FltReadE
set_option linter.unusedVariables false
set_option linter.unusedSimpArgs false

set_option maxHeartbeats 16000000 in
set_option maxRecDepth 100000 in
theorem read_walk (s : ByteArray) (hsz : s.size ≤ 2200000000) (hus : ∀ i (h : i < s.size), s[i].toNat ≠ 95) (w : World) : Calls Tryz.prog 126 #[.string s] w (RdP s (sgn s.data.toList).2 (sgn s.data.toList).1 w) := by
  have HU := Aside0.mk hus
  clear hus
  have hL : s.data.toList.length = s.size := (Lib.size_eq s).symm
  by_cases h0 : s.size = 0
  · have hemp : s = ByteArray.empty := by
      have : s.data.toList = [] := List.eq_nil_of_length_eq_zero (by omega)
      cases s with | mk d => cases d with | mk l => simp at this; subst this; rfl
    have hN : readF (sgn s.data.toList).2 = none := by rw [hemp]; rfl
    replace hN := Aside0.mk hN
    go_enter Tryz.func126, Tryz.ntmps126
    go_wp2_with fail
    go_step3
    go_wp2_with fail
    rw [Exit.noGoto_ret]
    refine bodyPost_ret (results_tmp7 rfl _ _ _) rfl ?_
    exact ⟨rfl, .inl ⟨_, _, _, _, _, _, hN.out, rfl⟩⟩
  · have hemp : ¬ s = ByteArray.empty := fun h => h0 (by rw [h]; rfl)
    have h1 : 0 < s.size := by omega
    obtain ⟨c0, r0, hL0⟩ : ∃ c0 r0, s.data.toList = c0 :: r0 := by
      cases h : s.data.toList with
      | nil => rw [h] at hL; exact absurd hL (by simp; omega)
      | cons a b => exact ⟨a, b, rfl⟩
    obtain ⟨ng, L, hS⟩ : ∃ ng L, sgn (c0 :: r0) = (ng, L) := ⟨_, _, rfl⟩
    have e1 : (sgn s.data.toList).1 = ng := by rw [hL0, hS]
    have e2 : (sgn s.data.toList).2 = L := by rw [hL0, hS]
    rw [e1, e2]
    clear e1 e2
    replace hS := Aside0.mk hS
    have hc0 : s[0] = c0 := by
      have : s.data.toList[0]'(by omega) = c0 := by simp only [hL0]; rfl
      exact this
    go_enter Tryz.func126, Tryz.ntmps126
    go_wp2_with fail
    go_step3
    go_upto_block 0 with (fail)
    go_cut [4, 7] (fun v4 v7 wd => ∃ i0 : Nat, v4 = .bool ng ∧ v7 = .int .i64 i0 ∧ i0 ≤ 1 ∧ Aside0 (s.data.toList.drop i0 = L) ∧ w = wd)
    case first =>
      by_cases h43 : c0.toNat = 43
      · have HE := Aside0.mk (And.intro hL0 h43)
        clear hL0
        go_wp2_with fail
        go_meet
        case rel =>
          have hs := hS.out
          rw [sgn_cons, if_pos HE.out.2] at hs
          injection hs with s1 s2
          exact ⟨1, by rw [← s1], rfl, Nat.le_refl _, ⟨by rw [HE.out.1, ← s2]; rfl⟩, rfl⟩
      · have q43 : ((c0.toNat : Int) == 43) = false := beq_eq_false_iff_ne.mpr (by omega)
        by_cases h45 : c0.toNat = 45
        · have HE := Aside0.mk (And.intro hL0 (And.intro h43 h45))
          clear hL0
          go_wp2_with fail
          go_meet
          case rel =>
            have hs := hS.out
            rw [sgn_cons, if_neg HE.out.2.1, if_pos HE.out.2.2] at hs
            injection hs with s1 s2
            exact ⟨1, by rw [← s1], rfl, Nat.le_refl _, ⟨by rw [HE.out.1, ← s2]; rfl⟩, rfl⟩
        · have q45 : ((c0.toNat : Int) == 45) = false := beq_eq_false_iff_ne.mpr (by omega)
          have HE := Aside0.mk (And.intro hL0 (And.intro h43 h45))
          clear hL0
          go_wp2_with fail
          go_meet
          case rel =>
            have hs := hS.out
            rw [sgn_cons, if_neg HE.out.2.1, if_neg HE.out.2.2] at hs
            injection hs with s1 s2
            exact ⟨0, by rw [← s1], rfl, Nat.zero_le _, ⟨by rw [HE.out.1, ← s2]; rfl⟩, rfl⟩
    case rest =>
      obtain ⟨i0, rfl, rfl, hi0, HC, rfl⟩ := hcut
      clear hL0 hc0
      refine ‹∀ (a : Act) (w1 : World), Code.wp _ _ _ a w1 → _› _ _ ?_
      exact read_hex s hsz L ng HU w i0 (by omega) HC _ rfl rfl rfl rfl rfl rfl rfl rfl rfl rfl
end Go.Proofs.YtlkbhmmelejmjaaGreatDoor.FltRead

/- What readFloat reads lies within bounds (plain). -/
namespace Go.Proofs.YtlkbhmmelejmjaaGreatDoor.FltReadIn
open Go.RowKit Go.Proofs.YtlkbhmmelejmjaaGreatDoor.FltTextP
set_option linter.unusedVariables false
set_option linter.unusedSimpArgs false

theorem wrap_in (n : Int) : 0 ≤ IntKind.u64.wrap n ∧ IntKind.u64.wrap n < 18446744073709551616 := by rw [IntKind.wrap_u64]; omega
structure RIn (s : RS) (k : Int) : Prop where
  m0 : 0 ≤ s.man
  m1 : s.man < 18446744073709551616
  d0 : 0 ≤ s.nd
  d1 : s.nd ≤ k
  n0 : 0 ≤ s.nm
  n1 : s.nm ≤ 19
  p0 : -k ≤ s.dp
  p1 : s.dp ≤ k
theorem rscan_in (b m : Int) (hm : m ≤ 19) (L : List UInt8) : ∀ (s : RS) (k : Int), RIn s k → RIn (rscan b m L s).1 (k + L.length) := by
  induction L with
  | nil => intro s k h; simpa [rscan] using h
  | cons c r ih =>
    intro s k h
    have e : k + ((c :: r).length : Int) = (k + 1) + (r.length : Int) := by simp; omega
    have up : RIn s (k + 1 + r.length) := by
      obtain ⟨h1, h2, h3, h4, h5, h6, h7, h8⟩ := h
      exact ⟨h1, h2, h3, by omega, h5, h6, by omega, by omega⟩
    obtain ⟨h1, h2, h3, h4, h5, h6, h7, h8⟩ := h
    rw [rscan_cons, e]
    split
    · split
      · exact up
      · exact ih _ _ ⟨h1, h2, h3, by dsimp only; omega, h5, h6, by dsimp only; omega, by dsimp only; omega⟩
    · split
      · apply ih
        unfold rdig1
        split
        · exact ⟨h1, h2, h3, by dsimp only; omega, h5, h6, by dsimp only; omega, by dsimp only; omega⟩
        · split
          · exact ⟨(wrap_in _).1, (wrap_in _).2, by dsimp only; omega, by dsimp only; omega, by dsimp only; omega, by dsimp only; omega, by dsimp only; omega, by dsimp only; omega⟩
          · split
            · exact ⟨h1, h2, by dsimp only; omega, by dsimp only; omega, h5, h6, by dsimp only; omega, by dsimp only; omega⟩
            · exact ⟨h1, h2, by dsimp only; omega, by dsimp only; omega, h5, h6, by dsimp only; omega, by dsimp only; omega⟩
      · split
        · apply ih
          unfold rhex1
          split
          · exact ⟨(wrap_in _).1, (wrap_in _).2, by dsimp only; omega, by dsimp only; omega, by dsimp only; omega, by dsimp only; omega, by dsimp only; omega, by dsimp only; omega⟩
          · exact ⟨h1, h2, by dsimp only; omega, by dsimp only; omega, h5, h6, by dsimp only; omega, by dsimp only; omega⟩
        · exact up
theorem rs0_in : RIn rs0 0 := ⟨by decide, by decide, by decide, by decide, by decide, by decide, by decide, by decide⟩
theorem rfin_in {b : Int} {s : RS} {k x : Int} {rest : List UInt8} (h : RIn s k) (hk : k ≤ 2200000000) (hx0 : -99999 ≤ x) (hx1 : x ≤ 99999) : 0 ≤ (rfin b s x rest).man ∧ (rfin b s x rest).man < 18446744073709551616 ∧ -9500000000 ≤ (rfin b s x rest).exp ∧ (rfin b s x rest).exp ≤ 9500000000 := by
  obtain ⟨h1, h2, h3, h4, h5, h6, h7, h8⟩ := h
  refine ⟨h1, h2, ?_, ?_⟩
  · show -9500000000 ≤ if s.man = 0 then 0 else rdp b s + x - rnm b s
    unfold rdp rnm
    split
    · omega
    · split <;> split <;> omega
  · show (if s.man = 0 then 0 else rdp b s + x - rnm b s) ≤ 9500000000
    unfold rdp rnm
    split
    · omega
    · split <;> split <;> omega
theorem rmain_in {b m ec : Int} (hm : m ≤ 19) {L : List UInt8} {r : RR} (hl : (L.length : Int) ≤ 2200000000) (h : rmain b m ec L = some r) : 0 ≤ r.man ∧ r.man < 18446744073709551616 ∧ -9500000000 ≤ r.exp ∧ r.exp ≤ 9500000000 := by
  have hin := rscan_in b m hm L rs0 0 rs0_in
  rw [Int.zero_add] at hin
  unfold rmain at h
  split at h
  · revert h
    generalize (rscan b m L rs0).1 = s at hin
    generalize (rscan b m L rs0).2 = M
    intro h
    have bare : ∀ N, rbare b s N = some r → (0 ≤ r.man ∧ r.man < 18446744073709551616 ∧ -9500000000 ≤ r.exp ∧ r.exp ≤ 9500000000) := fun N hN => by
      unfold rbare at hN
      split at hN
      · exact absurd hN (by simp)
      · injection hN with hN
        subst hN
        exact rfin_in (b := b) (x := 0) (rest := N) hin hl (by omega) (by omega)
    cases M with
    | nil => exact bare _ h
    | cons c t =>
      rw [rexp_cons] at h
      split at h
      · cases hq : expo t with
        | none => rw [hq] at h; exact absurd h (by simp [rE])
        | some q =>
          rw [hq] at h
          injection h with h
          subst h
          have := expo_e hq
          exact rfin_in hin hl this.1 this.2
      · exact bare _ h
  · exact absurd h (by simp)
theorem readF_in {L : List UInt8} {r : RR} (hl : (L.length : Int) ≤ 2200000000) (h : readF L = some r) : 0 ≤ r.man ∧ r.man < 18446744073709551616 ∧ -9500000000 ≤ r.exp ∧ r.exp ≤ 9500000000 := by
  unfold readF at h
  split at h
  · exact rmain_in (by omega) (by rw [List.length_drop]; omega) h
  · exact rmain_in (by omega) hl h
end Go.Proofs.YtlkbhmmelejmjaaGreatDoor.FltReadIn

/- The decimal of the slow road: decimal.set, walked. -/
namespace Go.Proofs.YtlkbhmmelejmjaaGreatDoor.FltSet
open Go.RowKit Go.Proofs.YtlkbhmmelejmjaaGreatDoorW.PrintWords Go.Proofs.YtlkbhmmelejmjaaGreatDoor.NumKnown Go.Proofs.YtlkbhmmelejmjaaGreatDoor.NumPure Go.Proofs.YtlkbhmmelejmjaaGreatDoor.FltDec Go.Proofs.YtlkbhmmelejmjaaGreatDoor.FltPure Go.Proofs.YtlkbhmmelejmjaaGreatDoor.FltLeft Go.Proofs.YtlkbhmmelejmjaaGreatDoor.FltRight Go.Proofs.YtlkbhmmelejmjaaGreatDoor.FltLaw Go.Proofs.YtlkbhmmelejmjaaGreatDoor.FltState Go.Proofs.YtlkbhmmelejmjaaGreatDoor.FltTextP Go.Proofs.YtlkbhmmelejmjaaGreatDoor.FltSetB
set_option linter.unusedVariables false
set_option linter.unusedSimpArgs false

set_option maxHeartbeats 16000000 in
set_option maxRecDepth 100000 in
theorem set_walk (p : Nat) (s : ByteArray) (hne : 1 ≤ s.size) (hsz : s.size ≤ 2200000000) (hus : ∀ i (h : i < s.size), s[i].toNat ≠ 95) (g0 : Nat → Int) (w : World) (hD : Dec w p g0 0 0 false false) : Calls Tryz.prog 132 #[.pointer (some ⟨p, 0, none⟩), .string s] w (SetP p (sgn s.data.toList).2 (sgn s.data.toList).1 w) := by
  have H := Aside0.mk hD
  have hnd := hD.nd
  have hdp := hD.dp
  have hng := hD.ng
  have htr := hD.tr
  have hfz := hD.fz
  clear hD
  have HU := Aside0.mk hus
  clear hus
  have hL : s.data.toList.length = s.size := (Lib.size_eq s).symm
  have hemp : ¬ s = ByteArray.empty := fun h => by rw [h] at hne; exact absurd hne (by decide)
  have h0 : 0 < s.size := hne
  obtain ⟨c0, r0, hL0⟩ : ∃ c0 r0, s.data.toList = c0 :: r0 := by
    cases h : s.data.toList with
    | nil => rw [h] at hL; exact absurd hL (by simp; omega)
    | cons a b => exact ⟨a, b, rfl⟩
  obtain ⟨ng, L, hS⟩ : ∃ ng L, sgn (c0 :: r0) = (ng, L) := ⟨_, _, rfl⟩
  have e1 : (sgn s.data.toList).1 = ng := by rw [hL0, hS]
  have e2 : (sgn s.data.toList).2 = L := by rw [hL0, hS]
  rw [e1, e2]
  clear e1 e2
  replace hS := Aside0.mk hS
  have hc0 : s[0] = c0 := by
    have : s.data.toList[0]'(by omega) = c0 := by simp only [hL0]; rfl
    exact this
  go_enter Tryz.func132, Tryz.ntmps132
  go_upto_block 0 with (fail)
  go_cut [5] (fun v5 wc => ∃ i0 : Nat, v5 = .int .i64 i0 ∧ i0 ≤ 1 ∧ Aside0 (s.data.toList.drop i0 = L ∧ ∃ g, Dec wc p g 0 0 ng false ∧ Below p w wc))
  case first =>
    have HW := Aside0.mk (And.intro ((H.out.setNg false).setTr false) (((Below.refl p w).setCell (p := ⟨p, 802, none⟩) (Nat.le_refl p) (.bool false)).setCell (p := ⟨p, 803, none⟩) (Nat.le_refl p) (.bool false)))
    by_cases h43 : c0.toNat = 43
    · have HE := Aside0.mk (And.intro hL0 h43)
      clear hL0
      go_wp2_with fail
      go_meet
      case rel =>
        have hs := hS.out
        rw [sgn_cons, if_pos HE.out.2] at hs
        injection hs with s1 s2
        exact ⟨1, rfl, Nat.le_refl _, ⟨by rw [HE.out.1, ← s2]; rfl, g0, by rw [← s1]; exact HW.out.1, HW.out.2⟩⟩
    · have q43 : ((c0.toNat : Int) == 43) = false := beq_eq_false_iff_ne.mpr (by omega)
      by_cases h45 : c0.toNat = 45
      · have HE := Aside0.mk (And.intro hL0 (And.intro h43 h45))
        clear hL0
        go_wp2_with fail
        go_meet
        case rel =>
          have hs := hS.out
          rw [sgn_cons, if_neg HE.out.2.1, if_pos HE.out.2.2] at hs
          injection hs with s1 s2
          exact ⟨1, rfl, Nat.le_refl _, ⟨by rw [HE.out.1, ← s2]; rfl, g0, by rw [← s1]; exact HW.out.1.setNg true, HW.out.2.setCell (p := ⟨p, 802, none⟩) (Nat.le_refl p) (.bool true)⟩⟩
      · have q45 : ((c0.toNat : Int) == 45) = false := beq_eq_false_iff_ne.mpr (by omega)
        have HE := Aside0.mk (And.intro hL0 (And.intro h43 h45))
        clear hL0
        go_wp2_with fail
        go_meet
        case rel =>
          have hs := hS.out
          rw [sgn_cons, if_neg HE.out.2.1, if_neg HE.out.2.2] at hs
          injection hs with s1 s2
          exact ⟨0, rfl, Nat.zero_le _, ⟨by rw [HE.out.1, ← s2]; rfl, g0, by rw [← s1]; exact HW.out.1, HW.out.2⟩⟩
  case rest =>
    obtain ⟨i0, rfl, hi0, HC⟩ := hcut
    clear hnd hdp hng htr hfz H hL0 hc0
    go_upto_block 1 with (fail)
    go_cut [5, 6, 7] from 34 to 116 (fun v5 v6 v7 wd => ∃ (i : Nat) (st : SS) (M : List UInt8), v5 = .int .i64 i ∧ v6 = .bool st.dot ∧ v7 = .bool st.dig ∧ i ≤ s.size ∧ Aside0 (s.data.toList.drop i = M ∧ sscan L ss0 = (st, M) ∧ st.Ok ∧ -2200000000 ≤ st.dp ∧ st.dp ≤ 1000 ∧ ∃ g, Dec wd p g st.n st.dp ng st.tr ∧ (∀ j, j < st.n → g j = st.F j) ∧ Below p w wd))
    case first =>
      go_wp2_with fail
      go_loopg [5, 6, 7] L.length (fun kq v5 v6 v7 wx => ∃ (i : Nat) (st : SS) (M : List UInt8), v5 = .int .i64 i ∧ v6 = .bool st.dot ∧ v7 = .bool st.dig ∧ i + kq = s.size ∧ Aside0 (s.data.toList.drop i = M ∧ M.length = kq ∧ sscan M st = sscan L ss0 ∧ st.Ok ∧ -(i : Int) ≤ st.dp ∧ st.dp ≤ 800 ∧ ∃ g, Dec wx p g st.n st.dp ng st.tr ∧ (∀ j, j < st.n → g j = st.F j) ∧ Below p w wx))
      case atStart =>
        obtain ⟨h1, g, h2, h3⟩ := HC.out
        have hl : L.length = s.size - i0 := by rw [← h1, List.length_drop, hL]
        exact ⟨i0, ss0, L, rfl, rfl, rfl, by omega, ⟨h1, rfl, rfl, ss0_ok, by show -(i0 : Int) ≤ 0; omega, by show (0 : Int) ≤ 800; omega, g, h2, fun j hj => absurd hj (Nat.not_lt_zero j), h3⟩⟩
      case round =>
        obtain ⟨i, st, M, rfl, rfl, rfl, hik, HL⟩ := hrel
        cases gk with
        | zero =>
          obtain rfl : i = s.size := by omega
          go_wp2_with fail
          go_meet
          case rel =>
            obtain ⟨h1, h2, h3, h4, h5, h6, h7⟩ := HL.out
            have hM : M = [] := List.eq_nil_of_length_eq_zero h2
            refine ⟨s.size, st, M, rfl, rfl, rfl, Nat.le_refl _, ⟨h1, ?_, h4, by omega, by omega, h7⟩⟩
            rw [← h3, hM]; rfl
        | succ k1 =>
          have hlt : i < s.size := by omega
          obtain ⟨c, r, hM⟩ : ∃ c r, M = c :: r := by
            cases M with
            | nil => exact absurd HL.out.2.1 (by simp)
            | cons a b => exact ⟨a, b, rfl⟩
          have hd := drop_cons (l := s.data.toList) (i := i) (by omega)
          have hce : s.data.toList[i]'(by omega) = s[i] := rfl
          rw [HL.out.1, hM, hce] at hd
          injection hd with hd1 hd2
          have hcs : s[i] = c := hd1.symm
          have h95 : ((c.toNat : Int) == 95) = false := beq_eq_false_iff_ne.mpr (by have := HU.out i hlt; rw [hcs] at this; omega)
          have HM := Aside0.mk (And.intro hM hd2)
          clear hd1 hd2 hce hM
          obtain ⟨g, hG⟩ : ∃ g, Dec wr p g st.n st.dp ng st.tr ∧ (∀ j, j < st.n → g j = st.F j) ∧ Below p w wr := HL.out.2.2.2.2.2.2
          have HG := Aside0.mk hG
          have hnd := hG.1.nd
          have hdp := hG.1.dp
          have hng := hG.1.ng
          have htr := hG.1.tr
          have hdi := hG.1.dig
          have hfz := hG.1.fz
          have hst0 : st.n ≤ 800 := HL.out.2.2.2.1.most
          have hdp0 : -2200000000 ≤ st.dp := by have := HL.out.2.2.2.2.1; omega
          have hdp1 : st.dp ≤ 800 := HL.out.2.2.2.2.2.1
          clear hG
          by_cases h46 : c.toNat = 46
          · have HE := Aside0.mk h46
            clear hdi
            cases hdot : st.dot with
            | true =>
              have HO := Aside0.mk hdot
              go_wp2_with fail
              go_ret
              have hsc : sscan L ss0 = (st, c :: r) := by rw [← HL.out.2.2.1, HM.out.1, sscan_cons, if_pos HE.out, if_pos HO.out]
              have hl : low c = 46 := by unfold low; rw [HE.out]; decide +kernel
              have hN : setF L = none := by
                unfold setF
                rw [hsc]
                split
                · show sexp st (c :: r) = none
                  rw [sexp_cons, if_neg (by rw [hl]; decide)]
                · rfl
              exact ⟨by rw [hN]; rfl, HG.out.2.2, fun t h => by rw [hN] at h; cases h⟩
            | false =>
              have HO := Aside0.mk hdot
              go_wp2_with fail
              go_roundg k1
              case rel =>
                refine ⟨i + 1, ⟨st.F, st.n, st.n, st.tr, true, st.dig⟩, r, by go_num, rfl, rfl, by omega, ⟨HM.out.2.symm, ?_, ?_, ⟨HL.out.2.2.2.1.most, HL.out.2.2.2.1.dig, HL.out.2.2.2.1.head⟩, by show -((i + 1 : Nat) : Int) ≤ (st.n : Int); omega, by show (st.n : Int) ≤ 800; omega, g, HG.out.1.setDp _, HG.out.2.1, HG.out.2.2.setCell (p := ⟨p, 801, none⟩) (Nat.le_refl p) _⟩⟩
                · have := HL.out.2.1; rw [HM.out.1] at this; simpa using this
                · rw [← HL.out.2.2.1, HM.out.1, sscan_cons, if_pos HE.out, if_neg (by rw [HO.out]; decide)]
              case measure => exact Nat.lt_succ_self _
          · have q46 : ((c.toNat : Int) == 46) = false := beq_eq_false_iff_ne.mpr (by omega)
            by_cases hdg : 48 ≤ c.toNat ∧ c.toNat ≤ 57
            · have HE := Aside0.mk (And.intro h46 hdg)
              obtain ⟨d48, d57⟩ := hdg
              by_cases hz : c.toNat = 48 ∧ st.n = 0
              · have HZ := Aside0.mk hz
                obtain ⟨z1, z2⟩ := hz
                clear hdi
                rw [z2] at hnd
                go_wp2_with fail
                go_roundg k1
                case rel =>
                  have hdig : isD c = true := decide_eq_true HE.out.2
                  have hsd : sdig c st = ⟨st.F, st.n, st.dp - 1, st.tr, st.dot, true⟩ := by unfold sdig; rw [if_pos HZ.out]
                  have hok := sdig_ok hdig HL.out.2.2.2.1
                  have hlen : r.length = k1 := by have := HL.out.2.1; rw [HM.out.1] at this; simpa using this
                  have hsc : sscan r (sdig c st) = sscan L ss0 := by rw [← HL.out.2.2.1, HM.out.1, sscan_cons, if_neg HE.out.1, if_pos hdig]
                  rw [hsd] at hok hsc
                  have hlo := HL.out.2.2.2.2.1
                  exact ⟨i + 1, ⟨st.F, st.n, st.dp - 1, st.tr, st.dot, true⟩, r, by go_num, rfl, rfl, by omega, ⟨HM.out.2.symm, hlen, hsc, hok, by show -((i + 1 : Nat) : Int) ≤ st.dp - 1; omega, by show st.dp - 1 ≤ 800; omega, g, HG.out.1.setDp _, HG.out.2.1, HG.out.2.2.setCell (p := ⟨p, 801, none⟩) (Nat.le_refl p) _⟩⟩
                case measure => exact Nat.lt_succ_self _
              · by_cases h8 : st.n < 800
                · have HZ := Aside0.mk (And.intro hz h8)
                  have hcell := hdi st.n h8
                  clear hdi
                  by_cases z1 : c.toNat = 48
                  · have z2 : ¬ st.n = 0 := fun h => hz ⟨z1, h⟩
                    have z3 : ((st.n : Int) == 0) = false := beq_eq_false_iff_ne.mpr (by omega)
                    clear hz
                    go_wp2_with fail
                    go_still_tail 11, (by kernel_rfl)
                    change wpList _ _ _ _ _ wr.drew
                    go_wp2_with fail
                    go_roundg k1
                    case rel =>
                      have hdig : isD c = true := decide_eq_true HE.out.2
                      have hsd : sdig c st = ⟨upd st.F st.n (c.toNat : Int), st.n + 1, st.dp, st.tr, st.dot, true⟩ := by unfold sdig; rw [if_neg HZ.out.1, if_pos HZ.out.2]
                      have hok := sdig_ok hdig HL.out.2.2.2.1
                      have hlen : r.length = k1 := by have := HL.out.2.1; rw [HM.out.1] at this; simpa using this
                      have hsc : sscan r (sdig c st) = sscan L ss0 := by rw [← HL.out.2.2.1, HM.out.1, sscan_cons, if_neg HE.out.1, if_pos hdig]
                      rw [hsd] at hok hsc
                      have hup : ∀ j, j < st.n + 1 → upd g st.n (c.toNat : Int) j = upd st.F st.n (c.toNat : Int) j := fun j hj => by
                        unfold upd
                        split
                        · rfl
                        · exact HG.out.2.1 j (by omega)
                      have hD2 := (HG.out.1.drew.setD st.n HZ.out.2 (c.toNat : Int)).setNd ((st.n : Int) + 1)
                      have hB2 := ((Go.Proofs.YtlkbhmmelejmjaaGreatDoor.FltSetB.below_drew HG.out.2.2).setCell (p := ⟨p, st.n, none⟩) (Nat.le_refl p) (.int .u8 (c.toNat : Int))).setCell (p := ⟨p, 800, none⟩) (Nat.le_refl p) (.int .i64 ((st.n : Int) + 1))
                      have hlo := HL.out.2.2.2.2.1
                      have hv : ∀ v : Int, v = (c.toNat : Int) → Dec ((wr.drew.setCell ⟨p, st.n, none⟩ (.int .u8 v)).setCell ⟨p, 800, none⟩ (.int .i64 ((st.n : Int) + 1))) p (upd g st.n (c.toNat : Int)) ((st.n : Int) + 1) st.dp ng st.tr ∧ Below p w ((wr.drew.setCell ⟨p, st.n, none⟩ (.int .u8 v)).setCell ⟨p, 800, none⟩ (.int .i64 ((st.n : Int) + 1))) := by
                        rintro v rfl
                        exact ⟨hD2, hB2⟩
                      exact ⟨i + 1, ⟨upd st.F st.n (c.toNat : Int), st.n + 1, st.dp, st.tr, st.dot, true⟩, r, by go_num, rfl, rfl, by omega, ⟨HM.out.2.symm, hlen, hsc, hok, by show -((i + 1 : Nat) : Int) ≤ st.dp; omega, hdp1, upd g st.n (c.toNat : Int), (hv 48 (by omega)).1, hup, (hv 48 (by omega)).2⟩⟩
                    case measure => exact Nat.lt_succ_self _
                  · have q48 : ((c.toNat : Int) == 48) = false := beq_eq_false_iff_ne.mpr (by omega)
                    clear hz
                    go_wp2_with fail
                    go_still_tail 11, (by kernel_rfl)
                    change wpList _ _ _ _ _ wr.drew
                    go_wp2_with fail
                    go_roundg k1
                    case rel =>
                      have hdig : isD c = true := decide_eq_true HE.out.2
                      have hsd : sdig c st = ⟨upd st.F st.n (c.toNat : Int), st.n + 1, st.dp, st.tr, st.dot, true⟩ := by unfold sdig; rw [if_neg HZ.out.1, if_pos HZ.out.2]
                      have hok := sdig_ok hdig HL.out.2.2.2.1
                      have hlen : r.length = k1 := by have := HL.out.2.1; rw [HM.out.1] at this; simpa using this
                      have hsc : sscan r (sdig c st) = sscan L ss0 := by rw [← HL.out.2.2.1, HM.out.1, sscan_cons, if_neg HE.out.1, if_pos hdig]
                      rw [hsd] at hok hsc
                      have hup : ∀ j, j < st.n + 1 → upd g st.n (c.toNat : Int) j = upd st.F st.n (c.toNat : Int) j := fun j hj => by
                        unfold upd
                        split
                        · rfl
                        · exact HG.out.2.1 j (by omega)
                      have hD2 := (HG.out.1.drew.setD st.n HZ.out.2 (c.toNat : Int)).setNd ((st.n : Int) + 1)
                      have hB2 := ((Go.Proofs.YtlkbhmmelejmjaaGreatDoor.FltSetB.below_drew HG.out.2.2).setCell (p := ⟨p, st.n, none⟩) (Nat.le_refl p) (.int .u8 (c.toNat : Int))).setCell (p := ⟨p, 800, none⟩) (Nat.le_refl p) (.int .i64 ((st.n : Int) + 1))
                      have hlo := HL.out.2.2.2.2.1
                      exact ⟨i + 1, ⟨upd st.F st.n (c.toNat : Int), st.n + 1, st.dp, st.tr, st.dot, true⟩, r, by go_num, rfl, rfl, by omega, ⟨HM.out.2.symm, hlen, hsc, hok, by show -((i + 1 : Nat) : Int) ≤ st.dp; omega, hdp1, upd g st.n (c.toNat : Int), hD2, hup, hB2⟩⟩
                    case measure => exact Nat.lt_succ_self _
                · by_cases z1 : c.toNat = 48
                  · have HZ := Aside0.mk (And.intro hz (And.intro h8 z1))
                    have z3 : ((st.n : Int) == 0) = false := beq_eq_false_iff_ne.mpr (by omega)
                    clear hz hdi
                    go_wp2_with fail
                    go_roundg k1
                    case rel =>
                      have hdig : isD c = true := decide_eq_true HE.out.2
                      have hsd : sdig c st = ⟨st.F, st.n, st.dp, st.tr, st.dot, true⟩ := by unfold sdig; rw [if_neg HZ.out.1, if_neg HZ.out.2.1, if_pos HZ.out.2.2]
                      have hok := sdig_ok hdig HL.out.2.2.2.1
                      have hlen : r.length = k1 := by have := HL.out.2.1; rw [HM.out.1] at this; simpa using this
                      have hsc : sscan r (sdig c st) = sscan L ss0 := by rw [← HL.out.2.2.1, HM.out.1, sscan_cons, if_neg HE.out.1, if_pos hdig]
                      rw [hsd] at hok hsc
                      have hlo := HL.out.2.2.2.2.1
                      exact ⟨i + 1, ⟨st.F, st.n, st.dp, st.tr, st.dot, true⟩, r, by go_num, rfl, rfl, by omega, ⟨HM.out.2.symm, hlen, hsc, hok, by show -((i + 1 : Nat) : Int) ≤ st.dp; omega, hdp1, g, HG.out.1, HG.out.2.1, HG.out.2.2⟩⟩
                    case measure => exact Nat.lt_succ_self _
                  · have HZ := Aside0.mk (And.intro hz (And.intro h8 z1))
                    have q48 : ((c.toNat : Int) == 48) = false := beq_eq_false_iff_ne.mpr (by omega)
                    clear hz hdi
                    go_wp2_with fail
                    go_roundg k1
                    case rel =>
                      have hdig : isD c = true := decide_eq_true HE.out.2
                      have hsd : sdig c st = ⟨st.F, st.n, st.dp, true, st.dot, true⟩ := by unfold sdig; rw [if_neg HZ.out.1, if_neg HZ.out.2.1, if_neg HZ.out.2.2]
                      have hok := sdig_ok hdig HL.out.2.2.2.1
                      have hlen : r.length = k1 := by have := HL.out.2.1; rw [HM.out.1] at this; simpa using this
                      have hsc : sscan r (sdig c st) = sscan L ss0 := by rw [← HL.out.2.2.1, HM.out.1, sscan_cons, if_neg HE.out.1, if_pos hdig]
                      rw [hsd] at hok hsc
                      have hlo := HL.out.2.2.2.2.1
                      exact ⟨i + 1, ⟨st.F, st.n, st.dp, true, st.dot, true⟩, r, by go_num, rfl, rfl, by omega, ⟨HM.out.2.symm, hlen, hsc, hok, by show -((i + 1 : Nat) : Int) ≤ st.dp; omega, hdp1, g, HG.out.1.setTr true, HG.out.2.1, HG.out.2.2.setCell (p := ⟨p, 803, none⟩) (Nat.le_refl p) _⟩⟩
                    case measure => exact Nat.lt_succ_self _
            · have hdig : isD c = false := decide_eq_false hdg
              have HE := Aside0.mk (And.intro h46 hdig)
              have hsp : c.toNat < 48 ∨ 57 < c.toNat := by omega
              clear hdg hdig hdi
              rcases hsp with hsp | hsp
              · go_wp2_with fail
                go_meet
                case rel =>
                  refine ⟨i, st, c :: r, rfl, rfl, rfl, by omega, ⟨by rw [HL.out.1, HM.out.1], ?_, HL.out.2.2.2.1, hdp0, by omega, g, HG.out⟩⟩
                  rw [← HL.out.2.2.1, HM.out.1, sscan_cons, if_neg HE.out.1, if_neg (by rw [HE.out.2]; decide)]
              · go_wp2_with fail
                go_meet
                case rel =>
                  refine ⟨i, st, c :: r, rfl, rfl, rfl, by omega, ⟨by rw [HL.out.1, HM.out.1], ?_, HL.out.2.2.2.1, hdp0, by omega, g, HG.out⟩⟩
                  rw [← HL.out.2.2.1, HM.out.1, sscan_cons, if_neg HE.out.1, if_neg (by rw [HE.out.2]; decide)]
    case rest =>
      obtain ⟨i, st, M, rfl, rfl, rfl, hi, HL⟩ := hcut
      refine ‹∀ (a : Act) (w1 : World), Code.wp _ _ _ a w1 → _› _ _ ?_
      exact set_rest p s hsz L ng HU w wc i st M hi HL _ rfl rfl rfl rfl rfl rfl rfl
end Go.Proofs.YtlkbhmmelejmjaaGreatDoor.FltSet

/- functions as print.sh prints them, cut out of its texts. -/
namespace Go.Proofs.YtlkbhmmelejmjaaGreatDoor.FltKnown
open Go.RowKit Go.Proofs.YtlkbhmmelejmjaaGreatDoorW.PrintWords Go.Proofs.YtlkbhmmelejmjaaGreatDoorW.PrintLast Go.Proofs.YtlkbhmmelejmjaaGreatDoorW.PrintMore Go.Proofs.YtlkbhmmelejmjaaGreatDoor.Base0
attribute [local go_sem] max2_int min2_int max_two min_two max_three min_three max_four min_four   -- for this text's walks alone
set_option linter.unusedVariables false
set_option linter.unusedSimpArgs false

-- NOT PRINTED: function 126 (strconv_readFloat)

-- NOT PRINTED: function 129 (strconv_float32frombits)

-- NOT PRINTED: function 127 (strconv_atofHex)

/-! ### strconv_log2Pow10: function 143 -/
def strconv_log2Pow10.f (a0 : Int) : Option (Int) := some ((wrap64 (a0 * 108853)) / 32768)
set_option maxHeartbeats 8000000 in
set_option maxRecDepth 100000 in
theorem strconv_log2Pow10.calls (a0 : Int) (r : Int) (w : World) (h : strconv_log2Pow10.f a0 = some r) :
    Calls Tryz.prog 143 #[.int .i64 a0] w fun e w' => e = .returned (.int .i64 r) ∧ Drawn0 w w' := by
  have H : (some ((wrap64 (a0 * 108853)) / 32768)) = some r := h
  clear h
  obtain rfl := Option.some.inj H
  go_enter Tryz.func143, Tryz.ntmps143
  go_wp2
  go_ret
  exact ⟨by first | rfl | (simp; done) | (simp [*]; done), by repeat (first | exact Drawn0.refl _ | apply Drawn0.step)⟩

-- NOT PRINTED: function 144 (strconv_prescale)

/-! ### strconv_bool2_uint64: function 134 -/
def strconv_bool2_uint64.f (a0 : Bool) : Option (Int) := if a0 = true then (some 1) else (some 0)
set_option maxHeartbeats 8000000 in
set_option maxRecDepth 100000 in
theorem strconv_bool2_uint64.calls (a0 : Bool) (r : Int) (w : World) (h : strconv_bool2_uint64.f a0 = some r) :
    Calls Tryz.prog 134 #[.bool a0] w fun e w' => e = .returned (.int .u64 r) ∧ Drawn0 w w' := by
  have H : (if a0 = true then (some 1) else (some 0)) = some r := h
  clear h
  by_cases c2 : a0 = true
  · subst c2
    have H1 : (some 1) = some r := by rw [if_pos rfl] at H; exact H
    clear H
    have H := H1
    clear H1
    obtain rfl := Option.some.inj H
    go_enter Tryz.func134, Tryz.ntmps134
    go_wp2
    go_ret
    exact ⟨by first | rfl | (simp; done) | (simp [*]; done), by repeat (first | exact Drawn0.refl _ | apply Drawn0.step)⟩
  · replace c2 := Bool.eq_false_iff.mpr c2
    subst c2
    have H1 : (some 0) = some r := by rw [if_neg (show ¬ (false = true) by decide)] at H; exact H
    clear H
    have H := H1
    clear H1
    obtain rfl := Option.some.inj H
    go_enter Tryz.func134, Tryz.ntmps134
    go_wp2
    go_ret
    exact ⟨by first | rfl | (simp; done) | (simp [*]; done), by repeat (first | exact Drawn0.refl _ | apply Drawn0.step)⟩

/-! ### bits_Mul64: function 154 -/
def bits_Mul64.f (a0 : Int) (a1 : Int) : Option (Int × Int) := some (IntKind.u64.wrap ((IntKind.u64.wrap ((IntKind.u64.wrap ((a0 / 4294967296) * (a1 / 4294967296))) + ((IntKind.u64.wrap ((IntKind.u64.wrap ((a0 / 4294967296) * (Go.bits .and .u64 a1 4294967295))) + ((IntKind.u64.wrap ((Go.bits .and .u64 a0 4294967295) * (Go.bits .and .u64 a1 4294967295))) / 4294967296))) / 4294967296))) + ((IntKind.u64.wrap ((Go.bits .and .u64 (IntKind.u64.wrap ((IntKind.u64.wrap ((a0 / 4294967296) * (Go.bits .and .u64 a1 4294967295))) + ((IntKind.u64.wrap ((Go.bits .and .u64 a0 4294967295) * (Go.bits .and .u64 a1 4294967295))) / 4294967296))) 4294967295) + (IntKind.u64.wrap ((Go.bits .and .u64 a0 4294967295) * (a1 / 4294967296))))) / 4294967296)), IntKind.u64.wrap (a0 * a1))
set_option maxHeartbeats 8000000 in
set_option maxRecDepth 100000 in
theorem bits_Mul64.calls (a0 : Int) (a1 : Int) (r1 : Int) (r2 : Int) (w : World) (h : bits_Mul64.f a0 a1 = some (r1, r2)) :
    Calls Tryz.prog 154 #[.int .u64 a0, .int .u64 a1] w fun e w' => e = .returned (.tuple #[.int .u64 r1, .int .u64 r2]) ∧ Drawn0 w w' := by
  have H : (some (IntKind.u64.wrap ((IntKind.u64.wrap ((IntKind.u64.wrap ((a0 / 4294967296) * (a1 / 4294967296))) + ((IntKind.u64.wrap ((IntKind.u64.wrap ((a0 / 4294967296) * (Go.bits .and .u64 a1 4294967295))) + ((IntKind.u64.wrap ((Go.bits .and .u64 a0 4294967295) * (Go.bits .and .u64 a1 4294967295))) / 4294967296))) / 4294967296))) + ((IntKind.u64.wrap ((Go.bits .and .u64 (IntKind.u64.wrap ((IntKind.u64.wrap ((a0 / 4294967296) * (Go.bits .and .u64 a1 4294967295))) + ((IntKind.u64.wrap ((Go.bits .and .u64 a0 4294967295) * (Go.bits .and .u64 a1 4294967295))) / 4294967296))) 4294967295) + (IntKind.u64.wrap ((Go.bits .and .u64 a0 4294967295) * (a1 / 4294967296))))) / 4294967296)), IntKind.u64.wrap (a0 * a1))) = some (r1, r2) := h
  clear h
  simp only [Option.some.injEq, Prod.mk.injEq] at H
  obtain ⟨rfl, rfl⟩ := H
  go_enter Tryz.func154, Tryz.ntmps154
  go_wp2
  go_ret2
  exact ⟨by first | rfl | (simp; done) | (simp [*]; done), by repeat (first | exact Drawn0.refl _ | apply Drawn0.step)⟩

/-- A state of type 165 at block g of W; what its slices lead to came in by w0. -/
def IsS165 (w0 W : World) (g : Nat) (f0 : Int) (f1 : Int) (f2 : Int) : Prop := W.heap[g]? = some (.cells #[.int .u64 f0, .int .u64 f1, .int .i64 f2] 165 (0, 0)) ∧ w0.heap.size ≤ g
theorem IsS165.grown {w0 W : World} {g : Nat} {f0 : Int} {f1 : Int} {f2 : Int} {W1 : World} {row : Option Nat} (h : IsS165 w0 W g f0 f1 f2) (hw : W.grownBy W1 row) (hne : some g ≠ row) : IsS165 w0 W1 g f0 f1 f2 := by
  obtain ⟨hb, hg⟩ := h
  exact ⟨blk_grown hb hw hne, hg⟩
theorem IsS165.own_neN {w0 W : World} {g : Nat} {f0 : Int} {f1 : Int} {f2 : Int} {α : Type} {d : Kd α} {e : Nat} {base : Nat} {ok : Nat → Prop} {v : Value} {xs : List α} (h : IsS165 w0 W g f0 f1 f2) (ho : Kd.N d e W base ok v xs) (ht : e ≠ 165) : some g ≠ v.ownBlock := by
  obtain ⟨hb, hg⟩ := h
  exact Kd.N_ne ho hb ht
theorem IsS165.fresh {w0 W : World} {g : Nat} {f0 : Int} {f1 : Int} {f2 : Int} (h : IsS165 w0 W g f0 f1 f2) : ∀ k, W.heap.size ≤ k → k ≠ g := by
  obtain ⟨hb, hg⟩ := h
  exact Kd.freshB hb
theorem IsS165.kept {w0 W : World} {g : Nat} {f0 : Int} {f1 : Int} {f2 : Int} {W1 : World} {S : Nat → Prop} (h : IsS165 w0 W g f0 f1 f2) (hk : Kept W W1 S) (hne : ¬ S g) : IsS165 w0 W1 g f0 f1 f2 := by
  obtain ⟨hb, hg⟩ := h
  exact ⟨blk_kept hb hk hne, hg⟩
theorem IsS165.below {w0 W : World} {g : Nat} {f0 : Int} {f1 : Int} {f2 : Int} {W1 : World} (h : IsS165 w0 W g f0 f1 f2) (hw : Below W.heap.size W W1) : IsS165 w0 W1 g f0 f1 f2 := h.grown (grown_of_below hw none) (by simp)
theorem IsS165.alloc {w0 W : World} {g : Nat} {f0 : Int} {f1 : Int} {f2 : Int} (h : IsS165 w0 W g f0 f1 f2) (o : Obj) : IsS165 w0 (W.alloc o) g f0 f1 f2 := h.below (below_alloc (Below.refl _ _) o)
theorem IsS165.drewN {w0 W : World} {g : Nat} {f0 : Int} {f1 : Int} {f2 : Int} (h : IsS165 w0 W g f0 f1 f2) (m : Nat) : IsS165 w0 (W.drewN m) g f0 f1 f2 := h
theorem IsS165.drew {w0 W : World} {g : Nat} {f0 : Int} {f1 : Int} {f2 : Int} (h : IsS165 w0 W g f0 f1 f2) : IsS165 w0 W.drew g f0 f1 f2 := h
theorem IsS165.at_ {w0 W : World} {g : Nat} {f0 : Int} {f1 : Int} {f2 : Int} {w' : World} {m : Nat} (hq : W.drewN m = w') (h : IsS165 w0 W g f0 f1 f2) : IsS165 w0 w' g f0 f1 f2 := by subst hq; exact IsS165.drewN h m
theorem IsS165.apart {w0 W : World} {g : Nat} {f0 : Int} {f1 : Int} {f2 : Int} {α : Type} {d : Kd α} {e : Nat} {base : Nat} {ok : Nat → Prop} {v : Value} {xs : List α} (h : IsS165 w0 W g f0 f1 f2) (ho : d.R e W base ok v xs) (ht : ∀ q, q ∈ e :: d.E → q ≠ 165) : d.R e W base (fun k => ok k ∧ k ≠ g) v xs := by
  obtain ⟨hb, hg⟩ := h
  exact Kd.R_types ho hb ht
theorem IsS165.own_ne {w0 W : World} {g : Nat} {f0 : Int} {f1 : Int} {f2 : Int} {α : Type} {d : Kd α} {e : Nat} {base : Nat} {ok : Nat → Prop} {v : Value} {xs : List α} (h : IsS165 w0 W g f0 f1 f2) (ho : d.R e W base ok v xs) (ht : e ≠ 165) : some g ≠ v.ownBlock := by
  obtain ⟨hb, hg⟩ := h
  exact Kd.R_ne ho hb ht
theorem IsS165.apartQ {w0 W : World} {g : Nat} {f0 : Int} {f1 : Int} {f2 : Int} {α : Type} {d : Kd α} {e : Nat} {base : Nat} {ok : Nat → Prop} {v : Value} {xs : List α} (h : IsS165 w0 W g f0 f1 f2) (ho : d.Q e W base ok v xs) (ht : ∀ q, q ∈ e :: d.E → q ≠ 165) : d.Q e W base (fun k => ok k ∧ k ≠ g) v xs := by
  obtain ⟨hb, hg⟩ := h
  exact Kd.Q_types ho hb ht
theorem IsS165.own_neQ {w0 W : World} {g : Nat} {f0 : Int} {f1 : Int} {f2 : Int} {α : Type} {d : Kd α} {e : Nat} {base : Nat} {ok : Nat → Prop} {v : Value} {xs : List α} (h : IsS165 w0 W g f0 f1 f2) (ho : d.Q e W base ok v xs) (ht : e ≠ 165) : some g ≠ v.ownBlock := by
  obtain ⟨hb, hg⟩ := h
  exact Kd.Q_ne ho hb ht
theorem IsS165.apartS {w0 W : World} {g : Nat} {f0 : Int} {f1 : Int} {f2 : Int} {α : Type} {d : Kd α} {e : Nat} {base : Nat} {ok : Nat → Prop} {v : Value} {xs : List α} (h : IsS165 w0 W g f0 f1 f2) (ho : d.S e W base ok v xs) (ht : ∀ q, q ∈ e :: d.E → q ≠ 165) : d.S e W base (fun k => ok k ∧ k ≠ g) v xs := by
  obtain ⟨hb, hg⟩ := h
  exact Kd.S_types ho hb ht
theorem IsS165.own_neS {w0 W : World} {g : Nat} {f0 : Int} {f1 : Int} {f2 : Int} {α : Type} {d : Kd α} {e : Nat} {base : Nat} {ok : Nat → Prop} {v : Value} {xs : List α} (h : IsS165 w0 W g f0 f1 f2) (ho : d.S e W base ok v xs) (ht : e ≠ 165) : some g ≠ v.ownBlock := by
  obtain ⟨hb, hg⟩ := h
  exact Kd.S_ne ho hb ht
theorem IsS165.lt {w0 W : World} {g : Nat} {f0 : Int} {f1 : Int} {f2 : Int} (h : IsS165 w0 W g f0 f1 f2) : g < W.heap.size := by
  obtain ⟨hb, hg⟩ := h
  exact blk_lt hb
theorem IsS165.ge {w0 W : World} {g : Nat} {f0 : Int} {f1 : Int} {f2 : Int} (h : IsS165 w0 W g f0 f1 f2) : w0.heap.size ≤ g := by
  obtain ⟨hb, hg⟩ := h
  exact hg
theorem IsS165.ne_blk {w0 W : World} {g : Nat} {f0 : Int} {f1 : Int} {f2 : Int} {a : Nat} {cs : Array Value} {t : TypeId} {fr : Nat × Nat} (h : IsS165 w0 W g f0 f1 f2) (hb2 : W.heap[a]? = some (.cells cs t fr)) (ht : t ≠ 165) : g ≠ a := by
  obtain ⟨hb, hg⟩ := h
  rintro rfl
  rw [hb] at hb2
  injection hb2 with hb2
  injection hb2 with _ ht2
  exact ht ht2.symm
theorem IsS165.far {w0 W : World} {g : Nat} {f0 : Int} {f1 : Int} {f2 : Int} {p : Addr} (h : IsS165 w0 W g f0 f1 f2) (hne : g ≠ p.block) (u : Value) : IsS165 w0 (W.setCell p u) g f0 f1 f2 := by
  obtain ⟨hb, hg⟩ := h
  exact ⟨blk_far hb hne u, hg⟩
theorem cellS165_0 {W : World} {g : Nat} {f0 : Int} {f1 : Int} {f2 : Int} (h : W.heap[g]? = some (.cells #[.int .u64 f0, .int .u64 f1, .int .i64 f2] 165 (0, 0))) : W.cell? ⟨g, 0, none⟩ = some (.int .u64 f0) := (blk_cell h 0).trans rfl
theorem IsS165.set_0 {w0 W : World} {g : Nat} {f0 : Int} {f1 : Int} {f2 : Int} (h : IsS165 w0 W g f0 f1 f2) (x : Int) : IsS165 w0 (W.setCell ⟨g, 0, none⟩ (.int .u64 x)) g x f1 f2 := by
  obtain ⟨hb, hg⟩ := h
  exact ⟨by simpa using blk_set hb 0 (.int .u64 x), hg⟩
theorem cellS165_1 {W : World} {g : Nat} {f0 : Int} {f1 : Int} {f2 : Int} (h : W.heap[g]? = some (.cells #[.int .u64 f0, .int .u64 f1, .int .i64 f2] 165 (0, 0))) : W.cell? ⟨g, 1, none⟩ = some (.int .u64 f1) := (blk_cell h 1).trans rfl
theorem IsS165.set_1 {w0 W : World} {g : Nat} {f0 : Int} {f1 : Int} {f2 : Int} (h : IsS165 w0 W g f0 f1 f2) (x : Int) : IsS165 w0 (W.setCell ⟨g, 1, none⟩ (.int .u64 x)) g f0 x f2 := by
  obtain ⟨hb, hg⟩ := h
  exact ⟨by simpa using blk_set hb 1 (.int .u64 x), hg⟩
theorem cellS165_2 {W : World} {g : Nat} {f0 : Int} {f1 : Int} {f2 : Int} (h : W.heap[g]? = some (.cells #[.int .u64 f0, .int .u64 f1, .int .i64 f2] 165 (0, 0))) : W.cell? ⟨g, 2, none⟩ = some (.int .i64 f2) := (blk_cell h 2).trans rfl
theorem IsS165.set_2 {w0 W : World} {g : Nat} {f0 : Int} {f1 : Int} {f2 : Int} (h : IsS165 w0 W g f0 f1 f2) (x : Int) : IsS165 w0 (W.setCell ⟨g, 2, none⟩ (.int .i64 x)) g f0 f1 x := by
  obtain ⟨hb, hg⟩ := h
  exact ⟨by simpa using blk_set hb 2 (.int .i64 x), hg⟩
theorem IsS165.new (w0 W : World) (f0 : Int) (f1 : Int) (f2 : Int) (hB : Below w0.heap.size w0 W) : IsS165 w0 (W.alloc (.cells #[.int .u64 f0, .int .u64 f1, .int .i64 f2] 165)) W.heap.size f0 f1 f2 := ⟨by simpa using heap_alloc_new W _, hB.size⟩

/-! ### strconv_bool2_int: function 146 -/
def strconv_bool2_int.f (a0 : Bool) : Option (Int) := if a0 = true then (some 1) else (some 0)
set_option maxHeartbeats 8000000 in
set_option maxRecDepth 100000 in
theorem strconv_bool2_int.calls (a0 : Bool) (r : Int) (w : World) (h : strconv_bool2_int.f a0 = some r) :
    Calls Tryz.prog 146 #[.bool a0] w fun e w' => e = .returned (.int .i64 r) ∧ Drawn0 w w' := by
  have H : (if a0 = true then (some 1) else (some 0)) = some r := h
  clear h
  by_cases c2 : a0 = true
  · subst c2
    have H1 : (some 1) = some r := by rw [if_pos rfl] at H; exact H
    clear H
    have H := H1
    clear H1
    obtain rfl := Option.some.inj H
    go_enter Tryz.func146, Tryz.ntmps146
    go_wp2
    go_ret
    exact ⟨by first | rfl | (simp; done) | (simp [*]; done), by repeat (first | exact Drawn0.refl _ | apply Drawn0.step)⟩
  · replace c2 := Bool.eq_false_iff.mpr c2
    subst c2
    have H1 : (some 0) = some r := by rw [if_neg (show ¬ (false = true) by decide)] at H; exact H
    clear H
    have H := H1
    clear H1
    obtain rfl := Option.some.inj H
    go_enter Tryz.func146, Tryz.ntmps146
    go_wp2
    go_ret
    exact ⟨by first | rfl | (simp; done) | (simp [*]; done), by repeat (first | exact Drawn0.refl _ | apply Drawn0.step)⟩

/-! ### strconv_unmin: function 147 -/
def strconv_unmin.f (a0 : Int) : Option (Int) := some (IntKind.u64.wrap ((IntKind.u64.wrap (a0 * 4)) - 2))
set_option maxHeartbeats 8000000 in
set_option maxRecDepth 100000 in
theorem strconv_unmin.calls (a0 : Int) (r : Int) (w : World) (h : strconv_unmin.f a0 = some r) :
    Calls Tryz.prog 147 #[.int .u64 a0] w fun e w' => e = .returned (.int .u64 r) ∧ Drawn0 w w' := by
  have H : (some (IntKind.u64.wrap ((IntKind.u64.wrap (a0 * 4)) - 2))) = some r := h
  clear h
  obtain rfl := Option.some.inj H
  go_enter Tryz.func147, Tryz.ntmps147
  go_wp2
  go_ret
  exact ⟨by first | rfl | (simp; done) | (simp [*]; done), by repeat (first | exact Drawn0.refl _ | apply Drawn0.step)⟩

-- NOT PRINTED: function 148 (strconv_pack32)

/-! ### strconv_unrounded_round: function 149 -/
def strconv_unrounded_round.f (a0 : Int) : Option (Int) := some ((IntKind.u64.wrap ((IntKind.u64.wrap (a0 + 1)) + (Go.bits .and .u64 (a0 / 4) 1))) / 4)
set_option maxHeartbeats 8000000 in
set_option maxRecDepth 100000 in
theorem strconv_unrounded_round.calls (a0 : Int) (r : Int) (w : World) (h : strconv_unrounded_round.f a0 = some r) :
    Calls Tryz.prog 149 #[.int .u64 a0] w fun e w' => e = .returned (.int .u64 r) ∧ Drawn0 w w' := by
  have H : (some ((IntKind.u64.wrap ((IntKind.u64.wrap (a0 + 1)) + (Go.bits .and .u64 (a0 / 4) 1))) / 4)) = some r := h
  clear h
  obtain rfl := Option.some.inj H
  go_enter Tryz.func149, Tryz.ntmps149
  go_wp2
  go_ret
  exact ⟨by first | rfl | (simp; done) | (simp [*]; done), by repeat (first | exact Drawn0.refl _ | apply Drawn0.step)⟩

-- NOT PRINTED: function 131 (strconv_parseFloat32)

-- NOT PRINTED: function 132 (strconv_decimal_set)

end Go.Proofs.YtlkbhmmelejmjaaGreatDoor.FltKnown

/- The fast road of floats, walked: Len64, prescale, uscale, pack64, parseFloat64. -/
namespace Go.Proofs.YtlkbhmmelejmjaaGreatDoor.FltFast
open Go.RowKit Go.Proofs.YtlkbhmmelejmjaaGreatDoorW.PrintWords Go.Proofs.YtlkbhmmelejmjaaGreatDoor.FltKnown Go.Proofs.YtlkbhmmelejmjaaGreatDoor.FltDec
set_option linter.unusedVariables false
set_option linter.unusedSimpArgs false

theorem fb_run (n : Int) (W : World) : (callFunc 135 #[.int .u64 n]).run Tryz.prog W = .ok (.value (.float .f64 n.toNat)) W := by
  rw [run_callFunc_extern (fn := Tryz.f135) (e := Extern.MathFloatBits.float64frombits) (by kernel_rfl) (by kernel_rfl) (by kernel_rfl) (by kernel_rfl) (by kernel_rfl)]
  rfl

/-- The error for what is too great (1), for what is no number (2). -/
def erV (b : Bool) : Value := if b then .iface 119 (.int .i64 1) else .nilIface
def Dr (v : Value) (w : World) (e : Ending) (w' : World) : Prop := e = .returned v ∧ ∃ n, w' = w.drewN n

/-- pack64: the float, and whether it is too great. -/
def pkO (m x : Int) : Bool := !decide (bits .and .u64 m 4503599627370496 = 0) && decide (972 ≤ x)
def pkV (m x : Int) : Nat := if bits .and .u64 m 4503599627370496 = 0 then m.toNat else if 972 ≤ x then (bits .or .u64 (bits .and .u64 m 9223372036854775808) 9218868437227405312).toNat else (bits .or .u64 (bits .andNot .u64 m 4503599627370496) (IntKind.u64.wrap (IntKind.u64.wrap (1075 + x) * 4503599627370496))).toNat
theorem pack_walk (m x : Int) (w : World) (hx0 : -100000 ≤ x) (hx1 : x ≤ 100000) : Calls Tryz.prog 152 #[.int .u64 m, .int .i64 x] w (Dr (.tuple #[.float .f64 (pkV m x), erV (pkO m x)]) w) := by
  have hfb := fb_run
  by_cases h : bits .and .u64 m 4503599627370496 = 0
  · have e1 : pkV m x = m.toNat := by unfold pkV; rw [if_pos h]
    have e2 : pkO m x = false := by unfold pkO; simp [h]
    rw [e1, e2]
    clear e1 e2
    go_enter Tryz.func152, Tryz.ntmps152
    go_wp2_with fail
    go_ret2
    exact ⟨rfl, 0, rfl⟩
  · have q : (bits .and .u64 m 4503599627370496 == 0) = false := beq_eq_false_iff_ne.mpr h
    by_cases h2 : 972 ≤ x
    · have e1 : pkV m x = (bits .or .u64 (bits .and .u64 m 9223372036854775808) 9218868437227405312).toNat := by unfold pkV; rw [if_neg h, if_pos h2]
      have e2 : pkO m x = true := by unfold pkO; simp [h, h2]
      rw [e1, e2]
      clear e1 e2
      go_enter Tryz.func152, Tryz.ntmps152
      go_wp2_with fail
      go_ret2
      exact ⟨rfl, 0, rfl⟩
    · have e1 : pkV m x = (bits .or .u64 (bits .andNot .u64 m 4503599627370496) (IntKind.u64.wrap (IntKind.u64.wrap (1075 + x) * 4503599627370496))).toNat := by unfold pkV; rw [if_neg h, if_neg h2]
      have e2 : pkO m x = false := by unfold pkO; simp [h2]
      rw [e1, e2]
      clear e1 e2
      go_enter Tryz.func152, Tryz.ntmps152
      go_wp2_with fail
      go_ret2
      exact ⟨rfl, 0, rfl⟩

/-- How many bits a byte has. -/
def t8 (i : Nat) : Nat := if i = 0 then 0 else Nat.log2 i + 1
theorem t8_le (i : Nat) (h : i < 256) : t8 i ≤ 8 := by
  have : ∀ j : Fin 256, t8 j.1 ≤ 8 := by decide +kernel
  exact this ⟨i, h⟩
set_option maxRecDepth 100000 in
theorem tab_at (i : Nat) (h : i < (⟨#[0, 1, 2, 2, 3, 3, 3, 3, 4, 4, 4, 4, 4, 4, 4, 4, 5, 5, 5, 5, 5, 5, 5, 5, 5, 5, 5, 5, 5, 5, 5, 5, 6, 6, 6, 6, 6, 6, 6, 6, 6, 6, 6, 6, 6, 6, 6, 6, 6, 6, 6, 6, 6, 6, 6, 6, 6, 6, 6, 6, 6, 6, 6, 6, 7, 7, 7, 7, 7, 7, 7, 7, 7, 7, 7, 7, 7, 7, 7, 7, 7, 7, 7, 7, 7, 7, 7, 7, 7, 7, 7, 7, 7, 7, 7, 7, 7, 7, 7, 7, 7, 7, 7, 7, 7, 7, 7, 7, 7, 7, 7, 7, 7, 7, 7, 7, 7, 7, 7, 7, 7, 7, 7, 7, 7, 7, 7, 7, 8, 8, 8, 8, 8, 8, 8, 8, 8, 8, 8, 8, 8, 8, 8, 8, 8, 8, 8, 8, 8, 8, 8, 8, 8, 8, 8, 8, 8, 8, 8, 8, 8, 8, 8, 8, 8, 8, 8, 8, 8, 8, 8, 8, 8, 8, 8, 8, 8, 8, 8, 8, 8, 8, 8, 8, 8, 8, 8, 8, 8, 8, 8, 8, 8, 8, 8, 8, 8, 8, 8, 8, 8, 8, 8, 8, 8, 8, 8, 8, 8, 8, 8, 8, 8, 8, 8, 8, 8, 8, 8, 8, 8, 8, 8, 8, 8, 8, 8, 8, 8, 8, 8, 8, 8, 8, 8, 8, 8, 8, 8, 8, 8, 8, 8, 8, 8, 8, 8, 8, 8, 8, 8, 8, 8, 8, 8, 8]⟩ : ByteArray).size) : ((⟨#[0, 1, 2, 2, 3, 3, 3, 3, 4, 4, 4, 4, 4, 4, 4, 4, 5, 5, 5, 5, 5, 5, 5, 5, 5, 5, 5, 5, 5, 5, 5, 5, 6, 6, 6, 6, 6, 6, 6, 6, 6, 6, 6, 6, 6, 6, 6, 6, 6, 6, 6, 6, 6, 6, 6, 6, 6, 6, 6, 6, 6, 6, 6, 6, 7, 7, 7, 7, 7, 7, 7, 7, 7, 7, 7, 7, 7, 7, 7, 7, 7, 7, 7, 7, 7, 7, 7, 7, 7, 7, 7, 7, 7, 7, 7, 7, 7, 7, 7, 7, 7, 7, 7, 7, 7, 7, 7, 7, 7, 7, 7, 7, 7, 7, 7, 7, 7, 7, 7, 7, 7, 7, 7, 7, 7, 7, 7, 7, 8, 8, 8, 8, 8, 8, 8, 8, 8, 8, 8, 8, 8, 8, 8, 8, 8, 8, 8, 8, 8, 8, 8, 8, 8, 8, 8, 8, 8, 8, 8, 8, 8, 8, 8, 8, 8, 8, 8, 8, 8, 8, 8, 8, 8, 8, 8, 8, 8, 8, 8, 8, 8, 8, 8, 8, 8, 8, 8, 8, 8, 8, 8, 8, 8, 8, 8, 8, 8, 8, 8, 8, 8, 8, 8, 8, 8, 8, 8, 8, 8, 8, 8, 8, 8, 8, 8, 8, 8, 8, 8, 8, 8, 8, 8, 8, 8, 8, 8, 8, 8, 8, 8, 8, 8, 8, 8, 8, 8, 8, 8, 8, 8, 8, 8, 8, 8, 8, 8, 8, 8, 8, 8, 8, 8, 8, 8, 8]⟩ : ByteArray)[i]'h).toNat = t8 i := by
  have : ∀ j : Fin 256, ((⟨#[0, 1, 2, 2, 3, 3, 3, 3, 4, 4, 4, 4, 4, 4, 4, 4, 5, 5, 5, 5, 5, 5, 5, 5, 5, 5, 5, 5, 5, 5, 5, 5, 6, 6, 6, 6, 6, 6, 6, 6, 6, 6, 6, 6, 6, 6, 6, 6, 6, 6, 6, 6, 6, 6, 6, 6, 6, 6, 6, 6, 6, 6, 6, 6, 7, 7, 7, 7, 7, 7, 7, 7, 7, 7, 7, 7, 7, 7, 7, 7, 7, 7, 7, 7, 7, 7, 7, 7, 7, 7, 7, 7, 7, 7, 7, 7, 7, 7, 7, 7, 7, 7, 7, 7, 7, 7, 7, 7, 7, 7, 7, 7, 7, 7, 7, 7, 7, 7, 7, 7, 7, 7, 7, 7, 7, 7, 7, 7, 8, 8, 8, 8, 8, 8, 8, 8, 8, 8, 8, 8, 8, 8, 8, 8, 8, 8, 8, 8, 8, 8, 8, 8, 8, 8, 8, 8, 8, 8, 8, 8, 8, 8, 8, 8, 8, 8, 8, 8, 8, 8, 8, 8, 8, 8, 8, 8, 8, 8, 8, 8, 8, 8, 8, 8, 8, 8, 8, 8, 8, 8, 8, 8, 8, 8, 8, 8, 8, 8, 8, 8, 8, 8, 8, 8, 8, 8, 8, 8, 8, 8, 8, 8, 8, 8, 8, 8, 8, 8, 8, 8, 8, 8, 8, 8, 8, 8, 8, 8, 8, 8, 8, 8, 8, 8, 8, 8, 8, 8, 8, 8, 8, 8, 8, 8, 8, 8, 8, 8, 8, 8, 8, 8, 8, 8, 8, 8]⟩ : ByteArray)[j.1]'(j.2)).toNat = t8 j.1 := by decide +kernel
  exact this ⟨i, h⟩
/-- The number of bits of a number of 64 bits. -/
def l8 (n x : Int) : Int := if 256 ≤ x then n + 8 + (t8 (x / 256).toNat : Nat) else n + (t8 x.toNat : Nat)
def l16 (n x : Int) : Int := if 65536 ≤ x then l8 (n + 16) (x / 65536) else l8 n x
def l64 (x : Int) : Int := if 4294967296 ≤ x then l16 32 (x / 4294967296) else l16 0 x
theorem l64_in (x : Int) (hx0 : 0 ≤ x) (hx1 : x < 18446744073709551616) : 0 ≤ l64 x ∧ l64 x ≤ 64 := by
  have key : ∀ n y : Int, 0 ≤ n → 0 ≤ y → y < 65536 → 0 ≤ l8 n y ∧ l8 n y ≤ n + 16 := by
    intro n y h0 h1 h2
    unfold l8
    split
    · have := t8_le (y / 256).toNat (by omega); omega
    · have := t8_le y.toNat (by omega); omega
  have key2 : ∀ n y : Int, 0 ≤ n → 0 ≤ y → y < 4294967296 → 0 ≤ l16 n y ∧ l16 n y ≤ n + 32 := by
    intro n y h0 h1 h2
    unfold l16
    split
    · have := key (n + 16) (y / 65536) (by omega) (by omega) (by omega); omega
    · have := key n y (by omega) (by omega) (by omega); omega
  unfold l64
  split
  · have := key2 32 (x / 4294967296) (by omega) (by omega) (by omega); omega
  · have := key2 0 x (by omega) (by omega) (by omega); omega

set_option maxRecDepth 100000 in
theorem len_walk (x : Int) (hx0 : 0 ≤ x) (hx1 : x < 18446744073709551616) (w : World) : Calls Tryz.prog 142 #[.int .u64 x] w (Dr (.int .i64 (l64 x)) w) := by
  have wr : ∀ (n : Int) (i : Nat), 0 ≤ n → n ≤ 64 → i < 256 → wrap64 (n + wrap64 ((t8 i : Nat) : Int)) = n + (t8 i : Nat) := fun n i h0 h1 h2 => by
    have := t8_le i h2
    unfold wrap64
    omega
  by_cases h : 4294967296 ≤ x
  · have e1 : l64 x = l16 32 (x / 4294967296) := by unfold l64; rw [if_pos h]
    by_cases h2 : 65536 ≤ x / 4294967296
    · have e2 : l16 32 (x / 4294967296) = l8 48 (x / 4294967296 / 65536) := by unfold l16; rw [if_pos h2]; rfl
      by_cases h3 : 256 ≤ x / 4294967296 / 65536
      · rw [e1, e2]
        unfold l8
        rw [if_pos h3]
        clear e1 e2
        replace wr := Aside0.mk wr
        go_enter Tryz.func142, Tryz.ntmps142
        go_wp2_with fail
        go_ret
        refine ⟨?_, 0, rfl⟩
        show Ending.returned (Value.int .i64 _) = _
        rw [tab_at]
        exact congrArg (fun z => Ending.returned (Value.int .i64 z)) ((wr.out _ _ (by omega) (by omega) (by omega)).trans (by omega))
      · rw [e1, e2]
        unfold l8
        rw [if_neg h3]
        clear e1 e2
        replace wr := Aside0.mk wr
        go_enter Tryz.func142, Tryz.ntmps142
        go_wp2_with fail
        go_ret
        refine ⟨?_, 0, rfl⟩
        show Ending.returned (Value.int .i64 _) = _
        rw [tab_at]
        exact congrArg (fun z => Ending.returned (Value.int .i64 z)) ((wr.out _ _ (by omega) (by omega) (by omega)).trans (by omega))
    · have e2 : l16 32 (x / 4294967296) = l8 32 (x / 4294967296) := by unfold l16; rw [if_neg h2]
      by_cases h3 : 256 ≤ x / 4294967296
      · rw [e1, e2]
        unfold l8
        rw [if_pos h3]
        clear e1 e2
        replace wr := Aside0.mk wr
        go_enter Tryz.func142, Tryz.ntmps142
        go_wp2_with fail
        go_ret
        refine ⟨?_, 0, rfl⟩
        show Ending.returned (Value.int .i64 _) = _
        rw [tab_at]
        exact congrArg (fun z => Ending.returned (Value.int .i64 z)) ((wr.out _ _ (by omega) (by omega) (by omega)).trans (by omega))
      · rw [e1, e2]
        unfold l8
        rw [if_neg h3]
        clear e1 e2
        replace wr := Aside0.mk wr
        go_enter Tryz.func142, Tryz.ntmps142
        go_wp2_with fail
        go_ret
        refine ⟨?_, 0, rfl⟩
        show Ending.returned (Value.int .i64 _) = _
        rw [tab_at]
        exact congrArg (fun z => Ending.returned (Value.int .i64 z)) ((wr.out _ _ (by omega) (by omega) (by omega)).trans (by omega))
  · have e1 : l64 x = l16 0 x := by unfold l64; rw [if_neg h]
    by_cases h2 : 65536 ≤ x
    · have e2 : l16 0 x = l8 16 (x / 65536) := by unfold l16; rw [if_pos h2]; rfl
      by_cases h3 : 256 ≤ x / 65536
      · rw [e1, e2]
        unfold l8
        rw [if_pos h3]
        clear e1 e2
        replace wr := Aside0.mk wr
        go_enter Tryz.func142, Tryz.ntmps142
        go_wp2_with fail
        go_ret
        refine ⟨?_, 0, rfl⟩
        show Ending.returned (Value.int .i64 _) = _
        rw [tab_at]
        exact congrArg (fun z => Ending.returned (Value.int .i64 z)) ((wr.out _ _ (by omega) (by omega) (by omega)).trans (by omega))
      · rw [e1, e2]
        unfold l8
        rw [if_neg h3]
        clear e1 e2
        replace wr := Aside0.mk wr
        go_enter Tryz.func142, Tryz.ntmps142
        go_wp2_with fail
        go_ret
        refine ⟨?_, 0, rfl⟩
        show Ending.returned (Value.int .i64 _) = _
        rw [tab_at]
        exact congrArg (fun z => Ending.returned (Value.int .i64 z)) ((wr.out _ _ (by omega) (by omega) (by omega)).trans (by omega))
    · have e2 : l16 0 x = l8 0 x := by unfold l16; rw [if_neg h2]
      by_cases h3 : 256 ≤ x
      · rw [e1, e2]
        unfold l8
        rw [if_pos h3]
        clear e1 e2
        replace wr := Aside0.mk wr
        go_enter Tryz.func142, Tryz.ntmps142
        go_wp2_with fail
        go_ret
        refine ⟨?_, 0, rfl⟩
        show Ending.returned (Value.int .i64 _) = _
        rw [tab_at]
        exact congrArg (fun z => Ending.returned (Value.int .i64 z)) ((wr.out _ _ (by omega) (by omega) (by omega)).trans (by omega))
      · rw [e1, e2]
        unfold l8
        rw [if_neg h3]
        clear e1 e2
        replace wr := Aside0.mk wr
        go_enter Tryz.func142, Tryz.ntmps142
        go_wp2_with fail
        go_ret
        refine ⟨?_, 0, rfl⟩
        show Ending.returned (Value.int .i64 _) = _
        rw [tab_at]
        have h9 := t8_le x.toNat (by omega)
        exact congrArg (fun z => Ending.returned (Value.int .i64 z)) (by unfold wrap64; omega)
end Go.Proofs.YtlkbhmmelejmjaaGreatDoor.FltFast

/- The decimal of the slow road: the shifts, called. -/
namespace Go.Proofs.YtlkbhmmelejmjaaGreatDoor.FltShift
open Go.RowKit Go.Proofs.YtlkbhmmelejmjaaGreatDoorW.PrintWords Go.Proofs.YtlkbhmmelejmjaaGreatDoor.NumKnown Go.Proofs.YtlkbhmmelejmjaaGreatDoor.NumPure Go.Proofs.YtlkbhmmelejmjaaGreatDoor.FltDec Go.Proofs.YtlkbhmmelejmjaaGreatDoor.FltPure Go.Proofs.YtlkbhmmelejmjaaGreatDoor.FltLeft Go.Proofs.YtlkbhmmelejmjaaGreatDoor.FltRight Go.Proofs.YtlkbhmmelejmjaaGreatDoor.FltLaw Go.Proofs.YtlkbhmmelejmjaaGreatDoor.FltState
set_option linter.unusedVariables false
set_option linter.unusedSimpArgs false

/-- Behind a call the state is s' and what lies below the decimal is as it was. -/
def Shd (p : Nat) (ng : Bool) (s' : St) (w : World) (e : Ending) (w' : World) : Prop := e = .returned (.tuple #[]) ∧ s'.At p ng w' ∧ Below p w w'

theorem ls_walk (p k : Nat) (ng : Bool) (s : St) (hs : s.Good) (h1 : 1 ≤ k) (h2 : k ≤ 60) (hd0 : -1000000 ≤ s.dp) (hd1 : s.dp ≤ 1000000) (w : World) (ha : s.At p ng w) (ht : LTab w lcD lcT) : Calls Tryz.prog 155 #[.pointer (some ⟨p, 0, none⟩), .int .u64 k] w (Shd p ng (ls k s) w) := by
  obtain ⟨g, hD, hg⟩ := ha
  obtain ⟨l1, l2, l3, l4⟩ := le_law hs h1 h2
  have hv : val g s.n = val s.F s.n := val_congr hg
  have hT : (lcT k).data.toList = lcL k := by simp [lcT]
  have ho := lc_at k h1 h2
  unfold lcOk at ho
  simp only [Bool.and_eq_true, decide_eq_true_eq] at ho
  have hgood := ls_good hs h1 h2
  refine (left_walk p s.n (le k s) k g s.dp ng s.tr lcD lcT hs.most h2 l1 hd0 hd1 (good_congr hg hs.dig) ?_ ?_ (by rw [hv]; exact l3) (by rw [hv]; exact l4) w hD ht).mono ?_
  · have := ho.1.2
    show (lcL k).toArray.size ≤ 1000
    simpa using this
  · rw [hT, pl_congr hg]
    exact l2
  · rintro e w' ⟨rfl, g', hD', hg', hB⟩
    rw [hv] at hD' hg'
    refine ⟨rfl, ⟨g', ?_, fun j hj => hg' j (Nat.lt_of_lt_of_le hj (cut_le _ _))⟩, hB⟩
    have h1' := hgood.one
    unfold ls at h1'
    simp only [] at h1'
    unfold trimDp at hD'
    rw [show val s.F s.n * 2 ^ k = lX k s from rfl] at hD'
    rw [if_neg (by omega)] at hD'
    exact hD'

/-- The shift to the right. -/
def r0 (k : Nat) (s : St) : Nat := least (fun r => decide (2 ^ k ≤ pv s.F s.n r)) 100 0
def rJ (k : Nat) (s : St) : Nat := least (fun j => decide (rn s.F s.n k (r0 k s + j) = 0)) 2000 (s.n - r0 k s)
def rs (k : Nat) (s : St) : St := ⟨rdig s.F s.n k (r0 k s), cut (rdig s.F s.n k (r0 k s)) (min (rJ k s) 800), s.dp - ((r0 k s : Int) - 1), s.tr || lostR s.F s.n k (r0 k s) (rJ k s)⟩

theorem pv_low {s : St} (hs : s.Good) : ∀ r, 10 ^ r ≤ pv s.F s.n (r + 1)
  | 0 => by
    have h1 := hs.dig.dv_eq (i := 0) hs.one
    have h2 := hs.head
    rw [pv_lt hs.one, pv_zero]
    omega
  | r + 1 => by
    have ih := pv_low hs r
    rw [Nat.pow_succ]
    by_cases h : r + 1 < s.n
    · rw [pv_lt h]; omega
    · rw [pv_ge (by omega)]; omega
theorem r0_law {s : St} (hs : s.Good) {k : Nat} (h2 : k ≤ 60) : 1 ≤ r0 k s ∧ r0 k s ≤ 20 ∧ 2 ^ k ≤ pv s.F s.n (r0 k s) ∧ ∀ r, r < r0 k s → pv s.F s.n r < 2 ^ k := by
  have hk2 : 2 ^ k ≤ 1152921504606846976 := Nat.le_trans (Nat.pow_le_pow_right (by omega) h2) (by decide)
  have hkp : 0 < 2 ^ k := Nat.pow_pos (by omega)
  have h20 : 2 ^ k ≤ pv s.F s.n 20 := Nat.le_trans hk2 (Nat.le_trans (by decide) (pv_low hs 19))
  have a1 := least_is (fun r => decide (2 ^ k ≤ pv s.F s.n r)) 100 0 20 (by omega) (by omega) (by simpa using h20)
  have a2 := least_le (fun r => decide (2 ^ k ≤ pv s.F s.n r)) 100 0 20 (by omega) (by omega) (by simpa using h20)
  have a3 := fun r => least_not (fun r => decide (2 ^ k ≤ pv s.F s.n r)) 100 0 r
  have a1' : 2 ^ k ≤ pv s.F s.n (r0 k s) := of_decide_eq_true a1
  refine ⟨?_, a2, a1', fun r hr => ?_⟩
  · rcases Nat.eq_zero_or_pos (r0 k s) with h | h
    · rw [h, pv_zero] at a1'
      omega
    · exact h
  · have := a3 r (by omega) hr
    simpa using this
theorem r0_hi {s : St} (hs : s.Good) {k : Nat} (h2 : k ≤ 60) : pv s.F s.n (r0 k s) < 2 ^ k * 10 := by
  obtain ⟨a1, a2, a3, a4⟩ := r0_law hs h2
  obtain ⟨r, hr⟩ : ∃ r, r0 k s = r + 1 := ⟨r0 k s - 1, by omega⟩
  have h := a4 r (by omega)
  rw [hr]
  by_cases hrn : r < s.n
  · have := hs.dig.dv hrn
    rw [pv_lt hrn]
    omega
  · rw [pv_ge (by omega)]
    omega
theorem rJ_law {s : St} (hs : s.Good) {k : Nat} (h2 : k ≤ 60) : s.n - r0 k s ≤ rJ k s ∧ rJ k s ≤ 1000 ∧ rn s.F s.n k (r0 k s + rJ k s) = 0 ∧ ∀ j, s.n - r0 k s ≤ j → j < rJ k s → rn s.F s.n k (r0 k s + j) ≠ 0 := by
  obtain ⟨a1, a2, a3, a4⟩ := r0_law hs h2
  have hn := hs.most
  have hz : rn s.F s.n k (r0 k s + (s.n + k + 1 - r0 k s)) = 0 := by
    unfold rn pv
    have hle : r0 k s ≤ s.n + k + 1 := by
      rcases Nat.lt_or_ge (s.n + k + 1) (r0 k s) with h | h
      · have := a4 _ h
        have h3 := pv_low hs (s.n + k)
        have h5 : 2 ^ k ≤ 10 ^ (s.n + k) := Nat.le_trans (Nat.pow_le_pow_left (by omega) k) (Nat.pow_le_pow_right (by omega) (by omega))
        omega
      · exact h
    rw [show r0 k s + (s.n + k + 1 - r0 k s) = s.n + (k + 1) from by omega, if_neg (by omega), Nat.add_sub_cancel_left]
    have : 10 ^ (k + 1) = 2 ^ k * 10 * 5 ^ k := by
      rw [Nat.pow_succ, show (10 : Nat) = 2 * 5 from rfl, Nat.mul_pow]
      simp only [Nat.mul_assoc, Nat.mul_left_comm, Nat.mul_comm]
    rw [this, Nat.mul_comm (2 ^ k * 10), ← Nat.mul_assoc]
    exact Nat.mul_mod_left _ _
  have b1 := least_is (fun j => decide (rn s.F s.n k (r0 k s + j) = 0)) 2000 (s.n - r0 k s) (s.n + k + 1 - r0 k s) (by omega) (by omega) (by simpa using hz)
  have b2 := least_le (fun j => decide (rn s.F s.n k (r0 k s + j) = 0)) 2000 (s.n - r0 k s) (s.n + k + 1 - r0 k s) (by omega) (by omega) (by simpa using hz)
  have b3 := least_ge (fun j => decide (rn s.F s.n k (r0 k s + j) = 0)) 2000 (s.n - r0 k s)
  have b4 := fun j => least_not (fun j => decide (rn s.F s.n k (r0 k s + j) = 0)) 2000 (s.n - r0 k s) j
  refine ⟨b3, ?_, of_decide_eq_true b1, fun j hj1 hj2 => by simpa using b4 j hj1 hj2⟩
  unfold rJ
  omega
theorem rs_head {s : St} (hs : s.Good) {k : Nat} (h2 : k ≤ 60) : rdig s.F s.n k (r0 k s) 0 = 48 + (pv s.F s.n (r0 k s) / 2 ^ k : Nat) ∧ 1 ≤ pv s.F s.n (r0 k s) / 2 ^ k ∧ pv s.F s.n (r0 k s) / 2 ^ k ≤ 9 := by
  obtain ⟨a1, a2, a3, a4⟩ := r0_law hs h2
  have h := r0_hi hs h2
  have hp : 0 < 2 ^ k := Nat.pow_pos (by omega)
  have h9 : pv s.F s.n (r0 k s) / 2 ^ k < 10 := by rw [Nat.div_lt_iff_lt_mul hp]; omega
  refine ⟨?_, Nat.div_pos a3 hp, by omega⟩
  unfold rdig
  rw [Nat.add_zero, Nat.mod_eq_of_lt h9]
theorem rs_good {s : St} (hs : s.Good) {k : Nat} (h2 : k ≤ 60) : (rs k s).Good := by
  obtain ⟨h3, h4, h5⟩ := rs_head hs h2
  obtain ⟨b1, b2, b3, b4⟩ := rJ_law hs h2
  obtain ⟨a1, a2, a3, a4⟩ := r0_law hs h2
  have hne : rdig s.F s.n k (r0 k s) 0 ≠ 48 := by omega
  have hJ : 1 ≤ rJ k s := by
    rcases Nat.eq_zero_or_pos (rJ k s) with h | h
    · rw [h, Nat.add_zero] at b3
      unfold rn at b3
      have := r0_hi hs h2
      rw [Nat.mod_eq_of_lt this] at b3
      have : 0 < 2 ^ k := Nat.pow_pos (by omega)
      omega
    · exact h
  exact ⟨cut_pos hne (by omega), Nat.le_trans (cut_le _ _) (Nat.min_le_right _ _), fun i _ => by show 48 ≤ rdig _ _ _ _ i ∧ rdig _ _ _ _ i ≤ 57; unfold rdig; omega, hne⟩
theorem rs_walk (p k : Nat) (ng : Bool) (s : St) (hs : s.Good) (h2 : k ≤ 60) (hd0 : -1000000 ≤ s.dp) (hd1 : s.dp ≤ 1000000) (w : World) (ha : s.At p ng w) : Calls Tryz.prog 156 #[.pointer (some ⟨p, 0, none⟩), .int .u64 k] w (Shd p ng (rs k s) w) := by
  obtain ⟨g, hD, hg⟩ := ha
  obtain ⟨a1, a2, a3, a4⟩ := r0_law hs h2
  obtain ⟨b1, b2, b3, b4⟩ := rJ_law hs h2
  have hgood := rs_good hs h2
  have hv : val g s.n = val s.F s.n := val_congr hg
  have hvp : 0 < val s.F s.n := by
    have := val_low hs.dig hs.one hs.head
    have h10 : 0 < 10 ^ s.n := Nat.pow_pos (by omega)
    omega
  refine (right_walk p s.n k (r0 k s) (rJ k s) g s.dp ng s.tr hs.most h2 a1 (by omega) (by omega) hd0 hd1 (good_congr hg hs.dig) (by rw [hv]; exact hvp) (fun r hr => by rw [pv_congr hg]; exact a4 r hr) (by rw [pv_congr hg]; exact a3) b1 (by rw [rn_congr hg]; exact b3) (fun j h1 h2 => by rw [rn_congr hg]; exact b4 j h1 h2) w hD).mono ?_
  rintro e w' ⟨rfl, g', hD', hg', hB⟩
  rw [rdig_congr hg] at hD' hg'
  rw [lostR_congr hg] at hD'
  refine ⟨rfl, ⟨g', ?_, fun j hj => hg' j (Nat.lt_of_lt_of_le hj (cut_le _ _))⟩, hB⟩
  have h1' := hgood.one
  unfold rs at h1'
  simp only [] at h1'
  unfold trimDp at hD'
  rw [if_neg (by omega)] at hD'
  exact hD'
end Go.Proofs.YtlkbhmmelejmjaaGreatDoor.FltShift

/- The decimal of the slow road: Shift. -/
namespace Go.Proofs.YtlkbhmmelejmjaaGreatDoor.FltBoth
open Go.RowKit Go.Proofs.YtlkbhmmelejmjaaGreatDoorW.PrintWords Go.Proofs.YtlkbhmmelejmjaaGreatDoor.NumKnown Go.Proofs.YtlkbhmmelejmjaaGreatDoor.NumPure Go.Proofs.YtlkbhmmelejmjaaGreatDoor.FltDec Go.Proofs.YtlkbhmmelejmjaaGreatDoor.FltPure Go.Proofs.YtlkbhmmelejmjaaGreatDoor.FltLeft Go.Proofs.YtlkbhmmelejmjaaGreatDoor.FltRight Go.Proofs.YtlkbhmmelejmjaaGreatDoor.FltLaw Go.Proofs.YtlkbhmmelejmjaaGreatDoor.FltState Go.Proofs.YtlkbhmmelejmjaaGreatDoor.FltShift
set_option linter.unusedVariables false
set_option linter.unusedSimpArgs false

/-- The table of the shifts to the left, below block B. -/
def LTb (B : Nat) (w : World) : Prop := ∃ L o c, 11 < B ∧ L < B ∧ w.cell? ⟨11, 0, none⟩ = some (.slice (some ⟨L, o, none⟩) 61 c) ∧ ∀ k, k < 61 → w.cell? ⟨L, o + k * 2, none⟩ = some (.int .i64 (lcD k)) ∧ w.cell? ⟨L, o + k * 2 + 1, none⟩ = some (.string (lcT k))
theorem LTb.tab {B : Nat} {w : World} (h : LTb B w) : LTab w lcD lcT := by
  obtain ⟨L, o, c, h1, h2, h3, h4⟩ := h
  exact ⟨L, o, c, h3, h4⟩
theorem LTb.keep {B p : Nat} {w w' : World} (h : LTb B w) (hb : Below p w w') (hp : B ≤ p) : LTb B w' := by
  obtain ⟨L, o, c, h1, h2, h3, h4⟩ := h
  exact ⟨L, o, c, h1, h2, (hb.cell (p := ⟨11, 0, none⟩) (Nat.lt_of_lt_of_le h1 hp)).trans h3, fun k hk => ⟨(hb.cell (p := ⟨L, _, none⟩) (Nat.lt_of_lt_of_le h2 hp)).trans (h4 k hk).1, (hb.cell (p := ⟨L, _, none⟩) (Nat.lt_of_lt_of_le h2 hp)).trans (h4 k hk).2⟩⟩
theorem At_nd {s : St} {p : Nat} {ng : Bool} {w : World} (h : s.At p ng w) : w.cell? ⟨p, 800, none⟩ = some (.int .i64 (s.n : Int)) := by
  obtain ⟨g, h1, h2⟩ := h
  exact h1.nd
theorem At_dp {s : St} {p : Nat} {ng : Bool} {w : World} (h : s.At p ng w) : w.cell? ⟨p, 801, none⟩ = some (.int .i64 s.dp) := by
  obtain ⟨g, h1, h2⟩ := h
  exact h1.dp

set_option maxHeartbeats 4000000 in
set_option maxRecDepth 100000 in
theorem shiftL_walk (p k : Nat) (ng : Bool) (s : St) (hs : s.Good) (h1 : 1 ≤ k) (h2 : k ≤ 60) (hd0 : -1000000 ≤ s.dp) (hd1 : s.dp ≤ 1000000) (w : World) (ha : s.At p ng w) (ht : LTab w lcD lcT) : Calls Tryz.prog 150 #[.pointer (some ⟨p, 0, none⟩), .int .i64 (k : Int)] w (Shd p ng (ls k s) w) := by
  have C := Aside0.mk (ls_walk p k ng s hs h1 h2 hd0 hd1 w ha ht)
  have hnd := At_nd ha
  have hn := hs.one
  clear ha ht hs
  generalize s.n = n at hnd hn
  have gk : 0 < k := by omega
  go_enter Tryz.func150, Tryz.ntmps150
  go_wp2_with fail
  go_loopw [1] (fun v1 wr => v1 = .int .i64 (k : Int) ∧ wr = w) (fun _ _ => 0)
  case atStart => exact ⟨rfl, rfl⟩
  case round =>
    obtain ⟨rfl, rfl⟩ := hrel
    have f1 : IntKind.u64.wrap (k : Int) = (k : Int) := by rw [IntKind.wrap_u64]; omega
    have g60 : ¬ 60 < k := by omega
    go_wp2_with fail
    refine C.out.mono ?_
    rintro e w1 ⟨rfl, h⟩
    go_wp2_with fail
    go_end0
    exact ⟨rfl, h⟩

/-- The shift to the right by any number. -/
def rsI : Nat → Nat → St → St
  | 0, m, s => rs m s
  | f + 1, m, s => if 60 < m then rsI f (m - 60) (rs 60 s) else rs m s
theorem rs_dp {s : St} (hs : s.Good) {k : Nat} (h2 : k ≤ 60) : s.dp - 19 ≤ (rs k s).dp ∧ (rs k s).dp ≤ s.dp := by
  obtain ⟨a1, a2, a3, a4⟩ := r0_law hs h2
  show s.dp - 19 ≤ s.dp - ((r0 k s : Int) - 1) ∧ s.dp - ((r0 k s : Int) - 1) ≤ s.dp
  omega

set_option maxHeartbeats 4000000 in
set_option maxRecDepth 100000 in
theorem shiftR_walk (p n : Nat) (ng : Bool) (s : St) (hs : s.Good) (h1 : 1 ≤ n) (h2 : n ≤ 200000) (hd0 : -100000 ≤ s.dp) (hd1 : s.dp ≤ 100000) (w : World) (ha : s.At p ng w) : Calls Tryz.prog 150 #[.pointer (some ⟨p, 0, none⟩), .int .i64 (-(n : Int))] w (Shd p ng (rsI n n s) w) := by
  have hnd := At_nd ha
  have hn := hs.one
  have HA := Aside0.mk ha
  clear ha
  generalize hq : s.n = q at hnd hn
  clear hq
  have gk : 0 < n := by omega
  have hq0 : ((q : Int) == 0) = false := beq_eq_false_iff_ne.mpr (by omega)
  have hn0 : decide ((n : Int) < 0) = false := decide_eq_false (by omega)
  go_enter Tryz.func150, Tryz.ntmps150
  go_wp2_with fail
  go_loopw [1] (fun v1 wr => ∃ (m f : Nat) (t : St), 1 ≤ m ∧ m ≤ n ∧ m ≤ f ∧ v1 = .int .i64 (-(m : Int)) ∧ Aside0 (t.Good ∧ s.dp - (n - m) ≤ t.dp ∧ t.dp ≤ s.dp ∧ rsI f m t = rsI n n s ∧ t.At p ng wr ∧ Below p w wr)) (fun v1 _ => (-(intOf v1)).toNat)
  case atStart => exact ⟨n, n, s, h1, Nat.le_refl _, Nat.le_refl _, rfl, ⟨hs, by omega, by omega, rfl, HA.out, Below.refl _ _⟩⟩
  case round =>
    obtain ⟨m, f, t, hm1, hmn, hmf, rfl, HL⟩ := hrel
    by_cases g60 : 60 < m
    · have C := Aside0.mk (rs_walk p 60 ng t HL.out.1 (by omega) (by have := HL.out.2.1; omega) (by have := HL.out.2.2.1; omega) wr HL.out.2.2.2.2.1)
      have a1 : wrap64 (-(m : Int) + 60) = -((m - 60 : Nat) : Int) := by unfold wrap64; omega
      go_wp2_with fail
      refine C.out.mono ?_
      rintro e w1 ⟨rfl, hat, hb⟩
      have HAT := Aside0.mk hat
      have HB := Aside0.mk hb
      clear hat hb
      go_wp2_with fail
      go_roundw
      case rel =>
        obtain ⟨q1, q2, q3, q4, q5, q6⟩ := HL.out
        obtain ⟨f, rfl⟩ : ∃ f', f = f' + 1 := ⟨f - 1, by omega⟩
        have hr := rs_dp q1 (k := 60) (by omega)
        refine ⟨m - 60, f, rs 60 t, by omega, by omega, by omega, by go_num, ⟨rs_good q1 (by omega), by omega, by omega, ?_, HAT.out, q6.trans HB.out⟩⟩
        rw [← q4]
        conv => rhs; unfold rsI
        rw [if_pos g60]
      case measure => first | (simp [intOf]; done) | (simp [intOf]; omega)
    · have C := Aside0.mk (rs_walk p m ng t HL.out.1 (by omega) (by have := HL.out.2.1; omega) (by have := HL.out.2.2.1; omega) wr HL.out.2.2.2.2.1)
      have a1 : IntKind.u64.wrap (m : Int) = (m : Int) := by rw [IntKind.wrap_u64]; omega
      go_wp2_with fail
      refine C.out.mono ?_
      rintro e w1 ⟨rfl, hat, hb⟩
      have HAT := Aside0.mk hat
      have HB := Aside0.mk hb
      clear hat hb
      go_wp2_with fail
      go_end0
      obtain ⟨q1, q2, q3, q4, q5, q6⟩ := HL.out
      refine ⟨rfl, ?_, q6.trans HB.out⟩
      rw [← q4]
      cases f with
      | zero => exact HAT.out
      | succ f =>
        unfold rsI
        rw [if_neg g60]
        exact HAT.out
end Go.Proofs.YtlkbhmmelejmjaaGreatDoor.FltBoth
