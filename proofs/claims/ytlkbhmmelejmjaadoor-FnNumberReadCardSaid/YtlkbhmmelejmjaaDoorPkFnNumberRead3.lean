/- Parts of the proof of FnNumberRead, one behind the other: FltReadB, FltReadC, FltReadD, FltReadE, FltRead, FltReadIn, FltSet. Each part says ahead of itself what it proves. -/
import Derived.Test.YtlkbhmmelejmjaaDoorPkFnNumberRead2
import Derived.BigRegion
import Derived.StillTailTactics

/- readFloat, walked: what is behind its digits. -/
namespace Go.Proofs.YtlkbhmmelejmjaaDoor.FltReadB
open Go.RowKit Go.Proofs.YtlkbhmmelejmjaaDoorW.PrintWords Go.Proofs.YtlkbhmmelejmjaaDoor.NumKnown Go.Proofs.YtlkbhmmelejmjaaDoor.NumPure Go.Proofs.YtlkbhmmelejmjaaDoor.FltDec Go.Proofs.YtlkbhmmelejmjaaDoor.FltPure Go.Proofs.YtlkbhmmelejmjaaDoor.FltLeft Go.Proofs.YtlkbhmmelejmjaaDoor.FltRight Go.Proofs.YtlkbhmmelejmjaaDoor.FltLaw Go.Proofs.YtlkbhmmelejmjaaDoor.FltState Go.Proofs.YtlkbhmmelejmjaaDoor.FltTextP Go.Proofs.YtlkbhmmelejmjaaDoor.FltSetB Go.Proofs.YtlkbhmmelejmjaaDoor.FltReadA
set_option linter.unusedVariables false
set_option linter.unusedSimpArgs false

set_option maxHeartbeats 16000000 in
set_option maxRecDepth 100000 in
theorem read_exp (s : ByteArray) (hsz : s.size ≤ 2200000000) (L : List UInt8) (ng hx : Bool) (HU : Aside0 (∀ i (h : i < s.size), s[i].toNat ≠ 95)) (w : World) (b ec : Int) (hb : (b == 16) = hx) (HBX : Aside0 (hx = decide (b = 16))) (i : Nat) (st : RS) (M : List UInt8) (hi : i ≤ s.size) (HL : Aside0 (s.data.toList.drop i = M)) (hF : Aside0 (readF L = rexp b ec st M)) (nm dp : Int) (hr0 : 0 ≤ nm) (hr1 : nm ≤ 76) (hr2 : -8800000000 ≤ dp) (hr3 : dp ≤ 8800000000) (HQ : Aside0 (nm = rnm b st ∧ dp = rdp b st))
    (c c1 : UInt8) (r r1 : List UInt8) (hM : M = c :: r) (hR : r = c1 :: r1) (hlcE : low c = ec)
    (t : Array Value) (hz : t.size = 253) (t0 : t[0]? = some (.string s)) (t2 : t[2]? = some (.int .u64 st.man)) (t3 : t[3]? = some (.int .i64 0)) (t4 : t[4]? = some (.bool ng)) (t5 : t[5]? = some (.bool st.tr)) (t6 : t[6]? = some (.bool hx)) (t7 : t[7]? = some (.int .i64 (i : Int))) (t8 : t[8]? = some (.bool false)) (t9 : t[9]? = some (.bool false)) (t10 : t[10]? = some (.int .u64 b)) (t12 : t[12]? = some (.int .u8 ec)) (t16 : t[16]? = some (.int .i64 nm)) (t17 : t[17]? = some (.int .i64 dp)) :
    (after 17 (inner (after 1 (Tryd.f53.body.getD .skip)))).wp Tryd.prog (Exit.noGoto (bodyPost Tryd.prog Tryd.f53 (RdP s L ng w))) { tmps := t, defers := [] } w := by
  obtain ⟨u, rfl⟩ := frame253 t hz
  have e0 : u 0 = .string s := Option.some.inj t0
  have e2 : u 2 = .int .u64 st.man := Option.some.inj t2
  have e3 : u 3 = .int .i64 0 := Option.some.inj t3
  have e4 : u 4 = .bool ng := Option.some.inj t4
  have e5 : u 5 = .bool st.tr := Option.some.inj t5
  have e6 : u 6 = .bool hx := Option.some.inj t6
  have e7 : u 7 = .int .i64 (i : Int) := Option.some.inj t7
  have e8 : u 8 = .bool false := Option.some.inj t8
  have e9 : u 9 = .bool false := Option.some.inj t9
  have e10 : u 10 = .int .u64 b := Option.some.inj t10
  have e12 : u 12 = .int .u8 ec := Option.some.inj t12
  have e16 : u 16 = .int .i64 nm := Option.some.inj t16
  have e17 : u 17 = .int .i64 dp := Option.some.inj t17
  rw [e0, e2, e3, e4, e5, e6, e7, e8, e9, e10, e12, e16, e17]
  clear t0 e0 t2 e2 t3 e3 t4 e4 t5 e5 t6 e6 t7 e7 t8 e8 t9 e9 t10 e10 t12 e12 t16 e16 t17 e17 hz
  have hL : s.data.toList.length = s.size := (Lib.size_eq s).symm
  conv =>
    arg 2
    simp only [Tryd.f53, after, inner, Option.getD]
  have hlt : i < s.size := by
    have h := HL.out
    rw [hM] at h
    have := congrArg List.length h
    simp at this
    omega
  have hdc := drop_cons (l := s.data.toList) (i := i) (by omega)
  have hce : s.data.toList[i]'(by omega) = s[i] := rfl
  rw [HL.out, hM, hce] at hdc
  injection hdc with hd2 hd3
  have hcs : s[i] = c := hd2.symm
  have HM := Aside0.mk (And.intro hM hd3)
  clear hd2 hd3 hce hM
  obtain ⟨lc, hlc⟩ : ∃ lc, lc = low c := ⟨_, rfl⟩
  have C := Aside0.mk (low_walk c)
  rw [← hlc] at C
  have hec : lc = ec := hlc.trans hlcE
  subst hec
  have hF2 : readF L = rE b st (expo r) := by rw [hF.out, HM.out.1, rexp_cons, if_pos hlc.symm]
  replace hF2 := Aside0.mk hF2
  have hlt1 : i + 1 < s.size := by
    have h := HM.out.2
    rw [hR] at h
    have := congrArg List.length h
    simp at this
    omega
  have hdc := drop_cons (l := s.data.toList) (i := i + 1) (by omega)
  have hce : s.data.toList[i + 1]'(by omega) = s[i + 1] := rfl
  rw [← HM.out.2, hR, hce] at hdc
  injection hdc with hd2 hd3
  have hcs1 : s[i + 1] = c1 := hd2.symm
  have HR := Aside0.mk (And.intro hR hd3)
  have hlt1i : (i : Int) + 1 < (s.size : Int) := by omega
  clear hd2 hd3 hce hR
  replace hlc := Aside0.mk hlc
  go_upto_block 4 with (first | (go_at_call 50; refine (C.out _).mono ?_; rintro e w' ⟨rfl, rfl⟩))
  go_cut [7, 19] (fun v5 v8 we => ∃ (i2 : Nat) (gs : Int), v5 = .int .i64 i2 ∧ v8 = .int .i64 gs ∧ i2 ≤ s.size ∧ (gs = 1 ∨ gs = -1) ∧ Aside0 (expo r = eval gs (s.data.toList.drop i2)) ∧ w = we)
  case first =>
    by_cases h43 : c1.toNat = 43
    · have HE := Aside0.mk h43
      go_wp2_with fail
      go_meet
      case rel =>
        refine ⟨i + 1 + 1, 1, by go_num, rfl, by omega, .inl rfl, ⟨?_⟩, rfl⟩
        rw [HR.out.1, expo_cons, if_pos HE.out, ← HR.out.2]
    · have q43 : ((c1.toNat : Int) == 43) = false := beq_eq_false_iff_ne.mpr (by omega)
      by_cases h45 : c1.toNat = 45
      · have HE := Aside0.mk (And.intro h43 h45)
        go_wp2_with fail
        go_meet
        case rel =>
          refine ⟨i + 1 + 1, -1, by go_num, rfl, by omega, .inr rfl, ⟨?_⟩, rfl⟩
          rw [HR.out.1, expo_cons, if_neg HE.out.1, if_pos HE.out.2, ← HR.out.2]
      · have q45 : ((c1.toNat : Int) == 45) = false := beq_eq_false_iff_ne.mpr (by omega)
        have HE := Aside0.mk (And.intro h43 h45)
        go_wp2_with fail
        go_meet
        case rel =>
          refine ⟨i + 1, 1, by go_num, rfl, by omega, .inl rfl, ⟨?_⟩, rfl⟩
          rw [HR.out.1, expo_cons, if_neg HE.out.1, if_neg HE.out.2, ← HR.out.1, HM.out.2]
  case rest =>
    obtain ⟨i2, gs, rfl, rfl, hi2, hgs, HX, rfl⟩ := hcut
    refine ‹∀ (a : Act) (w1 : World), Code.wp _ _ _ a w1 → _› _ _ ?_
    exact read_num _ s hsz L ng hx HU w (by assumption) b st r HBX hF2 nm dp hr0 hr1 hr2 hr3 HQ i2 gs hi2 hgs HX _ rfl rfl rfl rfl rfl rfl rfl rfl rfl rfl rfl rfl rfl
end Go.Proofs.YtlkbhmmelejmjaaDoor.FltReadB

/- readFloat, walked: what is behind its digits. -/
namespace Go.Proofs.YtlkbhmmelejmjaaDoor.FltReadC
open Go.RowKit Go.Proofs.YtlkbhmmelejmjaaDoorW.PrintWords Go.Proofs.YtlkbhmmelejmjaaDoor.NumKnown Go.Proofs.YtlkbhmmelejmjaaDoor.NumPure Go.Proofs.YtlkbhmmelejmjaaDoor.FltDec Go.Proofs.YtlkbhmmelejmjaaDoor.FltPure Go.Proofs.YtlkbhmmelejmjaaDoor.FltLeft Go.Proofs.YtlkbhmmelejmjaaDoor.FltRight Go.Proofs.YtlkbhmmelejmjaaDoor.FltLaw Go.Proofs.YtlkbhmmelejmjaaDoor.FltState Go.Proofs.YtlkbhmmelejmjaaDoor.FltTextP Go.Proofs.YtlkbhmmelejmjaaDoor.FltSetB Go.Proofs.YtlkbhmmelejmjaaDoor.FltReadA Go.Proofs.YtlkbhmmelejmjaaDoor.FltReadB
set_option linter.unusedVariables false
set_option linter.unusedSimpArgs false

set_option maxHeartbeats 16000000 in
set_option maxRecDepth 100000 in
theorem read_bare (s : ByteArray) (hsz : s.size ≤ 2200000000) (L : List UInt8) (ng hx : Bool) (HU : Aside0 (∀ i (h : i < s.size), s[i].toNat ≠ 95)) (w : World) (b ec : Int) (hb : (b == 16) = hx) (HBX : Aside0 (hx = decide (b = 16))) (i : Nat) (st : RS) (M : List UInt8) (hi : i ≤ s.size) (HL : Aside0 (s.data.toList.drop i = M)) (hF : Aside0 (readF L = rexp b ec st M)) (nm dp : Int) (hr0 : 0 ≤ nm) (hr1 : nm ≤ 76) (hr2 : -8800000000 ≤ dp) (hr3 : dp ≤ 8800000000) (HQ : Aside0 (nm = rnm b st ∧ dp = rdp b st))
    (HNO : Aside0 (¬ ∃ c c1 r r1, M = c :: r ∧ r = c1 :: r1 ∧ low c = ec))
    (t : Array Value) (hz : t.size = 253) (t0 : t[0]? = some (.string s)) (t2 : t[2]? = some (.int .u64 st.man)) (t3 : t[3]? = some (.int .i64 0)) (t4 : t[4]? = some (.bool ng)) (t5 : t[5]? = some (.bool st.tr)) (t6 : t[6]? = some (.bool hx)) (t7 : t[7]? = some (.int .i64 (i : Int))) (t8 : t[8]? = some (.bool false)) (t9 : t[9]? = some (.bool false)) (t10 : t[10]? = some (.int .u64 b)) (t12 : t[12]? = some (.int .u8 ec)) (t16 : t[16]? = some (.int .i64 nm)) (t17 : t[17]? = some (.int .i64 dp)) :
    (after 17 (inner (after 1 (Tryd.f53.body.getD .skip)))).wp Tryd.prog (Exit.noGoto (bodyPost Tryd.prog Tryd.f53 (RdP s L ng w))) { tmps := t, defers := [] } w := by
  obtain ⟨u, rfl⟩ := frame253 t hz
  have e0 : u 0 = .string s := Option.some.inj t0
  have e2 : u 2 = .int .u64 st.man := Option.some.inj t2
  have e3 : u 3 = .int .i64 0 := Option.some.inj t3
  have e4 : u 4 = .bool ng := Option.some.inj t4
  have e5 : u 5 = .bool st.tr := Option.some.inj t5
  have e6 : u 6 = .bool hx := Option.some.inj t6
  have e7 : u 7 = .int .i64 (i : Int) := Option.some.inj t7
  have e8 : u 8 = .bool false := Option.some.inj t8
  have e9 : u 9 = .bool false := Option.some.inj t9
  have e10 : u 10 = .int .u64 b := Option.some.inj t10
  have e12 : u 12 = .int .u8 ec := Option.some.inj t12
  have e16 : u 16 = .int .i64 nm := Option.some.inj t16
  have e17 : u 17 = .int .i64 dp := Option.some.inj t17
  rw [e0, e2, e3, e4, e5, e6, e7, e8, e9, e10, e12, e16, e17]
  clear t0 e0 t2 e2 t3 e3 t4 e4 t5 e5 t6 e6 t7 e7 t8 e8 t9 e9 t10 e10 t12 e12 t16 e16 t17 e17 hz
  have hL : s.data.toList.length = s.size := (Lib.size_eq s).symm
  conv =>
    arg 2
    simp only [Tryd.f53, after, inner, Option.getD]
  have hM0 : M = [] ∨ ∃ c r, M = c :: r := by cases M with | nil => exact .inl rfl | cons a b => exact .inr ⟨a, b, rfl⟩
  rcases hM0 with hM | ⟨c, r, hM⟩
  · have hi' : i = s.size := by
      have h := HL.out
      rw [hM] at h
      have := congrArg List.length h
      simp at this
      omega
    subst hi'
    have HM := Aside0.mk hM
    cases hx with
    | true =>
      have hN : readF L = none := by rw [hF.out, HM.out]; show rbare b st [] = none; unfold rbare; rw [if_pos (by have := HBX.out; simpa using this.symm)]
      replace hN := Aside0.mk hN
      go_wp2_with fail
      refine bodyPost_ret (results_tmp7 rfl _ _ _) rfl ?_
      exact ⟨rfl, .inl ⟨_, _, _, _, _, _, hN.out, rfl⟩⟩
    | false =>
      have hN : readF L = some (rfin b st 0 []) := by rw [hF.out, HM.out]; show rbare b st [] = _; unfold rbare; rw [if_neg (by have := HBX.out; simpa using this.symm)]
      replace hN := Aside0.mk hN
      cases hmz : (st.man != 0) with
      | true =>
        have HZ := Aside0.mk hmz
        go_wp2_with fail
        refine bodyPost_ret (results_tmp7 rfl _ _ _) rfl ?_
        refine ⟨rfl, .inr ⟨_, s.size, hN.out, (HL.out.trans HM.out), Nat.le_refl _, ?_⟩⟩
        rw [rfin_exp1 HZ.out HQ.out, rfin_hx HBX.out]
        first | rfl | (rw [Int.add_zero]; rfl)
      | false =>
        have HZ := Aside0.mk hmz
        go_wp2_with fail
        refine bodyPost_ret (results_tmp7 rfl _ _ _) rfl ?_
        refine ⟨rfl, .inr ⟨_, s.size, hN.out, (HL.out.trans HM.out), Nat.le_refl _, ?_⟩⟩
        rw [rfin_exp0 HZ.out, rfin_hx HBX.out]
        rfl
  · have hlt : i < s.size := by
      have h := HL.out
      rw [hM] at h
      have := congrArg List.length h
      simp at this
      omega
    have hdc := drop_cons (l := s.data.toList) (i := i) (by omega)
    have hce : s.data.toList[i]'(by omega) = s[i] := rfl
    rw [HL.out, hM, hce] at hdc
    injection hdc with hd2 hd3
    have hcs : s[i] = c := hd2.symm
    have HM := Aside0.mk (And.intro hM hd3)
    clear hd2 hd3 hce hM
    obtain ⟨lc, hlc⟩ : ∃ lc, lc = low c := ⟨_, rfl⟩
    have C := Aside0.mk (low_walk c)
    rw [← hlc] at C
    by_cases hec : lc = ec
    · subst hec
      have hF2 : readF L = rE b st (expo r) := by rw [hF.out, HM.out.1, rexp_cons, if_pos hlc.symm]
      replace hF2 := Aside0.mk hF2
      have hR0 : r = [] ∨ ∃ c1 r1, r = c1 :: r1 := by cases r with | nil => exact .inl rfl | cons a b => exact .inr ⟨a, b, rfl⟩
      rcases hR0 with hR | ⟨c1, r1, hR⟩
      · have hi' : i + 1 = s.size := by
          have h := HM.out.2
          rw [hR] at h
          have := congrArg List.length h
          simp at this
          omega
        have hge : ((s.size : Int)) ≤ (i : Int) + 1 := by omega
        have hN : readF L = none := by rw [hF2.out, hR]; rfl
        replace hN := Aside0.mk hN
        have HI := Aside0.mk hi'
        replace hlc := Aside0.mk hlc
        clear hR hi'
        go_wp2_with (first | (go_at_call 50; refine (C.out _).mono ?_; rintro e w' ⟨rfl, rfl⟩))
        refine bodyPost_ret (results_tmp7 rfl _ _ _) rfl ?_
        exact ⟨rfl, .inl ⟨_, _, _, _, _, _, hN.out, rfl⟩⟩
      · exact absurd ⟨c, c1, r, r1, HM.out.1, hR, hlc.symm⟩ HNO.out
    · have qec : (lc == ec) = false := beq_eq_false_iff_ne.mpr hec
      have HE := Aside0.mk (And.intro hlc hec)
      cases hx with
      | true =>
        have hN : readF L = none := by
          rw [hF.out, HM.out.1, rexp_cons, if_neg (by rw [← HE.out.1]; exact HE.out.2)]
          unfold rbare; rw [if_pos (by have := HBX.out; simpa using this.symm)]
        replace hN := Aside0.mk hN
        clear hlc hec
        go_wp2_with (first | (go_at_call 50; refine (C.out _).mono ?_; rintro e w' ⟨rfl, rfl⟩))
        refine bodyPost_ret (results_tmp7 rfl _ _ _) rfl ?_
        exact ⟨rfl, .inl ⟨_, _, _, _, _, _, hN.out, rfl⟩⟩
      | false =>
        have hN : readF L = some (rfin b st 0 (c :: r)) := by
          rw [hF.out, HM.out.1, rexp_cons, if_neg (by rw [← HE.out.1]; exact HE.out.2)]
          unfold rbare; rw [if_neg (by have := HBX.out; simpa using this.symm)]
        replace hN := Aside0.mk hN
        clear hlc hec
        cases hmz : (st.man != 0) with
        | true =>
          have HZ := Aside0.mk hmz
          go_wp2_with (first | (go_at_call 50; refine (C.out _).mono ?_; rintro e w' ⟨rfl, rfl⟩))
          refine bodyPost_ret (results_tmp7 rfl _ _ _) rfl ?_
          refine ⟨rfl, .inr ⟨_, i, hN.out, (HL.out.trans HM.out.1), hi, ?_⟩⟩
          rw [rfin_exp1 HZ.out HQ.out, rfin_hx HBX.out]
          first | rfl | (rw [Int.add_zero]; rfl)
        | false =>
          have HZ := Aside0.mk hmz
          go_wp2_with (first | (go_at_call 50; refine (C.out _).mono ?_; rintro e w' ⟨rfl, rfl⟩))
          refine bodyPost_ret (results_tmp7 rfl _ _ _) rfl ?_
          refine ⟨rfl, .inr ⟨_, i, hN.out, (HL.out.trans HM.out.1), hi, ?_⟩⟩
          rw [rfin_exp0 HZ.out, rfin_hx HBX.out]
          rfl

set_option maxHeartbeats 16000000 in
set_option maxRecDepth 100000 in
theorem read_rest (s : ByteArray) (hsz : s.size ≤ 2200000000) (L : List UInt8) (ng hx : Bool) (HU : Aside0 (∀ i (h : i < s.size), s[i].toNat ≠ 95)) (w : World) (b m ec : Int) (hb : (b == 16) = hx) (i : Nat) (st : RS) (M : List UInt8) (hi : i ≤ s.size) (HL : Aside0 (s.data.toList.drop i = M ∧ readF L = if st.dig then rexp b ec st M else none))
    (hn0 : 0 ≤ st.nd) (hn1 : st.nd ≤ 2200000000) (hm0 : 0 ≤ st.nm) (hm1 : st.nm ≤ 19) (hd0 : -2200000000 ≤ st.dp) (hd1 : st.dp ≤ 2200000000)
    (t : Array Value) (hz : t.size = 253) (t0 : t[0]? = some (.string s)) (t2 : t[2]? = some (.int .u64 st.man)) (t3 : t[3]? = some (.int .i64 0)) (t4 : t[4]? = some (.bool ng)) (t5 : t[5]? = some (.bool st.tr)) (t6 : t[6]? = some (.bool hx)) (t7 : t[7]? = some (.int .i64 (i : Int))) (t8 : t[8]? = some (.bool false)) (t9 : t[9]? = some (.bool false)) (t10 : t[10]? = some (.int .u64 b)) (t11 : t[11]? = some (.int .i64 m)) (t12 : t[12]? = some (.int .u8 ec)) (t13 : t[13]? = some (.bool st.dot)) (t14 : t[14]? = some (.bool st.dig)) (t15 : t[15]? = some (.int .i64 st.nd)) (t16 : t[16]? = some (.int .i64 st.nm)) (t17 : t[17]? = some (.int .i64 st.dp)) :
    (after 14 (inner (after 1 (Tryd.f53.body.getD .skip)))).wp Tryd.prog (Exit.noGoto (bodyPost Tryd.prog Tryd.f53 (RdP s L ng w))) { tmps := t, defers := [] } w := by
  obtain ⟨u, rfl⟩ := frame253 t hz
  have e0 : u 0 = .string s := Option.some.inj t0
  have e2 : u 2 = .int .u64 st.man := Option.some.inj t2
  have e3 : u 3 = .int .i64 0 := Option.some.inj t3
  have e4 : u 4 = .bool ng := Option.some.inj t4
  have e5 : u 5 = .bool st.tr := Option.some.inj t5
  have e6 : u 6 = .bool hx := Option.some.inj t6
  have e7 : u 7 = .int .i64 (i : Int) := Option.some.inj t7
  have e8 : u 8 = .bool false := Option.some.inj t8
  have e9 : u 9 = .bool false := Option.some.inj t9
  have e10 : u 10 = .int .u64 b := Option.some.inj t10
  have e11 : u 11 = .int .i64 m := Option.some.inj t11
  have e12 : u 12 = .int .u8 ec := Option.some.inj t12
  have e13 : u 13 = .bool st.dot := Option.some.inj t13
  have e14 : u 14 = .bool st.dig := Option.some.inj t14
  have e15 : u 15 = .int .i64 st.nd := Option.some.inj t15
  have e16 : u 16 = .int .i64 st.nm := Option.some.inj t16
  have e17 : u 17 = .int .i64 st.dp := Option.some.inj t17
  rw [e0, e2, e3, e4, e5, e6, e7, e8, e9, e10, e11, e12, e13, e14, e15, e16, e17]
  clear t0 e0 t2 e2 t3 e3 t4 e4 t5 e5 t6 e6 t7 e7 t8 e8 t9 e9 t10 e10 t11 e11 t12 e12 t13 e13 t14 e14 t15 e15 t16 e16 t17 e17 hz
  have hL : s.data.toList.length = s.size := (Lib.size_eq s).symm
  have hbx : hx = decide (b = 16) := by rw [← hb]; by_cases h : b = 16 <;> simp [h]
  have HBX := Aside0.mk hbx
  clear hbx
  conv =>
    arg 2
    simp only [Tryd.f53, after, inner, Option.getD]
  cases hdg : st.dig with
  | false =>
    have hN : readF L = none := by rw [HL.out.2, hdg]; rfl
    replace hN := Aside0.mk hN
    have HG := Aside0.mk hdg
    go_wp2_with fail
    refine bodyPost_ret (results_tmp7 rfl _ _ _) rfl ?_
    exact ⟨rfl, .inl ⟨_, _, _, _, _, _, hN.out, rfl⟩⟩
  | true =>
    have hF : readF L = rexp b ec st M := by rw [HL.out.2, hdg]; rfl
    replace hF := Aside0.mk hF
    have HD := Aside0.mk hdg
    go_upto_if 142 with (fail)
    go_cut [13, 17] (fun v13 v17 wd => v13 = .bool st.dot ∧ v17 = .int .i64 (if st.dot then st.dp else st.nd) ∧ w = wd)
    case first =>
      cases hdot : st.dot with
      | true =>
        have HO := Aside0.mk hdot
        go_wp2_with fail
        go_meet
        case rel => exact ⟨by rw [HO.out], by rw [HO.out]; rfl, rfl⟩
      | false =>
        have HO := Aside0.mk hdot
        go_wp2_with fail
        go_meet
        case rel => exact ⟨by rw [HO.out], by rw [HO.out]; rfl, rfl⟩
    case rest =>
      obtain ⟨rfl, rfl, rfl⟩ := hcut
      obtain ⟨dq, hdq⟩ : ∃ dq, dq = (if st.dot then st.dp else st.nd) := ⟨_, rfl⟩
      have hdq0 : -2200000000 ≤ dq ∧ dq ≤ 2200000000 := by rw [hdq]; split <;> omega
      rw [← hdq]
      obtain ⟨hdq1, hdq2⟩ := hdq0
      have HDQ := Aside0.mk hdq
      clear hdq hd0 hd1 hn0 hn1
      go_upto_if 145 with (fail)
      go_cut [16, 17] (fun v16 v17 wd => v16 = .int .i64 (rnm b st) ∧ v17 = .int .i64 (rdp b st) ∧ w = wd)
      case first =>
        cases hx with
        | true =>
          have e : b = 16 := by have := HBX.out; simpa using this.symm
          have HB := Aside0.mk e
          clear e
          go_wp2_with fail
          go_meet
          case rel => exact ⟨by unfold rnm; rw [if_pos HB.out], by unfold rdp; rw [if_pos HB.out, ← HDQ.out], rfl⟩
        | false =>
          have e : ¬ b = 16 := by have := HBX.out; simpa using this.symm
          have HB := Aside0.mk e
          clear e
          go_wp2_with fail
          go_meet
          case rel => exact ⟨by unfold rnm; rw [if_neg HB.out], by unfold rdp; rw [if_neg HB.out, ← HDQ.out], rfl⟩
      case rest =>
        obtain ⟨rfl, rfl, rfl⟩ := hcut
        have hr : 0 ≤ rnm b st ∧ rnm b st ≤ 76 ∧ -8800000000 ≤ rdp b st ∧ rdp b st ≤ 8800000000 := by
          unfold rnm rdp
          rw [← HDQ.out]
          refine ⟨?_, ?_, ?_, ?_⟩ <;> split <;> omega
        obtain ⟨nm, hnm⟩ : ∃ nm, nm = rnm b st := ⟨_, rfl⟩
        obtain ⟨dp, hdp⟩ : ∃ dp, dp = rdp b st := ⟨_, rfl⟩
        rw [← hnm, ← hdp] at hr ⊢
        obtain ⟨hr0, hr1, hr2, hr3⟩ := hr
        have HQ := Aside0.mk (And.intro hnm hdp)
        clear hnm hdp hm0 hm1 hdq1 hdq2
        by_cases h : ∃ c c1 r r1, M = c :: r ∧ r = c1 :: r1 ∧ low c = ec
        · obtain ⟨c, c1, r, r1, h1, h2, h3⟩ := h
          refine ‹∀ (a : Act) (w1 : World), Code.wp _ _ _ a w1 → _› _ _ ?_
          exact read_exp s hsz L ng hx HU w b ec hb HBX i st M hi ⟨HL.out.1⟩ hF nm dp hr0 hr1 hr2 hr3 HQ c c1 r r1 h1 h2 h3 _ rfl rfl rfl rfl rfl rfl rfl rfl rfl rfl rfl rfl rfl rfl
        · refine ‹∀ (a : Act) (w1 : World), Code.wp _ _ _ a w1 → _› _ _ ?_
          exact read_bare s hsz L ng hx HU w b ec hb HBX i st M hi ⟨HL.out.1⟩ hF nm dp hr0 hr1 hr2 hr3 HQ ⟨h⟩ _ rfl rfl rfl rfl rfl rfl rfl rfl rfl rfl rfl rfl rfl rfl
end Go.Proofs.YtlkbhmmelejmjaaDoor.FltReadC

/- readFloat, walked: what is behind its digits. -/
namespace Go.Proofs.YtlkbhmmelejmjaaDoor.FltReadD
open Go.RowKit Go.Proofs.YtlkbhmmelejmjaaDoorW.PrintWords Go.Proofs.YtlkbhmmelejmjaaDoor.NumKnown Go.Proofs.YtlkbhmmelejmjaaDoor.NumPure Go.Proofs.YtlkbhmmelejmjaaDoor.FltDec Go.Proofs.YtlkbhmmelejmjaaDoor.FltPure Go.Proofs.YtlkbhmmelejmjaaDoor.FltLeft Go.Proofs.YtlkbhmmelejmjaaDoor.FltRight Go.Proofs.YtlkbhmmelejmjaaDoor.FltLaw Go.Proofs.YtlkbhmmelejmjaaDoor.FltState Go.Proofs.YtlkbhmmelejmjaaDoor.FltTextP Go.Proofs.YtlkbhmmelejmjaaDoor.FltSetB Go.Proofs.YtlkbhmmelejmjaaDoor.FltReadA Go.Proofs.YtlkbhmmelejmjaaDoor.FltReadB Go.Proofs.YtlkbhmmelejmjaaDoor.FltReadC
set_option linter.unusedVariables false
set_option linter.unusedSimpArgs false

set_option maxHeartbeats 16000000 in
set_option maxRecDepth 100000 in
theorem read_loop (s : ByteArray) (hsz : s.size ≤ 2200000000) (L : List UInt8) (ng hx : Bool) (HU : Aside0 (∀ i (h : i < s.size), s[i].toNat ≠ 95)) (w : World) (b m ec : Int) (hb : (b == 16) = hx) (hm0 : 0 ≤ m) (hm1 : m ≤ 19) (i1 : Nat) (hi1 : i1 ≤ s.size) (L1 : List UInt8) (HL1 : Aside0 (s.data.toList.drop i1 = L1 ∧ readF L = rmain b m ec L1))
    (t : Array Value) (hz : t.size = 253) (t0 : t[0]? = some (.string s)) (t2 : t[2]? = some (.int .u64 0)) (t3 : t[3]? = some (.int .i64 0)) (t4 : t[4]? = some (.bool ng)) (t5 : t[5]? = some (.bool false)) (t6 : t[6]? = some (.bool hx)) (t7 : t[7]? = some (.int .i64 (i1 : Int))) (t8 : t[8]? = some (.bool false)) (t9 : t[9]? = some (.bool false)) (t10 : t[10]? = some (.int .u64 b)) (t11 : t[11]? = some (.int .i64 m)) (t12 : t[12]? = some (.int .u8 ec)) (t13 : t[13]? = some (.bool false)) (t14 : t[14]? = some (.bool false)) (t15 : t[15]? = some (.int .i64 0)) (t16 : t[16]? = some (.int .i64 0)) (t17 : t[17]? = some (.int .i64 0)) :
    (after 12 (inner (after 1 (Tryd.f53.body.getD .skip)))).wp Tryd.prog (Exit.noGoto (bodyPost Tryd.prog Tryd.f53 (RdP s L ng w))) { tmps := t, defers := [] } w := by
  obtain ⟨u, rfl⟩ := frame253 t hz
  have e0 : u 0 = .string s := Option.some.inj t0
  have e2 : u 2 = .int .u64 0 := Option.some.inj t2
  have e3 : u 3 = .int .i64 0 := Option.some.inj t3
  have e4 : u 4 = .bool ng := Option.some.inj t4
  have e5 : u 5 = .bool false := Option.some.inj t5
  have e6 : u 6 = .bool hx := Option.some.inj t6
  have e7 : u 7 = .int .i64 (i1 : Int) := Option.some.inj t7
  have e8 : u 8 = .bool false := Option.some.inj t8
  have e9 : u 9 = .bool false := Option.some.inj t9
  have e10 : u 10 = .int .u64 b := Option.some.inj t10
  have e11 : u 11 = .int .i64 m := Option.some.inj t11
  have e12 : u 12 = .int .u8 ec := Option.some.inj t12
  have e13 : u 13 = .bool false := Option.some.inj t13
  have e14 : u 14 = .bool false := Option.some.inj t14
  have e15 : u 15 = .int .i64 0 := Option.some.inj t15
  have e16 : u 16 = .int .i64 0 := Option.some.inj t16
  have e17 : u 17 = .int .i64 0 := Option.some.inj t17
  rw [e0, e2, e3, e4, e5, e6, e7, e8, e9, e10, e11, e12, e13, e14, e15, e16, e17]
  clear t0 e0 t2 e2 t3 e3 t4 e4 t5 e5 t6 e6 t7 e7 t8 e8 t9 e9 t10 e10 t11 e11 t12 e12 t13 e13 t14 e14 t15 e15 t16 e16 t17 e17 hz
  dsimp only
  have hL : s.data.toList.length = s.size := (Lib.size_eq s).symm
  have hbx : hx = decide (b = 16) := by rw [← hb]; by_cases h : b = 16 <;> simp [h]
  have HBX := Aside0.mk hbx
  clear hbx
  conv =>
    arg 2
    simp only [Tryd.f53, after, inner, Option.getD]
  go_wp2_with fail
  go_step3
  go_upto_block 1 with (fail)
  go_cut [2, 5, 7, 9, 13, 14, 15, 16, 17] from 57 to 138 (fun v2 v5 v7 v9 v13 v14 v15 v16 v17 wd => ∃ (i : Nat) (st : RS) (M : List UInt8), v2 = .int .u64 st.man ∧ v5 = .bool st.tr ∧ v7 = .int .i64 i ∧ v9 = .bool false ∧ v13 = .bool st.dot ∧ v14 = .bool st.dig ∧ v15 = .int .i64 st.nd ∧ v16 = .int .i64 st.nm ∧ v17 = .int .i64 st.dp ∧ i ≤ s.size ∧ (0 ≤ st.nd ∧ st.nd ≤ i ∧ 0 ≤ st.nm ∧ st.nm ≤ m ∧ -(i : Int) ≤ st.dp ∧ st.dp ≤ i) ∧ Aside0 (s.data.toList.drop i = M ∧ rscan b m L1 rs0 = (st, M)) ∧ w = wd)
  case first =>
    go_wp2_with fail
    go_loopg [2, 5, 7, 9, 13, 14, 15, 16, 17] L1.length (fun kq v2 v5 v7 v9 v13 v14 v15 v16 v17 wx => ∃ (i : Nat) (st : RS) (M : List UInt8), v2 = .int .u64 st.man ∧ v5 = .bool st.tr ∧ v7 = .int .i64 i ∧ v9 = .bool false ∧ v13 = .bool st.dot ∧ v14 = .bool st.dig ∧ v15 = .int .i64 st.nd ∧ v16 = .int .i64 st.nm ∧ v17 = .int .i64 st.dp ∧ i + kq = s.size ∧ (0 ≤ st.nd ∧ st.nd ≤ i ∧ 0 ≤ st.nm ∧ st.nm ≤ m ∧ -(i : Int) ≤ st.dp ∧ st.dp ≤ i) ∧ Aside0 (s.data.toList.drop i = M ∧ M.length = kq ∧ rscan b m M st = rscan b m L1 rs0) ∧ w = wx)
    case atStart =>
      have hl : L1.length = s.size - i1 := by rw [← HL1.out.1, List.length_drop, hL]
      exact ⟨i1, rs0, L1, rfl, rfl, rfl, rfl, rfl, rfl, rfl, rfl, rfl, by omega, ⟨Int.le_refl _, by show (0 : Int) ≤ i1; omega, Int.le_refl _, hm0, by show -(i1 : Int) ≤ 0; omega, by show (0 : Int) ≤ i1; omega⟩, ⟨HL1.out.1, rfl, rfl⟩, rfl⟩
    case round =>
      obtain ⟨i, st, M, rfl, rfl, rfl, rfl, rfl, rfl, rfl, rfl, rfl, hik, ⟨b0, b1, b2, b3, b4, b5⟩, HL, rfl⟩ := hrel
      cases gk with
      | zero =>
        obtain rfl : i = s.size := by omega
        go_wp2_with fail
        go_meet
        case rel =>
          refine ⟨s.size, st, M, rfl, rfl, rfl, rfl, rfl, rfl, rfl, rfl, rfl, by omega, ⟨by omega, by omega, by omega, by omega, by omega, by omega⟩, ⟨by rw [HL.out.1], ?_⟩, rfl⟩
          have hM : M = [] := List.eq_nil_of_length_eq_zero HL.out.2.1
          rw [← HL.out.2.2, hM]; rfl
      | succ k1 =>
        have hlt : i < s.size := by omega
        obtain ⟨c, r, hM⟩ : ∃ c r, M = c :: r := by
          cases M with
          | nil => exact absurd HL.out.2.1 (by simp)
          | cons a b => exact ⟨a, b, rfl⟩
        have hd := drop_cons (l := s.data.toList) (i := i) (by omega)
        have hce : s.data.toList[i]'(by omega) = s[i] := rfl
        rw [HL.out.1, hM, hce] at hd
        injection hd with hd1 hd2
        have hcs : s[i] = c := hd1.symm
        have h95 : ((c.toNat : Int) == 95) = false := beq_eq_false_iff_ne.mpr (by have := HU.out i hlt; rw [hcs] at this; omega)
        have HM := Aside0.mk (And.intro hM hd2)
        clear hd1 hd2 hce hM
        by_cases h46 : c.toNat = 46
        · have HE := Aside0.mk h46
          cases hdot : st.dot with
          | true =>
            have HO := Aside0.mk hdot
            go_wp2_with fail
            go_meet
            case rel =>
              refine ⟨i, st, c :: r, rfl, rfl, rfl, rfl, by rw [HO.out], rfl, rfl, rfl, rfl, by omega, ⟨by omega, by omega, by omega, by omega, by omega, by omega⟩, ⟨by rw [HL.out.1, HM.out.1], ?_⟩, rfl⟩
              rw [← HL.out.2.2, HM.out.1, rscan_cons, if_pos HE.out, if_pos HO.out]
          | false =>
            have HO := Aside0.mk hdot
            go_wp2_with fail
            go_roundg k1
            case rel =>
              have hlen : r.length = k1 := by have := HL.out.2.1; rw [HM.out.1] at this; simpa using this
              have hsc : rscan b m r ⟨st.man, st.nd, st.nm, st.nd, st.tr, true, st.dig⟩ = rscan b m L1 rs0 := by
                rw [← HL.out.2.2, HM.out.1, rscan_cons, if_pos HE.out, if_neg (by rw [HO.out]; decide)]
              exact ⟨i + 1, ⟨st.man, st.nd, st.nm, st.nd, st.tr, true, st.dig⟩, r, by first | rfl | go_num, rfl, by go_num, rfl, rfl, rfl, by first | rfl | go_num, by first | rfl | go_num, by first | rfl | go_num, by omega, ⟨by dsimp only; omega, by dsimp only; omega, by dsimp only; omega, by dsimp only; omega, by dsimp only; omega, by dsimp only; omega⟩, ⟨HM.out.2.symm, hlen, hsc⟩, rfl⟩
            case measure => exact Nat.lt_succ_self _
        · have q46 : ((c.toNat : Int) == 46) = false := beq_eq_false_iff_ne.mpr (by omega)
          by_cases hdg : 48 ≤ c.toNat ∧ c.toNat ≤ 57
          · have hdig : isD c = true := decide_eq_true hdg
            have HE := Aside0.mk (And.intro h46 hdig)
            obtain ⟨d48, d57⟩ := hdg
            clear hdig
            by_cases hz : c.toNat = 48 ∧ st.nd = 0
            · have HZ := Aside0.mk hz
              obtain ⟨z1, z2⟩ := hz
              have z3 : (st.nd == 0) = true := by rw [z2]; rfl
              clear z2
              go_wp2_with fail
              go_roundg k1
              case rel =>
                have hlen : r.length = k1 := by have := HL.out.2.1; rw [HM.out.1] at this; simpa using this
                have hsc : rscan b m r ⟨st.man, st.nd, st.nm, st.dp - 1, st.tr, st.dot, true⟩ = rscan b m L1 rs0 := by
                  rw [← HL.out.2.2, HM.out.1, rscan_cons, if_neg HE.out.1, if_pos HE.out.2, show rdig1 b m c st = _ from by unfold rdig1; rw [if_pos HZ.out]]
                exact ⟨i + 1, ⟨st.man, st.nd, st.nm, st.dp - 1, st.tr, st.dot, true⟩, r, by first | rfl | go_num, rfl, by go_num, rfl, rfl, rfl, by first | rfl | go_num, by first | rfl | go_num, by first | rfl | go_num, by omega, ⟨by dsimp only; omega, by dsimp only; omega, by dsimp only; omega, by dsimp only; omega, by dsimp only; omega, by dsimp only; omega⟩, ⟨HM.out.2.symm, hlen, hsc⟩, rfl⟩
              case measure => exact Nat.lt_succ_self _
            · by_cases hk : st.nm < m
              · have HZ := Aside0.mk (And.intro hz hk)
                by_cases z1 : c.toNat = 48
                · have z3 : (st.nd == 0) = false := beq_eq_false_iff_ne.mpr (fun h => hz ⟨z1, h⟩)
                  have Z1 := Aside0.mk z1
                  clear hz
                  go_wp2_with fail
                  go_roundg k1
                  case rel =>
                    have hlen : r.length = k1 := by have := HL.out.2.1; rw [HM.out.1] at this; simpa using this
                    have hsc : rscan b m r ⟨IntKind.u64.wrap (IntKind.u64.wrap (st.man * b) + ((c.toNat : Int) - 48)), st.nd + 1, st.nm + 1, st.dp, st.tr, st.dot, true⟩ = rscan b m L1 rs0 := by
                      rw [← HL.out.2.2, HM.out.1, rscan_cons, if_neg HE.out.1, if_pos HE.out.2, show rdig1 b m c st = _ from by unfold rdig1; rw [if_neg HZ.out.1, if_pos HZ.out.2]]
                    have zz : (c.toNat : Int) - 48 = 0 := by have := Z1.out; omega
                    exact ⟨i + 1, ⟨IntKind.u64.wrap (IntKind.u64.wrap (st.man * b) + ((c.toNat : Int) - 48)), st.nd + 1, st.nm + 1, st.dp, st.tr, st.dot, true⟩, r, by first | rfl | (rw [zz]; first | rfl | simp) | go_num, rfl, by go_num, rfl, rfl, rfl, by first | rfl | go_num, by first | rfl | go_num, by first | rfl | go_num, by omega, ⟨by dsimp only; omega, by dsimp only; omega, by dsimp only; omega, by dsimp only; omega, by dsimp only; omega, by dsimp only; omega⟩, ⟨HM.out.2.symm, hlen, hsc⟩, rfl⟩
                  case measure => exact Nat.lt_succ_self _
                · have q48 : ((c.toNat : Int) == 48) = false := beq_eq_false_iff_ne.mpr (by omega)
                  clear hz
                  go_wp2_with fail
                  go_roundg k1
                  case rel =>
                    have hlen : r.length = k1 := by have := HL.out.2.1; rw [HM.out.1] at this; simpa using this
                    have hsc : rscan b m r ⟨IntKind.u64.wrap (IntKind.u64.wrap (st.man * b) + ((c.toNat : Int) - 48)), st.nd + 1, st.nm + 1, st.dp, st.tr, st.dot, true⟩ = rscan b m L1 rs0 := by
                      rw [← HL.out.2.2, HM.out.1, rscan_cons, if_neg HE.out.1, if_pos HE.out.2, show rdig1 b m c st = _ from by unfold rdig1; rw [if_neg HZ.out.1, if_pos HZ.out.2]]
                    exact ⟨i + 1, ⟨IntKind.u64.wrap (IntKind.u64.wrap (st.man * b) + ((c.toNat : Int) - 48)), st.nd + 1, st.nm + 1, st.dp, st.tr, st.dot, true⟩, r, by first | rfl | go_num, rfl, by go_num, rfl, rfl, rfl, by first | rfl | go_num, by first | rfl | go_num, by first | rfl | go_num, by omega, ⟨by dsimp only; omega, by dsimp only; omega, by dsimp only; omega, by dsimp only; omega, by dsimp only; omega, by dsimp only; omega⟩, ⟨HM.out.2.symm, hlen, hsc⟩, rfl⟩
                  case measure => exact Nat.lt_succ_self _
              · by_cases z1 : c.toNat = 48
                · have z3 : (st.nd == 0) = false := beq_eq_false_iff_ne.mpr (fun h => hz ⟨z1, h⟩)
                  have HZ := Aside0.mk (And.intro hz (And.intro hk z1))
                  clear hz
                  go_wp2_with fail
                  go_roundg k1
                  case rel =>
                    have hlen : r.length = k1 := by have := HL.out.2.1; rw [HM.out.1] at this; simpa using this
                    have hsc : rscan b m r ⟨st.man, st.nd + 1, st.nm, st.dp, st.tr, st.dot, true⟩ = rscan b m L1 rs0 := by
                      rw [← HL.out.2.2, HM.out.1, rscan_cons, if_neg HE.out.1, if_pos HE.out.2, show rdig1 b m c st = _ from by unfold rdig1; rw [if_neg HZ.out.1, if_neg (by have := HZ.out.2.1; omega), if_pos HZ.out.2.2]]
                    exact ⟨i + 1, ⟨st.man, st.nd + 1, st.nm, st.dp, st.tr, st.dot, true⟩, r, by first | rfl | go_num, rfl, by go_num, rfl, rfl, rfl, by first | rfl | go_num, by first | rfl | go_num, by first | rfl | go_num, by omega, ⟨by dsimp only; omega, by dsimp only; omega, by dsimp only; omega, by dsimp only; omega, by dsimp only; omega, by dsimp only; omega⟩, ⟨HM.out.2.symm, hlen, hsc⟩, rfl⟩
                  case measure => exact Nat.lt_succ_self _
                · have q48 : ((c.toNat : Int) == 48) = false := beq_eq_false_iff_ne.mpr (by omega)
                  have HZ := Aside0.mk (And.intro hz (And.intro hk z1))
                  clear hz
                  go_wp2_with fail
                  go_roundg k1
                  case rel =>
                    have hlen : r.length = k1 := by have := HL.out.2.1; rw [HM.out.1] at this; simpa using this
                    have hsc : rscan b m r ⟨st.man, st.nd + 1, st.nm, st.dp, true, st.dot, true⟩ = rscan b m L1 rs0 := by
                      rw [← HL.out.2.2, HM.out.1, rscan_cons, if_neg HE.out.1, if_pos HE.out.2, show rdig1 b m c st = _ from by unfold rdig1; rw [if_neg HZ.out.1, if_neg (by have := HZ.out.2.1; omega), if_neg HZ.out.2.2]]
                    exact ⟨i + 1, ⟨st.man, st.nd + 1, st.nm, st.dp, true, st.dot, true⟩, r, by first | rfl | go_num, rfl, by go_num, rfl, rfl, rfl, by first | rfl | go_num, by first | rfl | go_num, by first | rfl | go_num, by omega, ⟨by dsimp only; omega, by dsimp only; omega, by dsimp only; omega, by dsimp only; omega, by dsimp only; omega, by dsimp only; omega⟩, ⟨HM.out.2.symm, hlen, hsc⟩, rfl⟩
                  case measure => exact Nat.lt_succ_self _
          · have hdig : isD c = false := decide_eq_false hdg
            have HE := Aside0.mk (And.intro h46 hdig)
            have hsp : c.toNat < 48 ∨ 57 < c.toNat := by omega
            clear hdg hdig
            obtain ⟨lc, hlc⟩ : ∃ lc, lc = low c := ⟨_, rfl⟩
            have C := Aside0.mk (low_walk c)
            rw [← hlc] at C
            have hv0 : 0 ≤ lc := by rw [hlc]; exact bits_lo_u8 .or (c.toNat : Int) 32
            have hv1 : lc ≤ 255 := by have := bits_hi_u8 .or (c.toNat : Int) 32; rw [hlc]; unfold low; omega
            have HLC := Aside0.mk hlc
            clear hlc
            cases hx with
            | false =>
              have hb16 : ¬ b = 16 := by have := HBX.out; simpa using this.symm
              replace hb16 := Aside0.mk hb16
              rcases hsp with hsp | hsp
              · go_wp2_with fail
                go_meet
                case rel =>
                  refine ⟨i, st, c :: r, rfl, rfl, rfl, rfl, rfl, rfl, rfl, rfl, rfl, by omega, ⟨by omega, by omega, by omega, by omega, by omega, by omega⟩, ⟨by rw [HL.out.1, HM.out.1], ?_⟩, rfl⟩
                  rw [← HL.out.2.2, HM.out.1, rscan_cons, if_neg HE.out.1, if_neg (by rw [HE.out.2]; decide), if_neg (by rintro ⟨h1, h2, h3⟩; exact hb16.out h1)]
              · go_wp2_with fail
                go_meet
                case rel =>
                  refine ⟨i, st, c :: r, rfl, rfl, rfl, rfl, rfl, rfl, rfl, rfl, rfl, by omega, ⟨by omega, by omega, by omega, by omega, by omega, by omega⟩, ⟨by rw [HL.out.1, HM.out.1], ?_⟩, rfl⟩
                  rw [← HL.out.2.2, HM.out.1, rscan_cons, if_neg HE.out.1, if_neg (by rw [HE.out.2]; decide), if_neg (by rintro ⟨h1, h2, h3⟩; exact hb16.out h1)]
            | true =>
              have hb16 : b = 16 := by have := HBX.out; simpa using this.symm
              replace hb16 := Aside0.mk hb16
              by_cases l0 : 97 ≤ lc
              · by_cases l1 : lc ≤ 102
                · have HH : Aside0 (b = 16 ∧ 97 ≤ low c ∧ low c ≤ 102) := ⟨⟨hb16.out, by rw [← HLC.out]; exact l0, by rw [← HLC.out]; exact l1⟩⟩
                  by_cases hk : st.nm < m
                  · have HK := Aside0.mk hk
                    rcases hsp with hsp | hsp
                    · go_wp2_with (first | (go_at_call 50; refine (C.out _).mono ?_; rintro e w' ⟨rfl, rfl⟩))
                      go_roundg k1
                      case rel =>
                        have hlen : r.length = k1 := by have := HL.out.2.1; rw [HM.out.1] at this; simpa using this
                        have hsc : rscan b m r ⟨IntKind.u64.wrap (IntKind.u64.wrap (st.man * 16) + (lc - 87)), st.nd + 1, st.nm + 1, st.dp, st.tr, st.dot, true⟩ = rscan b m L1 rs0 := by
                          rw [← HL.out.2.2, HM.out.1, rscan_cons, if_neg HE.out.1, if_neg (by rw [HE.out.2]; decide), if_pos HH.out, show rhex1 m c st = _ from by unfold rhex1; rw [if_pos HK.out, ← HLC.out]]
                        have zz : lc - 97 + 10 = lc - 87 := by omega
                        exact ⟨i + 1, ⟨IntKind.u64.wrap (IntKind.u64.wrap (st.man * 16) + (lc - 87)), st.nd + 1, st.nm + 1, st.dp, st.tr, st.dot, true⟩, r, by first | rfl | (rw [zz]; rfl) | rw [zz] | go_num, rfl, by go_num, rfl, rfl, rfl, by first | rfl | go_num, by first | rfl | go_num, by first | rfl | go_num, by omega, ⟨by dsimp only; omega, by dsimp only; omega, by dsimp only; omega, by dsimp only; omega, by dsimp only; omega, by dsimp only; omega⟩, ⟨HM.out.2.symm, hlen, hsc⟩, rfl⟩
                      case measure => exact Nat.lt_succ_self _
                    · go_wp2_with (first | (go_at_call 50; refine (C.out _).mono ?_; rintro e w' ⟨rfl, rfl⟩))
                      go_roundg k1
                      case rel =>
                        have hlen : r.length = k1 := by have := HL.out.2.1; rw [HM.out.1] at this; simpa using this
                        have hsc : rscan b m r ⟨IntKind.u64.wrap (IntKind.u64.wrap (st.man * 16) + (lc - 87)), st.nd + 1, st.nm + 1, st.dp, st.tr, st.dot, true⟩ = rscan b m L1 rs0 := by
                          rw [← HL.out.2.2, HM.out.1, rscan_cons, if_neg HE.out.1, if_neg (by rw [HE.out.2]; decide), if_pos HH.out, show rhex1 m c st = _ from by unfold rhex1; rw [if_pos HK.out, ← HLC.out]]
                        have zz : lc - 97 + 10 = lc - 87 := by omega
                        exact ⟨i + 1, ⟨IntKind.u64.wrap (IntKind.u64.wrap (st.man * 16) + (lc - 87)), st.nd + 1, st.nm + 1, st.dp, st.tr, st.dot, true⟩, r, by first | rfl | (rw [zz]; rfl) | rw [zz] | go_num, rfl, by go_num, rfl, rfl, rfl, by first | rfl | go_num, by first | rfl | go_num, by first | rfl | go_num, by omega, ⟨by dsimp only; omega, by dsimp only; omega, by dsimp only; omega, by dsimp only; omega, by dsimp only; omega, by dsimp only; omega⟩, ⟨HM.out.2.symm, hlen, hsc⟩, rfl⟩
                      case measure => exact Nat.lt_succ_self _
                  · have HK := Aside0.mk hk
                    rcases hsp with hsp | hsp
                    · go_wp2_with (first | (go_at_call 50; refine (C.out _).mono ?_; rintro e w' ⟨rfl, rfl⟩))
                      go_roundg k1
                      case rel =>
                        have hlen : r.length = k1 := by have := HL.out.2.1; rw [HM.out.1] at this; simpa using this
                        have hsc : rscan b m r ⟨st.man, st.nd + 1, st.nm, st.dp, true, st.dot, true⟩ = rscan b m L1 rs0 := by
                          rw [← HL.out.2.2, HM.out.1, rscan_cons, if_neg HE.out.1, if_neg (by rw [HE.out.2]; decide), if_pos HH.out, show rhex1 m c st = _ from by unfold rhex1; rw [if_neg (by have := HK.out; omega)]]
                        have zz : lc - 97 + 10 = lc - 87 := by omega
                        exact ⟨i + 1, ⟨st.man, st.nd + 1, st.nm, st.dp, true, st.dot, true⟩, r, by first | rfl | (rw [zz]; rfl) | rw [zz] | go_num, rfl, by go_num, rfl, rfl, rfl, by first | rfl | go_num, by first | rfl | go_num, by first | rfl | go_num, by omega, ⟨by dsimp only; omega, by dsimp only; omega, by dsimp only; omega, by dsimp only; omega, by dsimp only; omega, by dsimp only; omega⟩, ⟨HM.out.2.symm, hlen, hsc⟩, rfl⟩
                      case measure => exact Nat.lt_succ_self _
                    · go_wp2_with (first | (go_at_call 50; refine (C.out _).mono ?_; rintro e w' ⟨rfl, rfl⟩))
                      go_roundg k1
                      case rel =>
                        have hlen : r.length = k1 := by have := HL.out.2.1; rw [HM.out.1] at this; simpa using this
                        have hsc : rscan b m r ⟨st.man, st.nd + 1, st.nm, st.dp, true, st.dot, true⟩ = rscan b m L1 rs0 := by
                          rw [← HL.out.2.2, HM.out.1, rscan_cons, if_neg HE.out.1, if_neg (by rw [HE.out.2]; decide), if_pos HH.out, show rhex1 m c st = _ from by unfold rhex1; rw [if_neg (by have := HK.out; omega)]]
                        have zz : lc - 97 + 10 = lc - 87 := by omega
                        exact ⟨i + 1, ⟨st.man, st.nd + 1, st.nm, st.dp, true, st.dot, true⟩, r, by first | rfl | (rw [zz]; rfl) | rw [zz] | go_num, rfl, by go_num, rfl, rfl, rfl, by first | rfl | go_num, by first | rfl | go_num, by first | rfl | go_num, by omega, ⟨by dsimp only; omega, by dsimp only; omega, by dsimp only; omega, by dsimp only; omega, by dsimp only; omega, by dsimp only; omega⟩, ⟨HM.out.2.symm, hlen, hsc⟩, rfl⟩
                      case measure => exact Nat.lt_succ_self _
                · have HH := Aside0.mk l1
                  rcases hsp with hsp | hsp
                  · go_wp2_with (first | (go_at_call 50; refine (C.out _).mono ?_; rintro e w' ⟨rfl, rfl⟩))
                    go_meet
                    case rel =>
                      refine ⟨i, st, c :: r, rfl, rfl, rfl, rfl, rfl, rfl, rfl, rfl, rfl, by omega, ⟨by omega, by omega, by omega, by omega, by omega, by omega⟩, ⟨by rw [HL.out.1, HM.out.1], ?_⟩, rfl⟩
                      rw [← HL.out.2.2, HM.out.1, rscan_cons, if_neg HE.out.1, if_neg (by rw [HE.out.2]; decide), if_neg (by rintro ⟨h1, h2, h3⟩; rw [← HLC.out] at h3; have := HH.out; omega)]
                  · go_wp2_with (first | (go_at_call 50; refine (C.out _).mono ?_; rintro e w' ⟨rfl, rfl⟩))
                    go_meet
                    case rel =>
                      refine ⟨i, st, c :: r, rfl, rfl, rfl, rfl, rfl, rfl, rfl, rfl, rfl, by omega, ⟨by omega, by omega, by omega, by omega, by omega, by omega⟩, ⟨by rw [HL.out.1, HM.out.1], ?_⟩, rfl⟩
                      rw [← HL.out.2.2, HM.out.1, rscan_cons, if_neg HE.out.1, if_neg (by rw [HE.out.2]; decide), if_neg (by rintro ⟨h1, h2, h3⟩; rw [← HLC.out] at h3; have := HH.out; omega)]
              · have HH := Aside0.mk l0
                rcases hsp with hsp | hsp
                · go_wp2_with (first | (go_at_call 50; refine (C.out _).mono ?_; rintro e w' ⟨rfl, rfl⟩))
                  go_meet
                  case rel =>
                    refine ⟨i, st, c :: r, rfl, rfl, rfl, rfl, rfl, rfl, rfl, rfl, rfl, by omega, ⟨by omega, by omega, by omega, by omega, by omega, by omega⟩, ⟨by rw [HL.out.1, HM.out.1], ?_⟩, rfl⟩
                    rw [← HL.out.2.2, HM.out.1, rscan_cons, if_neg HE.out.1, if_neg (by rw [HE.out.2]; decide), if_neg (by rintro ⟨h1, h2, h3⟩; rw [← HLC.out] at h2; have := HH.out; omega)]
                · go_wp2_with (first | (go_at_call 50; refine (C.out _).mono ?_; rintro e w' ⟨rfl, rfl⟩))
                  go_meet
                  case rel =>
                    refine ⟨i, st, c :: r, rfl, rfl, rfl, rfl, rfl, rfl, rfl, rfl, rfl, by omega, ⟨by omega, by omega, by omega, by omega, by omega, by omega⟩, ⟨by rw [HL.out.1, HM.out.1], ?_⟩, rfl⟩
                    rw [← HL.out.2.2, HM.out.1, rscan_cons, if_neg HE.out.1, if_neg (by rw [HE.out.2]; decide), if_neg (by rintro ⟨h1, h2, h3⟩; rw [← HLC.out] at h2; have := HH.out; omega)]
  case rest =>
    obtain ⟨i, st, M, rfl, rfl, rfl, rfl, rfl, rfl, rfl, rfl, rfl, hi, ⟨b0, b1, b2, b3, b4, b5⟩, HL, rfl⟩ := hcut
    refine ‹∀ (a : Act) (w1 : World), Code.wp _ _ _ a w1 → _› _ _ ?_
    refine read_rest s hsz L ng hx HU w b m ec hb i st M hi ⟨HL.out.1, ?_⟩ b0 (by omega) b2 (by omega) (by omega) (by omega) _ rfl rfl rfl rfl rfl rfl rfl rfl rfl rfl rfl rfl rfl rfl rfl rfl rfl rfl
    rw [HL1.out.2]
    unfold rmain
    rw [HL.out.2]
end Go.Proofs.YtlkbhmmelejmjaaDoor.FltReadD

/- readFloat, walked: what is behind its digits. -/
namespace Go.Proofs.YtlkbhmmelejmjaaDoor.FltReadE
open Go.RowKit Go.Proofs.YtlkbhmmelejmjaaDoorW.PrintWords Go.Proofs.YtlkbhmmelejmjaaDoor.NumKnown Go.Proofs.YtlkbhmmelejmjaaDoor.NumPure Go.Proofs.YtlkbhmmelejmjaaDoor.FltDec Go.Proofs.YtlkbhmmelejmjaaDoor.FltPure Go.Proofs.YtlkbhmmelejmjaaDoor.FltLeft Go.Proofs.YtlkbhmmelejmjaaDoor.FltRight Go.Proofs.YtlkbhmmelejmjaaDoor.FltLaw Go.Proofs.YtlkbhmmelejmjaaDoor.FltState Go.Proofs.YtlkbhmmelejmjaaDoor.FltTextP Go.Proofs.YtlkbhmmelejmjaaDoor.FltSetB Go.Proofs.YtlkbhmmelejmjaaDoor.FltReadA Go.Proofs.YtlkbhmmelejmjaaDoor.FltReadB Go.Proofs.YtlkbhmmelejmjaaDoor.FltReadC Go.Proofs.YtlkbhmmelejmjaaDoor.FltReadD
set_option linter.unusedVariables false
set_option linter.unusedSimpArgs false

theorem hexat_cons3 (a b c : UInt8) (r : List UInt8) : hexat (a :: b :: c :: r) = decide (a.toNat = 48 ∧ low b = 120) := rfl
theorem readF_nil : readF [] = none := rfl

set_option maxHeartbeats 16000000 in
set_option maxRecDepth 100000 in
theorem read_zero (s : ByteArray) (hsz : s.size ≤ 2200000000) (L : List UInt8) (ng : Bool) (HU : Aside0 (∀ i (h : i < s.size), s[i].toNat ≠ 95)) (w : World) (hx : Bool) (b m ec : Int) (hb : (b == 16) = hx) (hm0 : 0 ≤ m) (hm1 : m ≤ 19) (i1 : Nat) (hi1 : i1 ≤ s.size) (L1 : List UInt8) (HL1 : Aside0 (s.data.toList.drop i1 = L1 ∧ readF L = rmain b m ec L1))
    (t : Array Value) (hz : t.size = 253) (t0 : t[0]? = some (.string s)) (t2 : t[2]? = some (.int .u64 0)) (t3 : t[3]? = some (.int .i64 0)) (t4 : t[4]? = some (.bool ng)) (t5 : t[5]? = some (.bool false)) (t6 : t[6]? = some (.bool hx)) (t7 : t[7]? = some (.int .i64 (i1 : Int))) (t8 : t[8]? = some (.bool false)) (t9 : t[9]? = some (.bool false)) (t10 : t[10]? = some (.int .u64 b)) (t11 : t[11]? = some (.int .i64 m)) (t12 : t[12]? = some (.int .u8 ec)) :
    (after 7 (inner (after 1 (Tryd.f53.body.getD .skip)))).wp Tryd.prog (Exit.noGoto (bodyPost Tryd.prog Tryd.f53 (RdP s L ng w))) { tmps := t, defers := [] } w := by
  obtain ⟨u, rfl⟩ := frame253 t hz
  have e0 : u 0 = .string s := Option.some.inj t0
  have e2 : u 2 = .int .u64 0 := Option.some.inj t2
  have e3 : u 3 = .int .i64 0 := Option.some.inj t3
  have e4 : u 4 = .bool ng := Option.some.inj t4
  have e5 : u 5 = .bool false := Option.some.inj t5
  have e6 : u 6 = .bool hx := Option.some.inj t6
  have e7 : u 7 = .int .i64 (i1 : Int) := Option.some.inj t7
  have e8 : u 8 = .bool false := Option.some.inj t8
  have e9 : u 9 = .bool false := Option.some.inj t9
  have e10 : u 10 = .int .u64 b := Option.some.inj t10
  have e11 : u 11 = .int .i64 m := Option.some.inj t11
  have e12 : u 12 = .int .u8 ec := Option.some.inj t12
  rw [e0, e2, e3, e4, e5, e6, e7, e8, e9, e10, e11, e12]
  clear t0 e0 t2 e2 t3 e3 t4 e4 t5 e5 t6 e6 t7 e7 t8 e8 t9 e9 t10 e10 t11 e11 t12 e12 hz
  dsimp only
  have hL : s.data.toList.length = s.size := (Lib.size_eq s).symm
  conv =>
    arg 2
    simp only [Tryd.f53, after, inner, Option.getD]
  go_upto_region 22 with (fail)
  go_cut [13, 14, 15, 16, 17] (fun v13 v14 v15 v16 v17 wd => v13 = .bool false ∧ v14 = .bool false ∧ v15 = .int .i64 0 ∧ v16 = .int .i64 0 ∧ v17 = .int .i64 0 ∧ w = wd)
  case first =>
    go_wp2_with fail
    go_meet
    case rel => exact ⟨rfl, rfl, rfl, rfl, rfl, rfl⟩
  case rest =>
    obtain ⟨rfl, rfl, rfl, rfl, rfl, rfl⟩ := hcut
    refine ‹∀ (a : Act) (w1 : World), Code.wp _ _ _ a w1 → _› _ _ ?_
    exact read_loop s hsz L ng hx HU w b m ec hb hm0 hm1 i1 hi1 L1 HL1 _ rfl rfl rfl rfl rfl rfl rfl rfl rfl rfl rfl rfl rfl rfl rfl rfl rfl rfl

set_option maxHeartbeats 16000000 in
set_option maxRecDepth 100000 in
theorem read_hex (s : ByteArray) (hsz : s.size ≤ 2200000000) (L : List UInt8) (ng : Bool) (HU : Aside0 (∀ i (h : i < s.size), s[i].toNat ≠ 95)) (w : World) (i0 : Nat) (hi0 : i0 ≤ s.size) (HC : Aside0 (s.data.toList.drop i0 = L))
    (t : Array Value) (hz : t.size = 253) (t0 : t[0]? = some (.string s)) (t2 : t[2]? = some (.int .u64 0)) (t3 : t[3]? = some (.int .i64 0)) (t4 : t[4]? = some (.bool ng)) (t5 : t[5]? = some (.bool false)) (t6 : t[6]? = some (.bool false)) (t7 : t[7]? = some (.int .i64 (i0 : Int))) (t8 : t[8]? = some (.bool false)) (t9 : t[9]? = some (.bool false)) :
    (after 3 (inner (after 1 (Tryd.f53.body.getD .skip)))).wp Tryd.prog (Exit.noGoto (bodyPost Tryd.prog Tryd.f53 (RdP s L ng w))) { tmps := t, defers := [] } w := by
  obtain ⟨u, rfl⟩ := frame253 t hz
  have e0 : u 0 = .string s := Option.some.inj t0
  have e2 : u 2 = .int .u64 0 := Option.some.inj t2
  have e3 : u 3 = .int .i64 0 := Option.some.inj t3
  have e4 : u 4 = .bool ng := Option.some.inj t4
  have e5 : u 5 = .bool false := Option.some.inj t5
  have e6 : u 6 = .bool false := Option.some.inj t6
  have e7 : u 7 = .int .i64 (i0 : Int) := Option.some.inj t7
  have e8 : u 8 = .bool false := Option.some.inj t8
  have e9 : u 9 = .bool false := Option.some.inj t9
  rw [e0, e2, e3, e4, e5, e6, e7, e8, e9]
  clear t0 e0 t2 e2 t3 e3 t4 e4 t5 e5 t6 e6 t7 e7 t8 e8 t9 e9 hz
  dsimp only
  have hL : s.data.toList.length = s.size := (Lib.size_eq s).symm
  conv =>
    arg 2
    simp only [Tryd.f53, after, inner, Option.getD]
  go_upto_region 12 with (fail)
  go_cut [54] (fun v54 wd => v54 = .bool (hexat L) ∧ w = wd)
  case first =>
    have h3 : s.size ≤ i0 + 2 ∨ ∃ a b c r, L = a :: b :: c :: r ∧ i0 + 2 < s.size := by
      by_cases h : s.size ≤ i0 + 2
      · exact .inl h
      · refine .inr ?_
        have hl : L.length = s.size - i0 := by rw [← HC.out, List.length_drop, hL]
        match L, hl with
        | [], hl => exact absurd hl (by simp; omega)
        | [a], hl => exact absurd hl (by simp; omega)
        | [a, b], hl => exact absurd hl (by simp; omega)
        | a :: b :: c :: r, hl => exact ⟨a, b, c, r, rfl, by omega⟩
    rcases h3 with h3 | ⟨a, b, c, r, h3, h4⟩
    · have hx : hexat L = false := by
        have hl : L.length = s.size - i0 := by rw [← HC.out, List.length_drop, hL]
        match L, hl with
        | [], _ => rfl
        | [a], _ => rfl
        | [a, b], _ => rfl
        | a :: b :: c :: r, hl => exact absurd hl (by simp; omega)
      have g1 : decide ((i0 : Int) + 2 < (s.size : Int)) = false := decide_eq_false (by omega)
      have HX := Aside0.mk hx
      clear hx
      go_wp2_with fail
      go_meet
      case rel => exact ⟨by rw [HX.out], rfl⟩
    · have hd0 := drop_cons (l := s.data.toList) (i := i0) (by omega)
      have hd1 := drop_cons (l := s.data.toList) (i := i0 + 1) (by omega)
      have hce0 : s.data.toList[i0]'(by omega) = s[i0] := rfl
      have hce1 : s.data.toList[i0 + 1]'(by omega) = s[i0 + 1] := rfl
      rw [HC.out, h3, hce0] at hd0
      injection hd0 with hd2 hd3
      rw [← hd3, hce1] at hd1
      injection hd1 with hd4 hd5
      have hs0 : s[i0] = a := hd2.symm
      have hs1 : s[i0 + 1] = b := hd4.symm
      have HL3 := Aside0.mk h3
      clear hd2 hd3 hd4 hd5 hce0 hce1 h3
      by_cases ha : a.toNat = 48
      · obtain ⟨lb, hlb⟩ : ∃ lb, lb = low b := ⟨_, rfl⟩
        have C := Aside0.mk (low_walk b)
        rw [← hlb] at C
        have HA := Aside0.mk (And.intro ha hlb)
        clear hlb
        by_cases h120 : lb = 120
        · have hx : hexat L = true := by rw [HL3.out, hexat_cons3]; exact decide_eq_true ⟨ha, by rw [← HA.out.2]; exact h120⟩
          replace hx := Aside0.mk hx
          subst h120
          go_wp2_with (first | (go_at_call 50; refine (C.out _).mono ?_; rintro e w' ⟨rfl, rfl⟩))
          go_meet
          case rel => exact ⟨by rw [hx.out], rfl⟩
        · have hx : hexat L = false := by rw [HL3.out, hexat_cons3]; exact decide_eq_false (fun h => h120 (by rw [HA.out.2]; exact h.2))
          replace hx := Aside0.mk hx
          have q120 : (lb == 120) = false := beq_eq_false_iff_ne.mpr h120
          go_wp2_with (first | (go_at_call 50; refine (C.out _).mono ?_; rintro e w' ⟨rfl, rfl⟩))
          go_meet
          case rel => exact ⟨by rw [hx.out], rfl⟩
      · have hx : hexat L = false := by rw [HL3.out, hexat_cons3]; exact decide_eq_false (fun h => ha h.1)
        replace hx := Aside0.mk hx
        have q48 : ((a.toNat : Int) == 48) = false := beq_eq_false_iff_ne.mpr (by omega)
        go_wp2_with fail
        go_meet
        case rel => exact ⟨by rw [hx.out], rfl⟩
  case rest =>
    obtain ⟨rfl, rfl⟩ := hcut
    go_upto_if 54 with (fail)
    go_cut [6, 7, 10, 11, 12] (fun v6 v7 v10 v11 v12 wd => ∃ (hx : Bool) (i1 : Nat) (L1 : List UInt8) (b m ec : Int), v6 = .bool hx ∧ v7 = .int .i64 i1 ∧ v10 = .int .u64 b ∧ v11 = .int .i64 m ∧ v12 = .int .u8 ec ∧ (b == 16) = hx ∧ 0 ≤ m ∧ m ≤ 19 ∧ i1 ≤ s.size ∧ Aside0 (s.data.toList.drop i1 = L1 ∧ readF L = rmain b m ec L1) ∧ w = wd)
    case first =>
      have hl : L.length = s.size - i0 := by rw [← HC.out, List.length_drop, hL]
      cases hx : hexat L with
      | true =>
        have hi2 : i0 + 2 ≤ s.size := by
          match L, hl, hx with
          | [], _, hx => exact absurd (show false = true from hx) (by decide)
          | [a], _, hx => exact absurd (show false = true from hx) (by decide)
          | [a, b], _, hx => exact absurd (show false = true from hx) (by decide)
          | a :: b :: c :: r, hl, _ => simp at hl; omega
        have HX := Aside0.mk hx
        go_wp2_with fail
        go_meet
        case rel =>
          refine ⟨true, i0 + 2, L.drop 2, 16, 16, 112, rfl, by go_num, rfl, rfl, rfl, by decide, by decide, by decide, hi2, ⟨?_, ?_⟩, rfl⟩
          · rw [← HC.out, List.drop_drop]
          · unfold readF; rw [if_pos HX.out]
      | false =>
        have HX := Aside0.mk hx
        go_wp2_with fail
        go_meet
        case rel =>
          refine ⟨false, i0, L, 10, 19, 101, rfl, rfl, rfl, rfl, rfl, by decide, by decide, by decide, by omega, ⟨HC.out, ?_⟩, rfl⟩
          unfold readF; rw [if_neg (by rw [HX.out]; decide)]
    case rest =>
      obtain ⟨hx, i1, L1, b, m, ec, rfl, rfl, rfl, rfl, rfl, hb, hm0, hm1, hi1, HL1, rfl⟩ := hcut
      refine ‹∀ (a : Act) (w1 : World), Code.wp _ _ _ a w1 → _› _ _ ?_
      exact read_zero s hsz L ng HU w hx b m ec hb hm0 hm1 i1 hi1 L1 HL1 _ rfl rfl rfl rfl rfl rfl rfl rfl rfl rfl rfl rfl rfl
end Go.Proofs.YtlkbhmmelejmjaaDoor.FltReadE

/- readFloat, walked: what is behind its digits. -/
namespace Go.Proofs.YtlkbhmmelejmjaaDoor.FltRead
open Go.RowKit Go.Proofs.YtlkbhmmelejmjaaDoorW.PrintWords Go.Proofs.YtlkbhmmelejmjaaDoor.NumKnown Go.Proofs.YtlkbhmmelejmjaaDoor.NumPure Go.Proofs.YtlkbhmmelejmjaaDoor.FltDec Go.Proofs.YtlkbhmmelejmjaaDoor.FltPure Go.Proofs.YtlkbhmmelejmjaaDoor.FltLeft Go.Proofs.YtlkbhmmelejmjaaDoor.FltRight Go.Proofs.YtlkbhmmelejmjaaDoor.FltLaw Go.Proofs.YtlkbhmmelejmjaaDoor.FltState Go.Proofs.YtlkbhmmelejmjaaDoor.FltTextP Go.Proofs.YtlkbhmmelejmjaaDoor.FltSetB Go.Proofs.YtlkbhmmelejmjaaDoor.FltReadA Go.Proofs.YtlkbhmmelejmjaaDoor.FltReadB Go.Proofs.YtlkbhmmelejmjaaDoor.FltReadC Go.Proofs.YtlkbhmmelejmjaaDoor.FltReadD Go.Proofs.YtlkbhmmelejmjaaDoor.FltReadE
set_option linter.unusedVariables false
set_option linter.unusedSimpArgs false

set_option maxHeartbeats 16000000 in
set_option maxRecDepth 100000 in
theorem read_walk (s : ByteArray) (hsz : s.size ≤ 2200000000) (hus : ∀ i (h : i < s.size), s[i].toNat ≠ 95) (w : World) : Calls Tryd.prog 53 #[.string s] w (RdP s (sgn s.data.toList).2 (sgn s.data.toList).1 w) := by
  have HU := Aside0.mk hus
  clear hus
  have hL : s.data.toList.length = s.size := (Lib.size_eq s).symm
  by_cases h0 : s.size = 0
  · have hemp : s = ByteArray.empty := by
      have : s.data.toList = [] := List.eq_nil_of_length_eq_zero (by omega)
      cases s with | mk d => cases d with | mk l => simp at this; subst this; rfl
    have hN : readF (sgn s.data.toList).2 = none := by rw [hemp]; rfl
    replace hN := Aside0.mk hN
    go_enter Tryd.func53, Tryd.ntmps53
    go_wp2_with fail
    go_step3
    go_wp2_with fail
    rw [Exit.noGoto_ret]
    refine bodyPost_ret (results_tmp7 rfl _ _ _) rfl ?_
    exact ⟨rfl, .inl ⟨_, _, _, _, _, _, hN.out, rfl⟩⟩
  · have hemp : ¬ s = ByteArray.empty := fun h => h0 (by rw [h]; rfl)
    have h1 : 0 < s.size := by omega
    obtain ⟨c0, r0, hL0⟩ : ∃ c0 r0, s.data.toList = c0 :: r0 := by
      cases h : s.data.toList with
      | nil => rw [h] at hL; exact absurd hL (by simp; omega)
      | cons a b => exact ⟨a, b, rfl⟩
    obtain ⟨ng, L, hS⟩ : ∃ ng L, sgn (c0 :: r0) = (ng, L) := ⟨_, _, rfl⟩
    have e1 : (sgn s.data.toList).1 = ng := by rw [hL0, hS]
    have e2 : (sgn s.data.toList).2 = L := by rw [hL0, hS]
    rw [e1, e2]
    clear e1 e2
    replace hS := Aside0.mk hS
    have hc0 : s[0] = c0 := by
      have : s.data.toList[0]'(by omega) = c0 := by simp only [hL0]; rfl
      exact this
    go_enter Tryd.func53, Tryd.ntmps53
    go_wp2_with fail
    go_step3
    go_upto_block 0 with (fail)
    go_cut [4, 7] (fun v4 v7 wd => ∃ i0 : Nat, v4 = .bool ng ∧ v7 = .int .i64 i0 ∧ i0 ≤ 1 ∧ Aside0 (s.data.toList.drop i0 = L) ∧ w = wd)
    case first =>
      by_cases h43 : c0.toNat = 43
      · have HE := Aside0.mk (And.intro hL0 h43)
        clear hL0
        go_wp2_with fail
        go_meet
        case rel =>
          have hs := hS.out
          rw [sgn_cons, if_pos HE.out.2] at hs
          injection hs with s1 s2
          exact ⟨1, by rw [← s1], rfl, Nat.le_refl _, ⟨by rw [HE.out.1, ← s2]; rfl⟩, rfl⟩
      · have q43 : ((c0.toNat : Int) == 43) = false := beq_eq_false_iff_ne.mpr (by omega)
        by_cases h45 : c0.toNat = 45
        · have HE := Aside0.mk (And.intro hL0 (And.intro h43 h45))
          clear hL0
          go_wp2_with fail
          go_meet
          case rel =>
            have hs := hS.out
            rw [sgn_cons, if_neg HE.out.2.1, if_pos HE.out.2.2] at hs
            injection hs with s1 s2
            exact ⟨1, by rw [← s1], rfl, Nat.le_refl _, ⟨by rw [HE.out.1, ← s2]; rfl⟩, rfl⟩
        · have q45 : ((c0.toNat : Int) == 45) = false := beq_eq_false_iff_ne.mpr (by omega)
          have HE := Aside0.mk (And.intro hL0 (And.intro h43 h45))
          clear hL0
          go_wp2_with fail
          go_meet
          case rel =>
            have hs := hS.out
            rw [sgn_cons, if_neg HE.out.2.1, if_neg HE.out.2.2] at hs
            injection hs with s1 s2
            exact ⟨0, by rw [← s1], rfl, Nat.zero_le _, ⟨by rw [HE.out.1, ← s2]; rfl⟩, rfl⟩
    case rest =>
      obtain ⟨i0, rfl, rfl, hi0, HC, rfl⟩ := hcut
      clear hL0 hc0
      refine ‹∀ (a : Act) (w1 : World), Code.wp _ _ _ a w1 → _› _ _ ?_
      exact read_hex s hsz L ng HU w i0 (by omega) HC _ rfl rfl rfl rfl rfl rfl rfl rfl rfl rfl
end Go.Proofs.YtlkbhmmelejmjaaDoor.FltRead

/- What readFloat reads lies within bounds (plain). -/
namespace Go.Proofs.YtlkbhmmelejmjaaDoor.FltReadIn
open Go.RowKit Go.Proofs.YtlkbhmmelejmjaaDoor.FltTextP
set_option linter.unusedVariables false
set_option linter.unusedSimpArgs false

theorem wrap_in (n : Int) : 0 ≤ IntKind.u64.wrap n ∧ IntKind.u64.wrap n < 18446744073709551616 := by rw [IntKind.wrap_u64]; omega
structure RIn (s : RS) (k : Int) : Prop where
  m0 : 0 ≤ s.man
  m1 : s.man < 18446744073709551616
  d0 : 0 ≤ s.nd
  d1 : s.nd ≤ k
  n0 : 0 ≤ s.nm
  n1 : s.nm ≤ 19
  p0 : -k ≤ s.dp
  p1 : s.dp ≤ k
theorem rscan_in (b m : Int) (hm : m ≤ 19) (L : List UInt8) : ∀ (s : RS) (k : Int), RIn s k → RIn (rscan b m L s).1 (k + L.length) := by
  induction L with
  | nil => intro s k h; simpa [rscan] using h
  | cons c r ih =>
    intro s k h
    have e : k + ((c :: r).length : Int) = (k + 1) + (r.length : Int) := by simp; omega
    have up : RIn s (k + 1 + r.length) := by
      obtain ⟨h1, h2, h3, h4, h5, h6, h7, h8⟩ := h
      exact ⟨h1, h2, h3, by omega, h5, h6, by omega, by omega⟩
    obtain ⟨h1, h2, h3, h4, h5, h6, h7, h8⟩ := h
    rw [rscan_cons, e]
    split
    · split
      · exact up
      · exact ih _ _ ⟨h1, h2, h3, by dsimp only; omega, h5, h6, by dsimp only; omega, by dsimp only; omega⟩
    · split
      · apply ih
        unfold rdig1
        split
        · exact ⟨h1, h2, h3, by dsimp only; omega, h5, h6, by dsimp only; omega, by dsimp only; omega⟩
        · split
          · exact ⟨(wrap_in _).1, (wrap_in _).2, by dsimp only; omega, by dsimp only; omega, by dsimp only; omega, by dsimp only; omega, by dsimp only; omega, by dsimp only; omega⟩
          · split
            · exact ⟨h1, h2, by dsimp only; omega, by dsimp only; omega, h5, h6, by dsimp only; omega, by dsimp only; omega⟩
            · exact ⟨h1, h2, by dsimp only; omega, by dsimp only; omega, h5, h6, by dsimp only; omega, by dsimp only; omega⟩
      · split
        · apply ih
          unfold rhex1
          split
          · exact ⟨(wrap_in _).1, (wrap_in _).2, by dsimp only; omega, by dsimp only; omega, by dsimp only; omega, by dsimp only; omega, by dsimp only; omega, by dsimp only; omega⟩
          · exact ⟨h1, h2, by dsimp only; omega, by dsimp only; omega, h5, h6, by dsimp only; omega, by dsimp only; omega⟩
        · exact up
theorem rs0_in : RIn rs0 0 := ⟨by decide, by decide, by decide, by decide, by decide, by decide, by decide, by decide⟩
theorem rfin_in {b : Int} {s : RS} {k x : Int} {rest : List UInt8} (h : RIn s k) (hk : k ≤ 2200000000) (hx0 : -99999 ≤ x) (hx1 : x ≤ 99999) : 0 ≤ (rfin b s x rest).man ∧ (rfin b s x rest).man < 18446744073709551616 ∧ -9500000000 ≤ (rfin b s x rest).exp ∧ (rfin b s x rest).exp ≤ 9500000000 := by
  obtain ⟨h1, h2, h3, h4, h5, h6, h7, h8⟩ := h
  refine ⟨h1, h2, ?_, ?_⟩
  · show -9500000000 ≤ if s.man = 0 then 0 else rdp b s + x - rnm b s
    unfold rdp rnm
    split
    · omega
    · split <;> split <;> omega
  · show (if s.man = 0 then 0 else rdp b s + x - rnm b s) ≤ 9500000000
    unfold rdp rnm
    split
    · omega
    · split <;> split <;> omega
theorem rmain_in {b m ec : Int} (hm : m ≤ 19) {L : List UInt8} {r : RR} (hl : (L.length : Int) ≤ 2200000000) (h : rmain b m ec L = some r) : 0 ≤ r.man ∧ r.man < 18446744073709551616 ∧ -9500000000 ≤ r.exp ∧ r.exp ≤ 9500000000 := by
  have hin := rscan_in b m hm L rs0 0 rs0_in
  rw [Int.zero_add] at hin
  unfold rmain at h
  split at h
  · revert h
    generalize (rscan b m L rs0).1 = s at hin
    generalize (rscan b m L rs0).2 = M
    intro h
    have bare : ∀ N, rbare b s N = some r → (0 ≤ r.man ∧ r.man < 18446744073709551616 ∧ -9500000000 ≤ r.exp ∧ r.exp ≤ 9500000000) := fun N hN => by
      unfold rbare at hN
      split at hN
      · exact absurd hN (by simp)
      · injection hN with hN
        subst hN
        exact rfin_in (b := b) (x := 0) (rest := N) hin hl (by omega) (by omega)
    cases M with
    | nil => exact bare _ h
    | cons c t =>
      rw [rexp_cons] at h
      split at h
      · cases hq : expo t with
        | none => rw [hq] at h; exact absurd h (by simp [rE])
        | some q =>
          rw [hq] at h
          injection h with h
          subst h
          have := expo_e hq
          exact rfin_in hin hl this.1 this.2
      · exact bare _ h
  · exact absurd h (by simp)
theorem readF_in {L : List UInt8} {r : RR} (hl : (L.length : Int) ≤ 2200000000) (h : readF L = some r) : 0 ≤ r.man ∧ r.man < 18446744073709551616 ∧ -9500000000 ≤ r.exp ∧ r.exp ≤ 9500000000 := by
  unfold readF at h
  split at h
  · exact rmain_in (by omega) (by rw [List.length_drop]; omega) h
  · exact rmain_in (by omega) hl h
end Go.Proofs.YtlkbhmmelejmjaaDoor.FltReadIn

/- The decimal of the slow road: decimal.set, walked. -/
namespace Go.Proofs.YtlkbhmmelejmjaaDoor.FltSet
open Go.RowKit Go.Proofs.YtlkbhmmelejmjaaDoorW.PrintWords Go.Proofs.YtlkbhmmelejmjaaDoor.NumKnown Go.Proofs.YtlkbhmmelejmjaaDoor.NumPure Go.Proofs.YtlkbhmmelejmjaaDoor.FltDec Go.Proofs.YtlkbhmmelejmjaaDoor.FltPure Go.Proofs.YtlkbhmmelejmjaaDoor.FltLeft Go.Proofs.YtlkbhmmelejmjaaDoor.FltRight Go.Proofs.YtlkbhmmelejmjaaDoor.FltLaw Go.Proofs.YtlkbhmmelejmjaaDoor.FltState Go.Proofs.YtlkbhmmelejmjaaDoor.FltTextP Go.Proofs.YtlkbhmmelejmjaaDoor.FltSetB
set_option linter.unusedVariables false
set_option linter.unusedSimpArgs false

set_option maxHeartbeats 16000000 in
set_option maxRecDepth 100000 in
theorem set_walk (p : Nat) (s : ByteArray) (hne : 1 ≤ s.size) (hsz : s.size ≤ 2200000000) (hus : ∀ i (h : i < s.size), s[i].toNat ≠ 95) (g0 : Nat → Int) (w : World) (hD : Dec w p g0 0 0 false false) : Calls Tryd.prog 59 #[.pointer (some ⟨p, 0, none⟩), .string s] w (SetP p (sgn s.data.toList).2 (sgn s.data.toList).1 w) := by
  have H := Aside0.mk hD
  have hnd := hD.nd
  have hdp := hD.dp
  have hng := hD.ng
  have htr := hD.tr
  have hfz := hD.fz
  clear hD
  have HU := Aside0.mk hus
  clear hus
  have hL : s.data.toList.length = s.size := (Lib.size_eq s).symm
  have hemp : ¬ s = ByteArray.empty := fun h => by rw [h] at hne; exact absurd hne (by decide)
  have h0 : 0 < s.size := hne
  obtain ⟨c0, r0, hL0⟩ : ∃ c0 r0, s.data.toList = c0 :: r0 := by
    cases h : s.data.toList with
    | nil => rw [h] at hL; exact absurd hL (by simp; omega)
    | cons a b => exact ⟨a, b, rfl⟩
  obtain ⟨ng, L, hS⟩ : ∃ ng L, sgn (c0 :: r0) = (ng, L) := ⟨_, _, rfl⟩
  have e1 : (sgn s.data.toList).1 = ng := by rw [hL0, hS]
  have e2 : (sgn s.data.toList).2 = L := by rw [hL0, hS]
  rw [e1, e2]
  clear e1 e2
  replace hS := Aside0.mk hS
  have hc0 : s[0] = c0 := by
    have : s.data.toList[0]'(by omega) = c0 := by simp only [hL0]; rfl
    exact this
  go_enter Tryd.func59, Tryd.ntmps59
  go_upto_block 0 with (fail)
  go_cut [5] (fun v5 wc => ∃ i0 : Nat, v5 = .int .i64 i0 ∧ i0 ≤ 1 ∧ Aside0 (s.data.toList.drop i0 = L ∧ ∃ g, Dec wc p g 0 0 ng false ∧ Below p w wc))
  case first =>
    have HW := Aside0.mk (And.intro ((H.out.setNg false).setTr false) (((Below.refl p w).setCell (p := ⟨p, 802, none⟩) (Nat.le_refl p) (.bool false)).setCell (p := ⟨p, 803, none⟩) (Nat.le_refl p) (.bool false)))
    by_cases h43 : c0.toNat = 43
    · have HE := Aside0.mk (And.intro hL0 h43)
      clear hL0
      go_wp2_with fail
      go_meet
      case rel =>
        have hs := hS.out
        rw [sgn_cons, if_pos HE.out.2] at hs
        injection hs with s1 s2
        exact ⟨1, rfl, Nat.le_refl _, ⟨by rw [HE.out.1, ← s2]; rfl, g0, by rw [← s1]; exact HW.out.1, HW.out.2⟩⟩
    · have q43 : ((c0.toNat : Int) == 43) = false := beq_eq_false_iff_ne.mpr (by omega)
      by_cases h45 : c0.toNat = 45
      · have HE := Aside0.mk (And.intro hL0 (And.intro h43 h45))
        clear hL0
        go_wp2_with fail
        go_meet
        case rel =>
          have hs := hS.out
          rw [sgn_cons, if_neg HE.out.2.1, if_pos HE.out.2.2] at hs
          injection hs with s1 s2
          exact ⟨1, rfl, Nat.le_refl _, ⟨by rw [HE.out.1, ← s2]; rfl, g0, by rw [← s1]; exact HW.out.1.setNg true, HW.out.2.setCell (p := ⟨p, 802, none⟩) (Nat.le_refl p) (.bool true)⟩⟩
      · have q45 : ((c0.toNat : Int) == 45) = false := beq_eq_false_iff_ne.mpr (by omega)
        have HE := Aside0.mk (And.intro hL0 (And.intro h43 h45))
        clear hL0
        go_wp2_with fail
        go_meet
        case rel =>
          have hs := hS.out
          rw [sgn_cons, if_neg HE.out.2.1, if_neg HE.out.2.2] at hs
          injection hs with s1 s2
          exact ⟨0, rfl, Nat.zero_le _, ⟨by rw [HE.out.1, ← s2]; rfl, g0, by rw [← s1]; exact HW.out.1, HW.out.2⟩⟩
  case rest =>
    obtain ⟨i0, rfl, hi0, HC⟩ := hcut
    clear hnd hdp hng htr hfz H hL0 hc0
    go_upto_block 1 with (fail)
    go_cut [5, 6, 7] from 34 to 116 (fun v5 v6 v7 wd => ∃ (i : Nat) (st : SS) (M : List UInt8), v5 = .int .i64 i ∧ v6 = .bool st.dot ∧ v7 = .bool st.dig ∧ i ≤ s.size ∧ Aside0 (s.data.toList.drop i = M ∧ sscan L ss0 = (st, M) ∧ st.Ok ∧ -2200000000 ≤ st.dp ∧ st.dp ≤ 1000 ∧ ∃ g, Dec wd p g st.n st.dp ng st.tr ∧ (∀ j, j < st.n → g j = st.F j) ∧ Below p w wd))
    case first =>
      go_wp2_with fail
      go_loopg [5, 6, 7] L.length (fun kq v5 v6 v7 wx => ∃ (i : Nat) (st : SS) (M : List UInt8), v5 = .int .i64 i ∧ v6 = .bool st.dot ∧ v7 = .bool st.dig ∧ i + kq = s.size ∧ Aside0 (s.data.toList.drop i = M ∧ M.length = kq ∧ sscan M st = sscan L ss0 ∧ st.Ok ∧ -(i : Int) ≤ st.dp ∧ st.dp ≤ 800 ∧ ∃ g, Dec wx p g st.n st.dp ng st.tr ∧ (∀ j, j < st.n → g j = st.F j) ∧ Below p w wx))
      case atStart =>
        obtain ⟨h1, g, h2, h3⟩ := HC.out
        have hl : L.length = s.size - i0 := by rw [← h1, List.length_drop, hL]
        exact ⟨i0, ss0, L, rfl, rfl, rfl, by omega, ⟨h1, rfl, rfl, ss0_ok, by show -(i0 : Int) ≤ 0; omega, by show (0 : Int) ≤ 800; omega, g, h2, fun j hj => absurd hj (Nat.not_lt_zero j), h3⟩⟩
      case round =>
        obtain ⟨i, st, M, rfl, rfl, rfl, hik, HL⟩ := hrel
        cases gk with
        | zero =>
          obtain rfl : i = s.size := by omega
          go_wp2_with fail
          go_meet
          case rel =>
            obtain ⟨h1, h2, h3, h4, h5, h6, h7⟩ := HL.out
            have hM : M = [] := List.eq_nil_of_length_eq_zero h2
            refine ⟨s.size, st, M, rfl, rfl, rfl, Nat.le_refl _, ⟨h1, ?_, h4, by omega, by omega, h7⟩⟩
            rw [← h3, hM]; rfl
        | succ k1 =>
          have hlt : i < s.size := by omega
          obtain ⟨c, r, hM⟩ : ∃ c r, M = c :: r := by
            cases M with
            | nil => exact absurd HL.out.2.1 (by simp)
            | cons a b => exact ⟨a, b, rfl⟩
          have hd := drop_cons (l := s.data.toList) (i := i) (by omega)
          have hce : s.data.toList[i]'(by omega) = s[i] := rfl
          rw [HL.out.1, hM, hce] at hd
          injection hd with hd1 hd2
          have hcs : s[i] = c := hd1.symm
          have h95 : ((c.toNat : Int) == 95) = false := beq_eq_false_iff_ne.mpr (by have := HU.out i hlt; rw [hcs] at this; omega)
          have HM := Aside0.mk (And.intro hM hd2)
          clear hd1 hd2 hce hM
          obtain ⟨g, hG⟩ : ∃ g, Dec wr p g st.n st.dp ng st.tr ∧ (∀ j, j < st.n → g j = st.F j) ∧ Below p w wr := HL.out.2.2.2.2.2.2
          have HG := Aside0.mk hG
          have hnd := hG.1.nd
          have hdp := hG.1.dp
          have hng := hG.1.ng
          have htr := hG.1.tr
          have hdi := hG.1.dig
          have hfz := hG.1.fz
          have hst0 : st.n ≤ 800 := HL.out.2.2.2.1.most
          have hdp0 : -2200000000 ≤ st.dp := by have := HL.out.2.2.2.2.1; omega
          have hdp1 : st.dp ≤ 800 := HL.out.2.2.2.2.2.1
          clear hG
          by_cases h46 : c.toNat = 46
          · have HE := Aside0.mk h46
            clear hdi
            cases hdot : st.dot with
            | true =>
              have HO := Aside0.mk hdot
              go_wp2_with fail
              go_ret
              have hsc : sscan L ss0 = (st, c :: r) := by rw [← HL.out.2.2.1, HM.out.1, sscan_cons, if_pos HE.out, if_pos HO.out]
              have hl : low c = 46 := by unfold low; rw [HE.out]; decide +kernel
              have hN : setF L = none := by
                unfold setF
                rw [hsc]
                split
                · show sexp st (c :: r) = none
                  rw [sexp_cons, if_neg (by rw [hl]; decide)]
                · rfl
              exact ⟨by rw [hN]; rfl, HG.out.2.2, fun t h => by rw [hN] at h; cases h⟩
            | false =>
              have HO := Aside0.mk hdot
              go_wp2_with fail
              go_roundg k1
              case rel =>
                refine ⟨i + 1, ⟨st.F, st.n, st.n, st.tr, true, st.dig⟩, r, by go_num, rfl, rfl, by omega, ⟨HM.out.2.symm, ?_, ?_, ⟨HL.out.2.2.2.1.most, HL.out.2.2.2.1.dig, HL.out.2.2.2.1.head⟩, by show -((i + 1 : Nat) : Int) ≤ (st.n : Int); omega, by show (st.n : Int) ≤ 800; omega, g, HG.out.1.setDp _, HG.out.2.1, HG.out.2.2.setCell (p := ⟨p, 801, none⟩) (Nat.le_refl p) _⟩⟩
                · have := HL.out.2.1; rw [HM.out.1] at this; simpa using this
                · rw [← HL.out.2.2.1, HM.out.1, sscan_cons, if_pos HE.out, if_neg (by rw [HO.out]; decide)]
              case measure => exact Nat.lt_succ_self _
          · have q46 : ((c.toNat : Int) == 46) = false := beq_eq_false_iff_ne.mpr (by omega)
            by_cases hdg : 48 ≤ c.toNat ∧ c.toNat ≤ 57
            · have HE := Aside0.mk (And.intro h46 hdg)
              obtain ⟨d48, d57⟩ := hdg
              by_cases hz : c.toNat = 48 ∧ st.n = 0
              · have HZ := Aside0.mk hz
                obtain ⟨z1, z2⟩ := hz
                clear hdi
                rw [z2] at hnd
                go_wp2_with fail
                go_roundg k1
                case rel =>
                  have hdig : isD c = true := decide_eq_true HE.out.2
                  have hsd : sdig c st = ⟨st.F, st.n, st.dp - 1, st.tr, st.dot, true⟩ := by unfold sdig; rw [if_pos HZ.out]
                  have hok := sdig_ok hdig HL.out.2.2.2.1
                  have hlen : r.length = k1 := by have := HL.out.2.1; rw [HM.out.1] at this; simpa using this
                  have hsc : sscan r (sdig c st) = sscan L ss0 := by rw [← HL.out.2.2.1, HM.out.1, sscan_cons, if_neg HE.out.1, if_pos hdig]
                  rw [hsd] at hok hsc
                  have hlo := HL.out.2.2.2.2.1
                  exact ⟨i + 1, ⟨st.F, st.n, st.dp - 1, st.tr, st.dot, true⟩, r, by go_num, rfl, rfl, by omega, ⟨HM.out.2.symm, hlen, hsc, hok, by show -((i + 1 : Nat) : Int) ≤ st.dp - 1; omega, by show st.dp - 1 ≤ 800; omega, g, HG.out.1.setDp _, HG.out.2.1, HG.out.2.2.setCell (p := ⟨p, 801, none⟩) (Nat.le_refl p) _⟩⟩
                case measure => exact Nat.lt_succ_self _
              · by_cases h8 : st.n < 800
                · have HZ := Aside0.mk (And.intro hz h8)
                  have hcell := hdi st.n h8
                  clear hdi
                  by_cases z1 : c.toNat = 48
                  · have z2 : ¬ st.n = 0 := fun h => hz ⟨z1, h⟩
                    have z3 : ((st.n : Int) == 0) = false := beq_eq_false_iff_ne.mpr (by omega)
                    clear hz
                    go_wp2_with fail
                    go_still_tail 11, (by kernel_rfl)
                    change wpList _ _ _ _ _ wr.drew
                    go_wp2_with fail
                    go_roundg k1
                    case rel =>
                      have hdig : isD c = true := decide_eq_true HE.out.2
                      have hsd : sdig c st = ⟨upd st.F st.n (c.toNat : Int), st.n + 1, st.dp, st.tr, st.dot, true⟩ := by unfold sdig; rw [if_neg HZ.out.1, if_pos HZ.out.2]
                      have hok := sdig_ok hdig HL.out.2.2.2.1
                      have hlen : r.length = k1 := by have := HL.out.2.1; rw [HM.out.1] at this; simpa using this
                      have hsc : sscan r (sdig c st) = sscan L ss0 := by rw [← HL.out.2.2.1, HM.out.1, sscan_cons, if_neg HE.out.1, if_pos hdig]
                      rw [hsd] at hok hsc
                      have hup : ∀ j, j < st.n + 1 → upd g st.n (c.toNat : Int) j = upd st.F st.n (c.toNat : Int) j := fun j hj => by
                        unfold upd
                        split
                        · rfl
                        · exact HG.out.2.1 j (by omega)
                      have hD2 := (HG.out.1.drew.setD st.n HZ.out.2 (c.toNat : Int)).setNd ((st.n : Int) + 1)
                      have hB2 := ((Go.Proofs.YtlkbhmmelejmjaaDoor.FltSetB.below_drew HG.out.2.2).setCell (p := ⟨p, st.n, none⟩) (Nat.le_refl p) (.int .u8 (c.toNat : Int))).setCell (p := ⟨p, 800, none⟩) (Nat.le_refl p) (.int .i64 ((st.n : Int) + 1))
                      have hlo := HL.out.2.2.2.2.1
                      have hv : ∀ v : Int, v = (c.toNat : Int) → Dec ((wr.drew.setCell ⟨p, st.n, none⟩ (.int .u8 v)).setCell ⟨p, 800, none⟩ (.int .i64 ((st.n : Int) + 1))) p (upd g st.n (c.toNat : Int)) ((st.n : Int) + 1) st.dp ng st.tr ∧ Below p w ((wr.drew.setCell ⟨p, st.n, none⟩ (.int .u8 v)).setCell ⟨p, 800, none⟩ (.int .i64 ((st.n : Int) + 1))) := by
                        rintro v rfl
                        exact ⟨hD2, hB2⟩
                      exact ⟨i + 1, ⟨upd st.F st.n (c.toNat : Int), st.n + 1, st.dp, st.tr, st.dot, true⟩, r, by go_num, rfl, rfl, by omega, ⟨HM.out.2.symm, hlen, hsc, hok, by show -((i + 1 : Nat) : Int) ≤ st.dp; omega, hdp1, upd g st.n (c.toNat : Int), (hv 48 (by omega)).1, hup, (hv 48 (by omega)).2⟩⟩
                    case measure => exact Nat.lt_succ_self _
                  · have q48 : ((c.toNat : Int) == 48) = false := beq_eq_false_iff_ne.mpr (by omega)
                    clear hz
                    go_wp2_with fail
                    go_still_tail 11, (by kernel_rfl)
                    change wpList _ _ _ _ _ wr.drew
                    go_wp2_with fail
                    go_roundg k1
                    case rel =>
                      have hdig : isD c = true := decide_eq_true HE.out.2
                      have hsd : sdig c st = ⟨upd st.F st.n (c.toNat : Int), st.n + 1, st.dp, st.tr, st.dot, true⟩ := by unfold sdig; rw [if_neg HZ.out.1, if_pos HZ.out.2]
                      have hok := sdig_ok hdig HL.out.2.2.2.1
                      have hlen : r.length = k1 := by have := HL.out.2.1; rw [HM.out.1] at this; simpa using this
                      have hsc : sscan r (sdig c st) = sscan L ss0 := by rw [← HL.out.2.2.1, HM.out.1, sscan_cons, if_neg HE.out.1, if_pos hdig]
                      rw [hsd] at hok hsc
                      have hup : ∀ j, j < st.n + 1 → upd g st.n (c.toNat : Int) j = upd st.F st.n (c.toNat : Int) j := fun j hj => by
                        unfold upd
                        split
                        · rfl
                        · exact HG.out.2.1 j (by omega)
                      have hD2 := (HG.out.1.drew.setD st.n HZ.out.2 (c.toNat : Int)).setNd ((st.n : Int) + 1)
                      have hB2 := ((Go.Proofs.YtlkbhmmelejmjaaDoor.FltSetB.below_drew HG.out.2.2).setCell (p := ⟨p, st.n, none⟩) (Nat.le_refl p) (.int .u8 (c.toNat : Int))).setCell (p := ⟨p, 800, none⟩) (Nat.le_refl p) (.int .i64 ((st.n : Int) + 1))
                      have hlo := HL.out.2.2.2.2.1
                      exact ⟨i + 1, ⟨upd st.F st.n (c.toNat : Int), st.n + 1, st.dp, st.tr, st.dot, true⟩, r, by go_num, rfl, rfl, by omega, ⟨HM.out.2.symm, hlen, hsc, hok, by show -((i + 1 : Nat) : Int) ≤ st.dp; omega, hdp1, upd g st.n (c.toNat : Int), hD2, hup, hB2⟩⟩
                    case measure => exact Nat.lt_succ_self _
                · by_cases z1 : c.toNat = 48
                  · have HZ := Aside0.mk (And.intro hz (And.intro h8 z1))
                    have z3 : ((st.n : Int) == 0) = false := beq_eq_false_iff_ne.mpr (by omega)
                    clear hz hdi
                    go_wp2_with fail
                    go_roundg k1
                    case rel =>
                      have hdig : isD c = true := decide_eq_true HE.out.2
                      have hsd : sdig c st = ⟨st.F, st.n, st.dp, st.tr, st.dot, true⟩ := by unfold sdig; rw [if_neg HZ.out.1, if_neg HZ.out.2.1, if_pos HZ.out.2.2]
                      have hok := sdig_ok hdig HL.out.2.2.2.1
                      have hlen : r.length = k1 := by have := HL.out.2.1; rw [HM.out.1] at this; simpa using this
                      have hsc : sscan r (sdig c st) = sscan L ss0 := by rw [← HL.out.2.2.1, HM.out.1, sscan_cons, if_neg HE.out.1, if_pos hdig]
                      rw [hsd] at hok hsc
                      have hlo := HL.out.2.2.2.2.1
                      exact ⟨i + 1, ⟨st.F, st.n, st.dp, st.tr, st.dot, true⟩, r, by go_num, rfl, rfl, by omega, ⟨HM.out.2.symm, hlen, hsc, hok, by show -((i + 1 : Nat) : Int) ≤ st.dp; omega, hdp1, g, HG.out.1, HG.out.2.1, HG.out.2.2⟩⟩
                    case measure => exact Nat.lt_succ_self _
                  · have HZ := Aside0.mk (And.intro hz (And.intro h8 z1))
                    have q48 : ((c.toNat : Int) == 48) = false := beq_eq_false_iff_ne.mpr (by omega)
                    clear hz hdi
                    go_wp2_with fail
                    go_roundg k1
                    case rel =>
                      have hdig : isD c = true := decide_eq_true HE.out.2
                      have hsd : sdig c st = ⟨st.F, st.n, st.dp, true, st.dot, true⟩ := by unfold sdig; rw [if_neg HZ.out.1, if_neg HZ.out.2.1, if_neg HZ.out.2.2]
                      have hok := sdig_ok hdig HL.out.2.2.2.1
                      have hlen : r.length = k1 := by have := HL.out.2.1; rw [HM.out.1] at this; simpa using this
                      have hsc : sscan r (sdig c st) = sscan L ss0 := by rw [← HL.out.2.2.1, HM.out.1, sscan_cons, if_neg HE.out.1, if_pos hdig]
                      rw [hsd] at hok hsc
                      have hlo := HL.out.2.2.2.2.1
                      exact ⟨i + 1, ⟨st.F, st.n, st.dp, true, st.dot, true⟩, r, by go_num, rfl, rfl, by omega, ⟨HM.out.2.symm, hlen, hsc, hok, by show -((i + 1 : Nat) : Int) ≤ st.dp; omega, hdp1, g, HG.out.1.setTr true, HG.out.2.1, HG.out.2.2.setCell (p := ⟨p, 803, none⟩) (Nat.le_refl p) _⟩⟩
                    case measure => exact Nat.lt_succ_self _
            · have hdig : isD c = false := decide_eq_false hdg
              have HE := Aside0.mk (And.intro h46 hdig)
              have hsp : c.toNat < 48 ∨ 57 < c.toNat := by omega
              clear hdg hdig hdi
              rcases hsp with hsp | hsp
              · go_wp2_with fail
                go_meet
                case rel =>
                  refine ⟨i, st, c :: r, rfl, rfl, rfl, by omega, ⟨by rw [HL.out.1, HM.out.1], ?_, HL.out.2.2.2.1, hdp0, by omega, g, HG.out⟩⟩
                  rw [← HL.out.2.2.1, HM.out.1, sscan_cons, if_neg HE.out.1, if_neg (by rw [HE.out.2]; decide)]
              · go_wp2_with fail
                go_meet
                case rel =>
                  refine ⟨i, st, c :: r, rfl, rfl, rfl, by omega, ⟨by rw [HL.out.1, HM.out.1], ?_, HL.out.2.2.2.1, hdp0, by omega, g, HG.out⟩⟩
                  rw [← HL.out.2.2.1, HM.out.1, sscan_cons, if_neg HE.out.1, if_neg (by rw [HE.out.2]; decide)]
    case rest =>
      obtain ⟨i, st, M, rfl, rfl, rfl, hi, HL⟩ := hcut
      refine ‹∀ (a : Act) (w1 : World), Code.wp _ _ _ a w1 → _› _ _ ?_
      exact set_rest p s hsz L ng HU w wc i st M hi HL _ rfl rfl rfl rfl rfl rfl rfl
end Go.Proofs.YtlkbhmmelejmjaaDoor.FltSet
