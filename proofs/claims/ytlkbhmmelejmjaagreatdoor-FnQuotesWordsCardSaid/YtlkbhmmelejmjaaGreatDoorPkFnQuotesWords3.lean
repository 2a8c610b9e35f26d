/- Parts of the proof of FnQuotesWords, one behind the other: FltSetB, FltReadA, FltReadB, FltReadC, FltReadD. Each part says ahead of itself what it proves. -/
import Derived.Test.YtlkbhmmelejmjaaGreatDoorPkFnQuotesWords2
import Derived.BigRegion
import Derived.StillTailTactics

/- The decimal of the slow road: decimal.set, walked. -/
namespace Go.Proofs.YtlkbhmmelejmjaaGreatDoor.FltSetB
open Go.RowKit Go.Proofs.YtlkbhmmelejmjaaGreatDoorW.PrintWords Go.Proofs.YtlkbhmmelejmjaaGreatDoor.NumKnown Go.Proofs.YtlkbhmmelejmjaaGreatDoor.NumPure Go.Proofs.YtlkbhmmelejmjaaGreatDoor.FltDec Go.Proofs.YtlkbhmmelejmjaaGreatDoor.FltPure Go.Proofs.YtlkbhmmelejmjaaGreatDoor.FltLeft Go.Proofs.YtlkbhmmelejmjaaGreatDoor.FltRight Go.Proofs.YtlkbhmmelejmjaaGreatDoor.FltLaw Go.Proofs.YtlkbhmmelejmjaaGreatDoor.FltState Go.Proofs.YtlkbhmmelejmjaaGreatDoor.FltTextP
set_option linter.unusedVariables false
set_option linter.unusedSimpArgs false

def LowP (l : Int) (w : World) (e : Ending) (w' : World) : Prop := e = .returned (.int .u8 l) ∧ w = w'
theorem low_walk (c : UInt8) (w : World) : Calls Tryz.prog 123 #[.int .u8 (c.toNat : Int)] w (LowP (low c) w) := by
  go_enter Tryz.func123, Tryz.ntmps123
  go_wp2
  go_ret
  exact ⟨rfl, rfl⟩
theorem below_drew {B : Nat} {a w : World} (h : Below B a w) : Below B a w.drew := ⟨h.os, h.tape, h.output, h.size, h.block⟩
def SetP (p : Nat) (L : List UInt8) (ng : Bool) (w : World) (e : Ending) (w' : World) : Prop := e = .returned (.bool (setF L).isSome) ∧ Below p w w' ∧ ∀ t, setF L = some t → t.At p ng w'

/-- What is behind n statements of a sequence. -/
def after : Nat → Code → Code
  | 0, c => c
  | n + 1, .seq _ b => after n b
  | _, c => c
set_option maxRecDepth 100000 in
theorem frame224 (t : Array Value) (h : t.size = 224) : ∃ u : Nat → Value, t = #[u 0, u 1, u 2, u 3, u 4, u 5, u 6, u 7, u 8, u 9, u 10, u 11, u 12, u 13, u 14, u 15, u 16, u 17, u 18, u 19, u 20, u 21, u 22, u 23, u 24, u 25, u 26, u 27, u 28, u 29, u 30, u 31, u 32, u 33, u 34, u 35, u 36, u 37, u 38, u 39, u 40, u 41, u 42, u 43, u 44, u 45, u 46, u 47, u 48, u 49, u 50, u 51, u 52, u 53, u 54, u 55, u 56, u 57, u 58, u 59, u 60, u 61, u 62, u 63, u 64, u 65, u 66, u 67, u 68, u 69, u 70, u 71, u 72, u 73, u 74, u 75, u 76, u 77, u 78, u 79, u 80, u 81, u 82, u 83, u 84, u 85, u 86, u 87, u 88, u 89, u 90, u 91, u 92, u 93, u 94, u 95, u 96, u 97, u 98, u 99, u 100, u 101, u 102, u 103, u 104, u 105, u 106, u 107, u 108, u 109, u 110, u 111, u 112, u 113, u 114, u 115, u 116, u 117, u 118, u 119, u 120, u 121, u 122, u 123, u 124, u 125, u 126, u 127, u 128, u 129, u 130, u 131, u 132, u 133, u 134, u 135, u 136, u 137, u 138, u 139, u 140, u 141, u 142, u 143, u 144, u 145, u 146, u 147, u 148, u 149, u 150, u 151, u 152, u 153, u 154, u 155, u 156, u 157, u 158, u 159, u 160, u 161, u 162, u 163, u 164, u 165, u 166, u 167, u 168, u 169, u 170, u 171, u 172, u 173, u 174, u 175, u 176, u 177, u 178, u 179, u 180, u 181, u 182, u 183, u 184, u 185, u 186, u 187, u 188, u 189, u 190, u 191, u 192, u 193, u 194, u 195, u 196, u 197, u 198, u 199, u 200, u 201, u 202, u 203, u 204, u 205, u 206, u 207, u 208, u 209, u 210, u 211, u 212, u 213, u 214, u 215, u 216, u 217, u 218, u 219, u 220, u 221, u 222, u 223] := by
  refine ⟨fun i => t.getD i undef, ?_⟩
  have e : t = ((List.range 224).map fun i => t.getD i undef).toArray := by
    apply Array.ext
    · simp [h]
    · intro i h1 h2
      simp [Array.getD, h1]
  exact e

set_option maxHeartbeats 16000000 in
set_option maxRecDepth 100000 in
theorem set_rest (p : Nat) (s : ByteArray) (hsz : s.size ≤ 2200000000) (L : List UInt8) (ng : Bool) (HU : Aside0 (∀ i (h : i < s.size), s[i].toNat ≠ 95)) (w wc : World) (i : Nat) (st : SS) (M : List UInt8) (hi : i ≤ s.size) (HL : Aside0 (s.data.toList.drop i = M ∧ sscan L ss0 = (st, M) ∧ st.Ok ∧ -2200000000 ≤ st.dp ∧ st.dp ≤ 1000 ∧ ∃ g, Dec wc p g st.n st.dp ng st.tr ∧ (∀ j, j < st.n → g j = st.F j) ∧ Below p w wc))
    (t : Array Value) (hz : t.size = 224) (t0 : t[0]? = some (.pointer (some ⟨p, 0, none⟩))) (t1 : t[1]? = some (.string s)) (t4 : t[4]? = some (.bool false)) (t5 : t[5]? = some (.int .i64 (i : Int))) (t6 : t[6]? = some (.bool st.dot)) (t7 : t[7]? = some (.bool st.dig)) :
    (after 9 (Tryz.f132.body.getD .skip)).wp Tryz.prog (bodyPost Tryz.prog Tryz.f132 (SetP p L ng w)) { tmps := t, defers := [] } wc := by
  obtain ⟨u, rfl⟩ := frame224 t hz
  have e0 : u 0 = .pointer (some ⟨p, 0, none⟩) := Option.some.inj t0
  have e1 : u 1 = .string s := Option.some.inj t1
  have e4 : u 4 = .bool false := Option.some.inj t4
  have e5 : u 5 = .int .i64 (i : Int) := Option.some.inj t5
  have e6 : u 6 = .bool st.dot := Option.some.inj t6
  have e7 : u 7 = .bool st.dig := Option.some.inj t7
  rw [e0, e1, e4, e5, e6, e7]
  clear t0 t1 t4 t5 t6 t7 e0 e1 e4 e5 e6 e7 hz
  have hL : s.data.toList.length = s.size := (Lib.size_eq s).symm
  conv =>
    arg 2
    simp only [Tryz.f132, after, Option.getD]
  have hLL := hL
  cases hdg : st.dig with
  | false =>
    have hN : setF L = none := by
      unfold setF
      rw [HL.out.2.1, if_neg (by show ¬ st.dig = true; rw [hdg]; decide)]
    replace hN := Aside0.mk hN
    have HG := Aside0.mk hdg
    go_wp2_with fail
    go_ret
    obtain ⟨g, q1, q2, q3⟩ := HL.out.2.2.2.2.2
    exact ⟨by rw [hN.out]; rfl, q3, fun t h => by rw [hN.out] at h; cases h⟩
  | true =>
    have hF : setF L = sexp st M := by
      unfold setF
      rw [HL.out.2.1, if_pos (by show st.dig = true; exact hdg)]
    replace hF := Aside0.mk hF
    have HD := Aside0.mk hdg
    obtain ⟨g, hG, hg2, hg3⟩ := HL.out.2.2.2.2.2
    have hnd := hG.nd
    have hdp := hG.dp
    have hfz := hG.fz
    have HG := Aside0.mk (And.intro hG (And.intro hg2 hg3))
    clear hG hg2 hg3
    go_upto_if 120 with (fail)
    go_cut [5, 6] (fun v5 v6 wd => v5 = .int .i64 i ∧ v6 = .bool st.dot ∧ Aside0 (Dec wd p g st.n (sdp st) ng st.tr ∧ Below p w wd))
    case first =>
      cases hdot : st.dot with
      | true =>
        have HO := Aside0.mk hdot
        go_wp2_with fail
        go_meet
        case rel => exact ⟨rfl, by rw [HO.out], ⟨by unfold sdp; rw [if_pos HO.out]; exact HG.out.1, HG.out.2.2⟩⟩
      | false =>
        have HO := Aside0.mk hdot
        go_wp2_with fail
        go_meet
        case rel => exact ⟨rfl, by rw [HO.out], ⟨by unfold sdp; rw [if_neg (by rw [HO.out]; decide)]; exact HG.out.1.setDp _, HG.out.2.2.setCell (p := ⟨p, 801, none⟩) (Nat.le_refl p) _⟩⟩
    case rest =>
      obtain ⟨rfl, rfl, HW⟩ := hcut
      clear hnd hdp hfz
      have hsd : -2200000000 ≤ sdp st ∧ sdp st ≤ 1000 := by
        have := HL.out.2.2.2.1
        have := HL.out.2.2.2.2.1
        have := HL.out.2.2.1.most
        unfold sdp
        split <;> omega
      obtain ⟨hd0, hd1⟩ := hsd
      have hgg := HG.out.2.1
      replace hgg := Aside0.mk hgg
      generalize hq : sdp st = dp at hd0 hd1 HW
      have HQ := Aside0.mk hq
      clear hq
      have hM0 : M = [] ∨ ∃ c r, M = c :: r := by cases M with | nil => exact .inl rfl | cons a b => exact .inr ⟨a, b, rfl⟩
      rcases hM0 with hM | ⟨c, r, hM⟩
      · have hi' : i = s.size := by
          have h := HL.out.1
          rw [hM] at h
          have := congrArg List.length h
          simp at this
          omega
        subst hi'
        have HM := Aside0.mk hM
        go_wp2_with fail
        go_ret
        have e : setF L = some ⟨st.F, st.n, dp, st.tr⟩ := by rw [hF.out, HM.out, ← HQ.out]; rfl
        refine ⟨by rw [e]; rfl, HW.out.2, fun t h => ?_⟩
        rw [e] at h
        injection h with h
        subst h
        exact ⟨g, HW.out.1, hgg.out⟩
      · have hlt : i < s.size := by
          have h := HL.out.1
          rw [hM] at h
          have := congrArg List.length h
          simp at this
          omega
        have hdc := drop_cons (l := s.data.toList) (i := i) (by omega)
        have hce : s.data.toList[i]'(by omega) = s[i] := rfl
        rw [HL.out.1, hM, hce] at hdc
        injection hdc with hd2 hd3
        have hcs : s[i] = c := hd2.symm
        have HM := Aside0.mk (And.intro hM hd3)
        clear hd2 hd3 hce hM
        obtain ⟨lc, hlc⟩ : ∃ lc, lc = low c := ⟨_, rfl⟩
        have C := Aside0.mk (low_walk c)
        rw [← hlc] at C
        by_cases h101 : lc = 101
        · subst h101
          replace hlc := Aside0.mk hlc
          have hF2 : setF L = sE st (expo r) := by rw [hF.out, HM.out.1, sexp_cons, if_pos hlc.out.symm]
          replace hF2 := Aside0.mk hF2
          have hR0 : r = [] ∨ ∃ c1 r1, r = c1 :: r1 := by cases r with | nil => exact .inl rfl | cons a b => exact .inr ⟨a, b, rfl⟩
          rcases hR0 with hR | ⟨c1, r1, hR⟩
          · have hi' : i + 1 = s.size := by
              have h := HM.out.2
              rw [hR] at h
              have := congrArg List.length h
              simp at this
              omega
            have hge : ((s.size : Int)) ≤ (i : Int) + 1 := by omega
            have hN : setF L = none := by rw [hF2.out, hR]; rfl
            replace hN := Aside0.mk hN
            have HI := Aside0.mk hi'
            clear hR hi'
            go_wp2_with (first | (go_at_call 123; refine (C.out _).mono ?_; rintro e w' ⟨rfl, rfl⟩))
            go_ret
            exact ⟨by rw [hN.out]; rfl, HW.out.2, fun t h => by rw [hN.out] at h; cases h⟩
          · have hlt1 : i + 1 < s.size := by
              have h := HM.out.2
              rw [hR] at h
              have := congrArg List.length h
              simp at this
              omega
            have hdc := drop_cons (l := s.data.toList) (i := i + 1) (by omega)
            have hce : s.data.toList[i + 1]'(by omega) = s[i + 1] := rfl
            rw [← HM.out.2, hR, hce] at hdc
            injection hdc with hd2 hd3
            have hcs1 : s[i + 1] = c1 := hd2.symm
            have HR := Aside0.mk (And.intro hR hd3)
            have hlt1i : (i : Int) + 1 < (s.size : Int) := by omega
            clear hd2 hd3 hce hR
            go_upto_block 4 with (first | (go_at_call 123; refine (C.out _).mono ?_; rintro e w' ⟨rfl, rfl⟩))
            go_cut [5, 8] (fun v5 v8 we => ∃ (i2 : Nat) (gs : Int), v5 = .int .i64 i2 ∧ v8 = .int .i64 gs ∧ i2 ≤ s.size ∧ (gs = 1 ∨ gs = -1) ∧ Aside0 (expo r = eval gs (s.data.toList.drop i2)) ∧ we = wc)
            case first =>
              by_cases h43 : c1.toNat = 43
              · have HE := Aside0.mk h43
                go_wp2_with fail
                go_meet
                case rel =>
                  refine ⟨i + 1 + 1, 1, by go_num, rfl, by omega, .inl rfl, ⟨?_⟩, rfl⟩
                  rw [HR.out.1, expo_cons, if_pos HE.out, ← HR.out.2]
              · have q43 : ((c1.toNat : Int) == 43) = false := beq_eq_false_iff_ne.mpr (by omega)
                by_cases h45 : c1.toNat = 45
                · have HE := Aside0.mk (And.intro h43 h45)
                  go_wp2_with fail
                  go_meet
                  case rel =>
                    refine ⟨i + 1 + 1, -1, by go_num, rfl, by omega, .inr rfl, ⟨?_⟩, rfl⟩
                    rw [HR.out.1, expo_cons, if_neg HE.out.1, if_pos HE.out.2, ← HR.out.2]
                · have q45 : ((c1.toNat : Int) == 45) = false := beq_eq_false_iff_ne.mpr (by omega)
                  have HE := Aside0.mk (And.intro h43 h45)
                  go_wp2_with fail
                  go_meet
                  case rel =>
                    refine ⟨i + 1, 1, by go_num, rfl, by omega, .inl rfl, ⟨?_⟩, rfl⟩
                    rw [HR.out.1, expo_cons, if_neg HE.out.1, if_neg HE.out.2, ← HR.out.1, HM.out.2]
            case rest =>
              obtain ⟨i2, gs, rfl, rfl, hi2, hgs, HX, rfl⟩ := hcut
              clear hcs hcs1 hlt hlt1 hlt1i
              have hL20 : s.data.toList.drop i2 = [] ∨ ∃ c2 r2, s.data.toList.drop i2 = c2 :: r2 := by cases s.data.toList.drop i2 with | nil => exact .inl rfl | cons a b => exact .inr ⟨a, b, rfl⟩
              rcases hL20 with hL2 | ⟨c2, r2, hL2⟩
              · have hi' : i2 = s.size := by
                  have := congrArg List.length hL2
                  simp at this
                  omega
                subst hi'
                have hN : setF L = none := by rw [hF2.out, HX.out, hL2]; rfl
                replace hN := Aside0.mk hN
                clear hL2
                go_wp2_with fail
                go_ret
                exact ⟨by rw [hN.out]; rfl, HW.out.2, fun t h => by rw [hN.out] at h; cases h⟩
              · have hlt2 : i2 < s.size := by
                  have := congrArg List.length hL2
                  simp at this
                  omega
                have hdc := drop_cons (l := s.data.toList) (i := i2) (by omega)
                have hce : s.data.toList[i2]'(by omega) = s[i2] := rfl
                rw [hL2, hce] at hdc
                injection hdc with hd2 hd3
                have hcs2 : s[i2] = c2 := hd2.symm
                have hX2 := HX.out
                rw [hL2, eval_cons] at hX2
                have H2 := Aside0.mk (And.intro hL2 hd3)
                clear hd2 hd3 hce hL2
                by_cases hdg2 : 48 ≤ c2.toNat ∧ c2.toNat ≤ 57
                · obtain ⟨d0, d1⟩ := hdg2
                  have hid : isD c2 = true := decide_eq_true ⟨d0, d1⟩
                  rw [if_pos hid] at hX2
                  replace hX2 := Aside0.mk hX2
                  clear hid
                  have hb1 : decide (s.size ≤ i2) = false := decide_eq_false (by omega)
                  have hb2 : decide ((c2.toNat : Int) < 48) = false := decide_eq_false (by omega)
                  have hb3 : decide (57 < (c2.toNat : Int)) = false := decide_eq_false (by omega)
                  go_upto_block 5 with (fail)
                  go_cut [5, 9] from 172 to 209 (fun v5 v9 wd => ∃ (i3 : Nat) (e : Int), v5 = .int .i64 i3 ∧ v9 = .int .i64 e ∧ i3 ≤ s.size ∧ 0 ≤ e ∧ e ≤ 99999 ∧ Aside0 (escan (c2 :: r2) 0 = (e, s.data.toList.drop i3)) ∧ wd = wc)
                  case first =>
                    go_wp2_with fail
                    go_loopg [5, 9] (s.size - i2) (fun kq v5 v9 wx => ∃ (i3 : Nat) (e : Int), v5 = .int .i64 i3 ∧ v9 = .int .i64 e ∧ i3 + kq = s.size ∧ 0 ≤ e ∧ e ≤ 99999 ∧ Aside0 (escan (s.data.toList.drop i3) e = escan (c2 :: r2) 0) ∧ wx = wc)
                    case atStart => exact ⟨i2, 0, rfl, rfl, by omega, by omega, by omega, ⟨by rw [H2.out.1]⟩, rfl⟩
                    case round =>
                      clear hcs2 d0 d1 hlt2 C
                      obtain ⟨i3, e, rfl, rfl, hi3, he0, he1, HE, rfl⟩ := hrel
                      cases gk with
                      | zero =>
                        obtain rfl : i3 = s.size := by omega
                        go_wp2_with fail
                        go_meet
                        case rel =>
                          refine ⟨s.size, e, rfl, rfl, by omega, he0, he1, ⟨?_⟩, rfl⟩
                          have hn : s.data.toList.drop s.size = [] := List.drop_eq_nil_of_le (by omega)
                          rw [← HE.out, hn]; rfl
                      | succ k1 =>
                        have hlt3 : i3 < s.size := by omega
                        obtain ⟨c3, hc3⟩ : ∃ c3, c3 = s[i3] := ⟨_, rfl⟩
                        have hdc : s.data.toList.drop i3 = c3 :: s.data.toList.drop (i3 + 1) := by rw [hc3]; exact drop_cons (l := s.data.toList) (i := i3) (by omega)
                        have hcs3 : s[i3] = c3 := hc3.symm
                        have q95 : ((c3.toNat : Int) == 95) = false := beq_eq_false_iff_ne.mpr (by have := HU.out i3 hlt3; rw [hcs3] at this; omega)
                        have HC3 := Aside0.mk hdc
                        clear hdc hc3
                        by_cases hdg3 : 48 ≤ c3.toNat ∧ c3.toNat ≤ 57
                        · have hid : isD c3 = true := decide_eq_true hdg3
                          obtain ⟨d0, d1⟩ := hdg3
                          replace hid := Aside0.mk hid
                          by_cases h4 : e < 10000
                          · have H4 := Aside0.mk h4
                            go_wp2_with fail
                            go_roundg k1
                            case rel =>
                              refine ⟨i3 + 1, e * 10 + (c3.toNat : Int) - 48, by go_num, by first | rfl | go_num, by omega, by omega, by omega, ⟨?_⟩, rfl⟩
                              rw [← HE.out, HC3.out, escan_cons, if_pos hid.out, if_pos H4.out]
                            case measure => exact Nat.lt_succ_self _
                          · have H4 := Aside0.mk h4
                            go_wp2_with fail
                            go_roundg k1
                            case rel =>
                              refine ⟨i3 + 1, e, by go_num, rfl, by omega, by omega, by omega, ⟨?_⟩, rfl⟩
                              rw [← HE.out, HC3.out, escan_cons, if_pos hid.out, if_neg (by have := H4.out; omega)]
                            case measure => exact Nat.lt_succ_self _
                        · have hid : isD c3 = false := decide_eq_false hdg3
                          replace hid := Aside0.mk hid
                          have hsp : c3.toNat < 48 ∨ 57 < c3.toNat := by omega
                          clear hdg3
                          rcases hsp with hsp | hsp
                          · go_wp2_with fail
                            go_meet
                            case rel =>
                              refine ⟨i3, e, rfl, rfl, by omega, he0, he1, ⟨?_⟩, rfl⟩
                              rw [← HE.out, HC3.out, escan_cons, if_neg (by rw [hid.out]; decide)]
                          · go_wp2_with fail
                            go_meet
                            case rel =>
                              refine ⟨i3, e, rfl, rfl, by omega, he0, he1, ⟨?_⟩, rfl⟩
                              rw [← HE.out, HC3.out, escan_cons, if_neg (by rw [hid.out]; decide)]
                  case rest =>
                    obtain ⟨i3, e, rfl, rfl, hi3, he0, he1, HE, rfl⟩ := hcut
                    clear hcs2 d0 d1 hlt2 C
                    have hdpc := HW.out.1.dp
                    have hfz := HW.out.1.fz
                    have hrs : setF L = sfin st (e * gs) (s.data.toList.drop i3) := by rw [hF2.out, hX2.out, HE.out]; rfl
                    obtain ⟨y, hy⟩ : ∃ y, y = e * gs := ⟨_, rfl⟩
                    rw [← hy] at hrs
                    have hyb : -99999 ≤ y ∧ y ≤ 99999 := by
                      rcases hgs with h | h
                      · rw [h] at hy; omega
                      · rw [h] at hy; omega
                    obtain ⟨hy0, hy1⟩ := hyb
                    have a1 : wrap64 (e * gs) = y := by rw [hy]; unfold wrap64; omega
                    have HGS := Aside0.mk hy
                    clear hgs hy
                    by_cases hend : i3 = s.size
                    · have hn : s.data.toList.drop i3 = [] := List.drop_eq_nil_of_le (by omega)
                      have hr2 : setF L = some ⟨st.F, st.n, dp + y, st.tr⟩ := by rw [hrs, hn, ← HQ.out]; rfl
                      replace hr2 := Aside0.mk hr2
                      clear hrs hn
                      subst hend
                      go_wp2_with fail
                      go_ret
                      refine ⟨by rw [hr2.out]; rfl, HW.out.2.setCell (p := ⟨p, 801, none⟩) (Nat.le_refl p) _, fun t h => ?_⟩
                      rw [hr2.out] at h
                      injection h with h
                      subst h
                      exact ⟨g, HW.out.1.setDp _, hgg.out⟩
                    · have hn : ∃ a b, s.data.toList.drop i3 = a :: b := ⟨_, _, drop_cons (l := s.data.toList) (i := i3) (by omega)⟩
                      have hr2 : setF L = none := by
                        obtain ⟨a, b, hab⟩ := hn
                        rw [hrs, hab]; rfl
                      replace hr2 := Aside0.mk hr2
                      have hne3 : ((i3 : Int) != (s.size : Int)) = true := bne_iff_ne.mpr (by omega)
                      clear hrs hn hend
                      go_wp2_with fail
                      go_ret
                      exact ⟨by rw [hr2.out]; rfl, HW.out.2.setCell (p := ⟨p, 801, none⟩) (Nat.le_refl p) _, fun t h => by rw [hr2.out] at h; cases h⟩
                · have hid : isD c2 = false := decide_eq_false hdg2
                  have hN : setF L = none := by rw [hF2.out, hX2, if_neg (by rw [hid]; decide)]; rfl
                  replace hN := Aside0.mk hN
                  have hsp : c2.toNat < 48 ∨ 57 < c2.toNat := by omega
                  clear hX2 hid hdg2
                  rcases hsp with hsp | hsp
                  · go_wp2_with fail
                    go_ret
                    exact ⟨by rw [hN.out]; rfl, HW.out.2, fun t h => by rw [hN.out] at h; cases h⟩
                  · go_wp2_with fail
                    go_ret
                    exact ⟨by rw [hN.out]; rfl, HW.out.2, fun t h => by rw [hN.out] at h; cases h⟩
        · have q101 : (lc == 101) = false := beq_eq_false_iff_ne.mpr h101
          have HE := Aside0.mk (And.intro hlc h101)
          have hni : ((i : Int) != (s.size : Int)) = true := bne_iff_ne.mpr (by omega)
          have hN : setF L = none := by rw [hF.out, HM.out.1, sexp_cons, if_neg (by rw [← hlc]; exact h101)]
          replace hN := Aside0.mk hN
          clear hlc h101
          go_wp2_with (first | (go_at_call 123; refine (C.out _).mono ?_; rintro e w' ⟨rfl, rfl⟩))
          go_ret
          exact ⟨by rw [hN.out]; rfl, HW.out.2, fun t h => by rw [hN.out] at h; cases h⟩
end Go.Proofs.YtlkbhmmelejmjaaGreatDoor.FltSetB

/- readFloat, walked: what is behind its digits. -/
namespace Go.Proofs.YtlkbhmmelejmjaaGreatDoor.FltReadA
open Go.RowKit Go.Proofs.YtlkbhmmelejmjaaGreatDoorW.PrintWords Go.Proofs.YtlkbhmmelejmjaaGreatDoor.NumKnown Go.Proofs.YtlkbhmmelejmjaaGreatDoor.NumPure Go.Proofs.YtlkbhmmelejmjaaGreatDoor.FltDec Go.Proofs.YtlkbhmmelejmjaaGreatDoor.FltPure Go.Proofs.YtlkbhmmelejmjaaGreatDoor.FltLeft Go.Proofs.YtlkbhmmelejmjaaGreatDoor.FltRight Go.Proofs.YtlkbhmmelejmjaaGreatDoor.FltLaw Go.Proofs.YtlkbhmmelejmjaaGreatDoor.FltState Go.Proofs.YtlkbhmmelejmjaaGreatDoor.FltTextP Go.Proofs.YtlkbhmmelejmjaaGreatDoor.FltSetB
set_option linter.unusedVariables false
set_option linter.unusedSimpArgs false

def inner : Code → Code
  | .scope c => c
  | c => c
/-- What readFloat gives: the number read, or nothing. -/
def RdP (s : ByteArray) (L : List UInt8) (ng : Bool) (w : World) (e : Ending) (w' : World) : Prop := w' = w ∧
  ((∃ (m x i : Int) (n t h : Bool), readF L = none ∧ e = .returned (.tuple #[.int .u64 m, .int .i64 x, .bool n, .bool t, .bool h, .int .i64 i, .bool false])) ∨
   (∃ (r : RR) (i : Nat), readF L = some r ∧ s.data.toList.drop i = r.rest ∧ i ≤ s.size ∧ e = .returned (.tuple #[.int .u64 r.man, .int .i64 r.exp, .bool ng, .bool r.tr, .bool r.hx, .int .i64 (i : Int), .bool true])))
theorem results_tmp7 {fn : Func} {a b c d e f g : Tmp} (h : fn.results = #[.tmp a, .tmp b, .tmp c, .tmp d, .tmp e, .tmp f, .tmp g]) (tmps : Array Value) (P : Program) (w : World) :
    (results fn tmps).run P w = .ok (.tuple #[tmps.getD a undef, tmps.getD b undef, tmps.getD c undef, tmps.getD d undef, tmps.getD e undef, tmps.getD f undef, tmps.getD g undef]) w := by
  simp [results, h]
set_option maxRecDepth 100000 in
theorem frame253 (t : Array Value) (h : t.size = 253) : ∃ u : Nat → Value, t = #[u 0, u 1, u 2, u 3, u 4, u 5, u 6, u 7, u 8, u 9, u 10, u 11, u 12, u 13, u 14, u 15, u 16, u 17, u 18, u 19, u 20, u 21, u 22, u 23, u 24, u 25, u 26, u 27, u 28, u 29, u 30, u 31, u 32, u 33, u 34, u 35, u 36, u 37, u 38, u 39, u 40, u 41, u 42, u 43, u 44, u 45, u 46, u 47, u 48, u 49, u 50, u 51, u 52, u 53, u 54, u 55, u 56, u 57, u 58, u 59, u 60, u 61, u 62, u 63, u 64, u 65, u 66, u 67, u 68, u 69, u 70, u 71, u 72, u 73, u 74, u 75, u 76, u 77, u 78, u 79, u 80, u 81, u 82, u 83, u 84, u 85, u 86, u 87, u 88, u 89, u 90, u 91, u 92, u 93, u 94, u 95, u 96, u 97, u 98, u 99, u 100, u 101, u 102, u 103, u 104, u 105, u 106, u 107, u 108, u 109, u 110, u 111, u 112, u 113, u 114, u 115, u 116, u 117, u 118, u 119, u 120, u 121, u 122, u 123, u 124, u 125, u 126, u 127, u 128, u 129, u 130, u 131, u 132, u 133, u 134, u 135, u 136, u 137, u 138, u 139, u 140, u 141, u 142, u 143, u 144, u 145, u 146, u 147, u 148, u 149, u 150, u 151, u 152, u 153, u 154, u 155, u 156, u 157, u 158, u 159, u 160, u 161, u 162, u 163, u 164, u 165, u 166, u 167, u 168, u 169, u 170, u 171, u 172, u 173, u 174, u 175, u 176, u 177, u 178, u 179, u 180, u 181, u 182, u 183, u 184, u 185, u 186, u 187, u 188, u 189, u 190, u 191, u 192, u 193, u 194, u 195, u 196, u 197, u 198, u 199, u 200, u 201, u 202, u 203, u 204, u 205, u 206, u 207, u 208, u 209, u 210, u 211, u 212, u 213, u 214, u 215, u 216, u 217, u 218, u 219, u 220, u 221, u 222, u 223, u 224, u 225, u 226, u 227, u 228, u 229, u 230, u 231, u 232, u 233, u 234, u 235, u 236, u 237, u 238, u 239, u 240, u 241, u 242, u 243, u 244, u 245, u 246, u 247, u 248, u 249, u 250, u 251, u 252] := by
  refine ⟨fun i => t.getD i undef, ?_⟩
  have e : t = ((List.range 253).map fun i => t.getD i undef).toArray := by
    apply Array.ext
    · simp [h]
    · intro i h1 h2
      simp [Array.getD, h1]
  exact e

theorem rfin_exp0 {b : Int} {st : RS} {x : Int} {rest : List UInt8} (h : (st.man != 0) = false) : (rfin b st x rest).exp = 0 := by
  have : st.man = 0 := by simpa using h
  unfold rfin
  rw [if_pos this]
theorem rfin_exp1 {b : Int} {st : RS} {x dp nm : Int} {rest : List UInt8} (h : (st.man != 0) = true) (hq : nm = rnm b st ∧ dp = rdp b st) : (rfin b st x rest).exp = dp + x - nm := by
  have : ¬ st.man = 0 := by simpa using h
  unfold rfin
  rw [if_neg this, hq.1, hq.2]
theorem rfin_hx {b : Int} {st : RS} {x : Int} {rest : List UInt8} {hx : Bool} (h : hx = decide (b = 16)) : (rfin b st x rest).hx = hx := h.symm

def headOf : Code → Code
  | .seq a _ => a
  | c => c
def thenOf : Code → Code
  | .seq _ (.cond _ a _) => a
  | .cond _ a _ => a
  | c => c
set_option maxHeartbeats 16000000 in
set_option maxRecDepth 100000 in
theorem read_end (s : ByteArray) (L : List UInt8) (ng : Bool) (w : World) (r : RR) (i : Nat) (dp nm : Int) (hi : i ≤ s.size) (hr : readF L = some r) (hrest : s.data.toList.drop i = r.rest) (hexp : r.exp = if r.man = 0 then 0 else dp - nm) (hm0 : 0 ≤ nm) (hm1 : nm ≤ 100) (hd0 : -9500000000 ≤ dp) (hd1 : dp ≤ 9500000000)
    (t : Array Value) (hz : t.size = 253) (t0 : t[0]? = some (.string s)) (t2 : t[2]? = some (.int .u64 r.man)) (t3 : t[3]? = some (.int .i64 0)) (t4 : t[4]? = some (.bool ng)) (t5 : t[5]? = some (.bool r.tr)) (t6 : t[6]? = some (.bool r.hx)) (t7 : t[7]? = some (.int .i64 (i : Int))) (t8 : t[8]? = some (.bool false)) (t9 : t[9]? = some (.bool false)) (t16 : t[16]? = some (.int .i64 nm)) (t17 : t[17]? = some (.int .i64 dp)) :
    (after 18 (inner (after 1 (Tryz.f126.body.getD .skip)))).wp Tryz.prog (Exit.noGoto (bodyPost Tryz.prog Tryz.f126 (RdP s L ng w))) { tmps := t, defers := [] } w := by
  obtain ⟨u, rfl⟩ := frame253 t hz
  have e0 : u 0 = .string s := Option.some.inj t0
  have e2 : u 2 = .int .u64 r.man := Option.some.inj t2
  have e3 : u 3 = .int .i64 0 := Option.some.inj t3
  have e4 : u 4 = .bool ng := Option.some.inj t4
  have e5 : u 5 = .bool r.tr := Option.some.inj t5
  have e6 : u 6 = .bool r.hx := Option.some.inj t6
  have e7 : u 7 = .int .i64 (i : Int) := Option.some.inj t7
  have e8 : u 8 = .bool false := Option.some.inj t8
  have e9 : u 9 = .bool false := Option.some.inj t9
  have e16 : u 16 = .int .i64 nm := Option.some.inj t16
  have e17 : u 17 = .int .i64 dp := Option.some.inj t17
  rw [e0, e2, e3, e4, e5, e6, e7, e8, e9, e16, e17]
  clear t0 e0 t2 e2 t3 e3 t4 e4 t5 e5 t6 e6 t7 e7 t8 e8 t9 e9 t16 e16 t17 e17 hz
  have HR := Aside0.mk (And.intro hr (And.intro hrest hi))
  have HX := Aside0.mk hexp
  clear hr hrest hexp
  conv =>
    arg 2
    simp only [Tryz.f126, after, inner, Option.getD]
  by_cases hm : r.man = 0
  · have e : r.exp = 0 := by rw [HX.out, if_pos hm]
    replace e := Aside0.mk e
    have HM := Aside0.mk hm
    have q0 : (r.man != 0) = false := by rw [hm]; rfl
    clear hm
    go_wp2_with fail
    refine bodyPost_ret (results_tmp7 rfl _ _ _) rfl ?_
    refine ⟨rfl, .inr ⟨r, i, HR.out.1, HR.out.2.1, HR.out.2.2, ?_⟩⟩
    rw [e.out]; rfl
  · have e : r.exp = dp - nm := by rw [HX.out, if_neg hm]
    replace e := Aside0.mk e
    have HM := Aside0.mk hm
    have q0 : (r.man != 0) = true := bne_iff_ne.mpr hm
    clear hm
    go_wp2_with fail
    refine bodyPost_ret (results_tmp7 rfl _ _ _) rfl ?_
    refine ⟨rfl, .inr ⟨r, i, HR.out.1, HR.out.2.1, HR.out.2.2, ?_⟩⟩
    rw [e.out]; rfl

set_option maxHeartbeats 16000000 in
set_option maxRecDepth 100000 in
theorem read_num (K2 : Act → World → Prop) (s : ByteArray) (hsz : s.size ≤ 2200000000) (L : List UInt8) (ng hx : Bool) (HU : Aside0 (∀ i (h : i < s.size), s[i].toNat ≠ 95)) (w : World) (hK2 : ∀ a w1, (after 18 (inner (after 1 (Tryz.f126.body.getD .skip)))).wp Tryz.prog (Exit.noGoto (bodyPost Tryz.prog Tryz.f126 (RdP s L ng w))) a w1 → K2 a w1) (b : Int) (st : RS) (r : List UInt8) (HBX : Aside0 (hx = decide (b = 16))) (hF2 : Aside0 (readF L = rE b st (expo r))) (nm dp : Int) (hr0 : 0 ≤ nm) (hr1 : nm ≤ 76) (hr2 : -8800000000 ≤ dp) (hr3 : dp ≤ 8800000000) (HQ : Aside0 (nm = rnm b st ∧ dp = rdp b st)) (i2 : Nat) (gs : Int) (hi2 : i2 ≤ s.size) (hgs : gs = 1 ∨ gs = -1) (HX : Aside0 (expo r = eval gs (s.data.toList.drop i2)))
    (t : Array Value) (hz : t.size = 253) (t0 : t[0]? = some (.string s)) (t2 : t[2]? = some (.int .u64 st.man)) (t3 : t[3]? = some (.int .i64 0)) (t4 : t[4]? = some (.bool ng)) (t5 : t[5]? = some (.bool st.tr)) (t6 : t[6]? = some (.bool hx)) (t7 : t[7]? = some (.int .i64 (i2 : Int))) (t8 : t[8]? = some (.bool false)) (t9 : t[9]? = some (.bool false)) (t16 : t[16]? = some (.int .i64 nm)) (t17 : t[17]? = some (.int .i64 dp)) (t19 : t[19]? = some (.int .i64 gs)) :
    (after 4 (thenOf (headOf (after 17 (inner (after 1 (Tryz.f126.body.getD .skip))))))).wp Tryz.prog (Exit.then K2 (Exit.noGoto (bodyPost Tryz.prog Tryz.f126 (RdP s L ng w)))) { tmps := t, defers := [] } w := by
  obtain ⟨u, rfl⟩ := frame253 t hz
  have e0 : u 0 = .string s := Option.some.inj t0
  have e2 : u 2 = .int .u64 st.man := Option.some.inj t2
  have e3 : u 3 = .int .i64 0 := Option.some.inj t3
  have e4 : u 4 = .bool ng := Option.some.inj t4
  have e5 : u 5 = .bool st.tr := Option.some.inj t5
  have e6 : u 6 = .bool hx := Option.some.inj t6
  have e7 : u 7 = .int .i64 (i2 : Int) := Option.some.inj t7
  have e8 : u 8 = .bool false := Option.some.inj t8
  have e9 : u 9 = .bool false := Option.some.inj t9
  have e16 : u 16 = .int .i64 nm := Option.some.inj t16
  have e17 : u 17 = .int .i64 dp := Option.some.inj t17
  have e19 : u 19 = .int .i64 gs := Option.some.inj t19
  rw [e0, e2, e3, e4, e5, e6, e7, e8, e9, e16, e17, e19]
  clear t0 e0 t2 e2 t3 e3 t4 e4 t5 e5 t6 e6 t7 e7 t8 e8 t9 e9 t16 e16 t17 e17 t19 e19 hz
  have hL : s.data.toList.length = s.size := (Lib.size_eq s).symm
  replace hK2 := Aside0.mk hK2
  conv =>
    arg 2
    simp only [Tryz.f126, after, inner, headOf, thenOf, Option.getD]
  have hL20 : s.data.toList.drop i2 = [] ∨ ∃ c2 r2, s.data.toList.drop i2 = c2 :: r2 := by cases s.data.toList.drop i2 with | nil => exact .inl rfl | cons a b => exact .inr ⟨a, b, rfl⟩
  rcases hL20 with hL2 | ⟨c2, r2, hL2⟩
  · have hi' : i2 = s.size := by
      have := congrArg List.length hL2
      simp at this
      omega
    subst hi'
    have hN : readF L = none := by rw [hF2.out, HX.out, hL2]; rfl
    replace hN := Aside0.mk hN
    clear hL2
    go_wp2_with fail
    refine bodyPost_ret (results_tmp7 rfl _ _ _) rfl ?_
    exact ⟨rfl, .inl ⟨_, _, _, _, _, _, hN.out, rfl⟩⟩
  · have hlt2 : i2 < s.size := by
      have := congrArg List.length hL2
      simp at this
      omega
    have hdc := drop_cons (l := s.data.toList) (i := i2) (by omega)
    have hce : s.data.toList[i2]'(by omega) = s[i2] := rfl
    rw [hL2, hce] at hdc
    injection hdc with hd2 hd3
    have hcs2 : s[i2] = c2 := hd2.symm
    have hX2 := HX.out
    rw [hL2, eval_cons] at hX2
    have H2 := Aside0.mk (And.intro hL2 hd3)
    clear hd2 hd3 hce hL2
    by_cases hdg2 : 48 ≤ c2.toNat ∧ c2.toNat ≤ 57
    · obtain ⟨d0, d1⟩ := hdg2
      have hid : isD c2 = true := decide_eq_true ⟨d0, d1⟩
      rw [if_pos hid] at hX2
      replace hX2 := Aside0.mk hX2
      clear hid
      have hb1 : decide (s.size ≤ i2) = false := decide_eq_false (by omega)
      have hb2 : decide ((c2.toNat : Int) < 48) = false := decide_eq_false (by omega)
      have hb3 : decide (57 < (c2.toNat : Int)) = false := decide_eq_false (by omega)
      go_upto_block 5 with (fail)
      go_cut [7, 9, 20] from 195 to 232 (fun v5 vu v9 wd => ∃ (i3 : Nat) (e : Int), v5 = .int .i64 i3 ∧ vu = .bool false ∧ v9 = .int .i64 e ∧ i3 ≤ s.size ∧ 0 ≤ e ∧ e ≤ 99999 ∧ Aside0 (escan (c2 :: r2) 0 = (e, s.data.toList.drop i3)) ∧ w = wd)
      case first =>
        go_wp2_with fail
        go_loopg [7, 9, 20] (s.size - i2) (fun kq v5 vu v9 wx => ∃ (i3 : Nat) (e : Int), v5 = .int .i64 i3 ∧ vu = .bool false ∧ v9 = .int .i64 e ∧ i3 + kq = s.size ∧ 0 ≤ e ∧ e ≤ 99999 ∧ Aside0 (escan (s.data.toList.drop i3) e = escan (c2 :: r2) 0) ∧ w = wx)
        case atStart => exact ⟨i2, 0, rfl, rfl, rfl, by omega, by omega, by omega, ⟨by rw [H2.out.1]⟩, rfl⟩
        case round =>
          clear hcs2 d0 d1 hlt2
          obtain ⟨i3, e, rfl, rfl, rfl, hi3, he0, he1, HE, rfl⟩ := hrel
          cases gk with
          | zero =>
            obtain rfl : i3 = s.size := by omega
            go_wp2_with fail
            go_meet
            case rel =>
              refine ⟨s.size, e, rfl, rfl, rfl, by omega, he0, he1, ⟨?_⟩, rfl⟩
              have hn : s.data.toList.drop s.size = [] := List.drop_eq_nil_of_le (by omega)
              rw [← HE.out, hn]; rfl
          | succ k1 =>
            have hlt3 : i3 < s.size := by omega
            obtain ⟨c3, hc3⟩ : ∃ c3, c3 = s[i3] := ⟨_, rfl⟩
            have hdc : s.data.toList.drop i3 = c3 :: s.data.toList.drop (i3 + 1) := by rw [hc3]; exact drop_cons (l := s.data.toList) (i := i3) (by omega)
            have hcs3 : s[i3] = c3 := hc3.symm
            have q95 : ((c3.toNat : Int) == 95) = false := beq_eq_false_iff_ne.mpr (by have := HU.out i3 hlt3; rw [hcs3] at this; omega)
            have HC3 := Aside0.mk hdc
            clear hdc hc3
            by_cases hdg3 : 48 ≤ c3.toNat ∧ c3.toNat ≤ 57
            · have hid : isD c3 = true := decide_eq_true hdg3
              obtain ⟨d0, d1⟩ := hdg3
              replace hid := Aside0.mk hid
              by_cases h4 : e < 10000
              · have H4 := Aside0.mk h4
                go_wp2_with fail
                go_roundg k1
                case rel =>
                  refine ⟨i3 + 1, e * 10 + (c3.toNat : Int) - 48, by go_num, rfl, by first | rfl | go_num, by omega, by omega, by omega, ⟨?_⟩, rfl⟩
                  rw [← HE.out, HC3.out, escan_cons, if_pos hid.out, if_pos H4.out]
                case measure => exact Nat.lt_succ_self _
              · have H4 := Aside0.mk h4
                go_wp2_with fail
                go_roundg k1
                case rel =>
                  refine ⟨i3 + 1, e, by go_num, rfl, rfl, by omega, by omega, by omega, ⟨?_⟩, rfl⟩
                  rw [← HE.out, HC3.out, escan_cons, if_pos hid.out, if_neg (by have := H4.out; omega)]
                case measure => exact Nat.lt_succ_self _
            · have hid : isD c3 = false := decide_eq_false hdg3
              replace hid := Aside0.mk hid
              have hsp : c3.toNat < 48 ∨ 57 < c3.toNat := by omega
              clear hdg3
              rcases hsp with hsp | hsp
              · go_wp2_with fail
                go_meet
                case rel =>
                  refine ⟨i3, e, rfl, rfl, rfl, by omega, he0, he1, ⟨?_⟩, rfl⟩
                  rw [← HE.out, HC3.out, escan_cons, if_neg (by rw [hid.out]; decide)]
              · go_wp2_with fail
                go_meet
                case rel =>
                  refine ⟨i3, e, rfl, rfl, rfl, by omega, he0, he1, ⟨?_⟩, rfl⟩
                  rw [← HE.out, HC3.out, escan_cons, if_neg (by rw [hid.out]; decide)]
      case rest =>
        obtain ⟨i3, e, rfl, rfl, rfl, hi3, he0, he1, HE, rfl⟩ := hcut
        clear hcs2 d0 d1 hlt2
        have hrs : readF L = some (rfin b st (e * gs) (s.data.toList.drop i3)) := by rw [hF2.out, hX2.out, HE.out]; rfl
        obtain ⟨y, hy⟩ : ∃ y, y = e * gs := ⟨_, rfl⟩
        rw [← hy] at hrs
        have hyb : -99999 ≤ y ∧ y ≤ 99999 := by
          rcases hgs with h | h
          · rw [h] at hy; omega
          · rw [h] at hy; omega
        obtain ⟨hy0, hy1⟩ := hyb
        have a1 : wrap64 (e * gs) = y := by rw [hy]; unfold wrap64; omega
        have HGS := Aside0.mk hy
        clear hgs hy
        have hN := Aside0.mk hrs
        clear hrs
        go_wp2_with fail
        refine hK2.out _ _ ?_
        refine read_end s L ng w (rfin b st y (s.data.toList.drop i3)) i3 (dp + y) nm hi3 hN.out rfl ?_ hr0 (by omega) (by omega) (by omega) _ rfl rfl rfl rfl rfl rfl ?_ rfl rfl rfl rfl rfl
        · show (if st.man = 0 then 0 else rdp b st + y - rnm b st) = _
          rw [HQ.out.1, HQ.out.2]; rfl
        · show some (Value.bool hx) = some (Value.bool (decide (b = 16)))
          rw [HBX.out]
    · have hid : isD c2 = false := decide_eq_false hdg2
      have hN : readF L = none := by rw [hF2.out, hX2, if_neg (by rw [hid]; decide)]; rfl
      replace hN := Aside0.mk hN
      have hsp : c2.toNat < 48 ∨ 57 < c2.toNat := by omega
      clear hX2 hid hdg2
      rcases hsp with hsp | hsp
      · go_wp2_with fail
        refine bodyPost_ret (results_tmp7 rfl _ _ _) rfl ?_
        exact ⟨rfl, .inl ⟨_, _, _, _, _, _, hN.out, rfl⟩⟩
      · go_wp2_with fail
        refine bodyPost_ret (results_tmp7 rfl _ _ _) rfl ?_
        exact ⟨rfl, .inl ⟨_, _, _, _, _, _, hN.out, rfl⟩⟩
end Go.Proofs.YtlkbhmmelejmjaaGreatDoor.FltReadA

/- readFloat, walked: what is behind its digits. -/
namespace Go.Proofs.YtlkbhmmelejmjaaGreatDoor.FltReadB
open Go.RowKit Go.Proofs.YtlkbhmmelejmjaaGreatDoorW.PrintWords Go.Proofs.YtlkbhmmelejmjaaGreatDoor.NumKnown Go.Proofs.YtlkbhmmelejmjaaGreatDoor.NumPure Go.Proofs.YtlkbhmmelejmjaaGreatDoor.FltDec Go.Proofs.YtlkbhmmelejmjaaGreatDoor.FltPure Go.Proofs.YtlkbhmmelejmjaaGreatDoor.FltLeft Go.Proofs.YtlkbhmmelejmjaaGreatDoor.FltRight Go.Proofs.YtlkbhmmelejmjaaGreatDoor.FltLaw Go.Proofs.YtlkbhmmelejmjaaGreatDoor.FltState Go.Proofs.YtlkbhmmelejmjaaGreatDoor.FltTextP Go.Proofs.YtlkbhmmelejmjaaGreatDoor.FltSetB Go.Proofs.YtlkbhmmelejmjaaGreatDoor.FltReadA
set_option linter.unusedVariables false
set_option linter.unusedSimpArgs false

set_option maxHeartbeats 16000000 in
set_option maxRecDepth 100000 in
theorem read_exp (s : ByteArray) (hsz : s.size ≤ 2200000000) (L : List UInt8) (ng hx : Bool) (HU : Aside0 (∀ i (h : i < s.size), s[i].toNat ≠ 95)) (w : World) (b ec : Int) (hb : (b == 16) = hx) (HBX : Aside0 (hx = decide (b = 16))) (i : Nat) (st : RS) (M : List UInt8) (hi : i ≤ s.size) (HL : Aside0 (s.data.toList.drop i = M)) (hF : Aside0 (readF L = rexp b ec st M)) (nm dp : Int) (hr0 : 0 ≤ nm) (hr1 : nm ≤ 76) (hr2 : -8800000000 ≤ dp) (hr3 : dp ≤ 8800000000) (HQ : Aside0 (nm = rnm b st ∧ dp = rdp b st))
    (c c1 : UInt8) (r r1 : List UInt8) (hM : M = c :: r) (hR : r = c1 :: r1) (hlcE : low c = ec)
    (t : Array Value) (hz : t.size = 253) (t0 : t[0]? = some (.string s)) (t2 : t[2]? = some (.int .u64 st.man)) (t3 : t[3]? = some (.int .i64 0)) (t4 : t[4]? = some (.bool ng)) (t5 : t[5]? = some (.bool st.tr)) (t6 : t[6]? = some (.bool hx)) (t7 : t[7]? = some (.int .i64 (i : Int))) (t8 : t[8]? = some (.bool false)) (t9 : t[9]? = some (.bool false)) (t10 : t[10]? = some (.int .u64 b)) (t12 : t[12]? = some (.int .u8 ec)) (t16 : t[16]? = some (.int .i64 nm)) (t17 : t[17]? = some (.int .i64 dp)) :
    (after 17 (inner (after 1 (Tryz.f126.body.getD .skip)))).wp Tryz.prog (Exit.noGoto (bodyPost Tryz.prog Tryz.f126 (RdP s L ng w))) { tmps := t, defers := [] } w := by
  obtain ⟨u, rfl⟩ := frame253 t hz
  have e0 : u 0 = .string s := Option.some.inj t0
  have e2 : u 2 = .int .u64 st.man := Option.some.inj t2
  have e3 : u 3 = .int .i64 0 := Option.some.inj t3
  have e4 : u 4 = .bool ng := Option.some.inj t4
  have e5 : u 5 = .bool st.tr := Option.some.inj t5
  have e6 : u 6 = .bool hx := Option.some.inj t6
  have e7 : u 7 = .int .i64 (i : Int) := Option.some.inj t7
  have e8 : u 8 = .bool false := Option.some.inj t8
  have e9 : u 9 = .bool false := Option.some.inj t9
  have e10 : u 10 = .int .u64 b := Option.some.inj t10
  have e12 : u 12 = .int .u8 ec := Option.some.inj t12
  have e16 : u 16 = .int .i64 nm := Option.some.inj t16
  have e17 : u 17 = .int .i64 dp := Option.some.inj t17
  rw [e0, e2, e3, e4, e5, e6, e7, e8, e9, e10, e12, e16, e17]
  clear t0 e0 t2 e2 t3 e3 t4 e4 t5 e5 t6 e6 t7 e7 t8 e8 t9 e9 t10 e10 t12 e12 t16 e16 t17 e17 hz
  have hL : s.data.toList.length = s.size := (Lib.size_eq s).symm
  conv =>
    arg 2
    simp only [Tryz.f126, after, inner, Option.getD]
  have hlt : i < s.size := by
    have h := HL.out
    rw [hM] at h
    have := congrArg List.length h
    simp at this
    omega
  have hdc := drop_cons (l := s.data.toList) (i := i) (by omega)
  have hce : s.data.toList[i]'(by omega) = s[i] := rfl
  rw [HL.out, hM, hce] at hdc
  injection hdc with hd2 hd3
  have hcs : s[i] = c := hd2.symm
  have HM := Aside0.mk (And.intro hM hd3)
  clear hd2 hd3 hce hM
  obtain ⟨lc, hlc⟩ : ∃ lc, lc = low c := ⟨_, rfl⟩
  have C := Aside0.mk (low_walk c)
  rw [← hlc] at C
  have hec : lc = ec := hlc.trans hlcE
  subst hec
  have hF2 : readF L = rE b st (expo r) := by rw [hF.out, HM.out.1, rexp_cons, if_pos hlc.symm]
  replace hF2 := Aside0.mk hF2
  have hlt1 : i + 1 < s.size := by
    have h := HM.out.2
    rw [hR] at h
    have := congrArg List.length h
    simp at this
    omega
  have hdc := drop_cons (l := s.data.toList) (i := i + 1) (by omega)
  have hce : s.data.toList[i + 1]'(by omega) = s[i + 1] := rfl
  rw [← HM.out.2, hR, hce] at hdc
  injection hdc with hd2 hd3
  have hcs1 : s[i + 1] = c1 := hd2.symm
  have HR := Aside0.mk (And.intro hR hd3)
  have hlt1i : (i : Int) + 1 < (s.size : Int) := by omega
  clear hd2 hd3 hce hR
  replace hlc := Aside0.mk hlc
  go_upto_block 4 with (first | (go_at_call 123; refine (C.out _).mono ?_; rintro e w' ⟨rfl, rfl⟩))
  go_cut [7, 19] (fun v5 v8 we => ∃ (i2 : Nat) (gs : Int), v5 = .int .i64 i2 ∧ v8 = .int .i64 gs ∧ i2 ≤ s.size ∧ (gs = 1 ∨ gs = -1) ∧ Aside0 (expo r = eval gs (s.data.toList.drop i2)) ∧ w = we)
  case first =>
    by_cases h43 : c1.toNat = 43
    · have HE := Aside0.mk h43
      go_wp2_with fail
      go_meet
      case rel =>
        refine ⟨i + 1 + 1, 1, by go_num, rfl, by omega, .inl rfl, ⟨?_⟩, rfl⟩
        rw [HR.out.1, expo_cons, if_pos HE.out, ← HR.out.2]
    · have q43 : ((c1.toNat : Int) == 43) = false := beq_eq_false_iff_ne.mpr (by omega)
      by_cases h45 : c1.toNat = 45
      · have HE := Aside0.mk (And.intro h43 h45)
        go_wp2_with fail
        go_meet
        case rel =>
          refine ⟨i + 1 + 1, -1, by go_num, rfl, by omega, .inr rfl, ⟨?_⟩, rfl⟩
          rw [HR.out.1, expo_cons, if_neg HE.out.1, if_pos HE.out.2, ← HR.out.2]
      · have q45 : ((c1.toNat : Int) == 45) = false := beq_eq_false_iff_ne.mpr (by omega)
        have HE := Aside0.mk (And.intro h43 h45)
        go_wp2_with fail
        go_meet
        case rel =>
          refine ⟨i + 1, 1, by go_num, rfl, by omega, .inl rfl, ⟨?_⟩, rfl⟩
          rw [HR.out.1, expo_cons, if_neg HE.out.1, if_neg HE.out.2, ← HR.out.1, HM.out.2]
  case rest =>
    obtain ⟨i2, gs, rfl, rfl, hi2, hgs, HX, rfl⟩ := hcut
    refine ‹∀ (a : Act) (w1 : World), Code.wp _ _ _ a w1 → _› _ _ ?_
    exact read_num _ s hsz L ng hx HU w (by assumption) b st r HBX hF2 nm dp hr0 hr1 hr2 hr3 HQ i2 gs hi2 hgs HX _ rfl rfl rfl rfl rfl rfl rfl rfl rfl rfl rfl rfl rfl
end Go.Proofs.YtlkbhmmelejmjaaGreatDoor.FltReadB

/- readFloat, walked: what is behind its digits. -/
namespace Go.Proofs.YtlkbhmmelejmjaaGreatDoor.FltReadC
open Go.RowKit Go.Proofs.YtlkbhmmelejmjaaGreatDoorW.PrintWords Go.Proofs.YtlkbhmmelejmjaaGreatDoor.NumKnown Go.Proofs.YtlkbhmmelejmjaaGreatDoor.NumPure Go.Proofs.YtlkbhmmelejmjaaGreatDoor.FltDec Go.Proofs.YtlkbhmmelejmjaaGreatDoor.FltPure Go.Proofs.YtlkbhmmelejmjaaGreatDoor.FltLeft Go.Proofs.YtlkbhmmelejmjaaGreatDoor.FltRight Go.Proofs.YtlkbhmmelejmjaaGreatDoor.FltLaw Go.Proofs.YtlkbhmmelejmjaaGreatDoor.FltState Go.Proofs.YtlkbhmmelejmjaaGreatDoor.FltTextP Go.Proofs.YtlkbhmmelejmjaaGreatDoor.FltSetB Go.Proofs.YtlkbhmmelejmjaaGreatDoor.FltReadA Go.Proofs.YtlkbhmmelejmjaaGreatDoor.FltReadB
set_option linter.unusedVariables false
set_option linter.unusedSimpArgs false

set_option maxHeartbeats 16000000 in
set_option maxRecDepth 100000 in
theorem read_bare (s : ByteArray) (hsz : s.size ≤ 2200000000) (L : List UInt8) (ng hx : Bool) (HU : Aside0 (∀ i (h : i < s.size), s[i].toNat ≠ 95)) (w : World) (b ec : Int) (hb : (b == 16) = hx) (HBX : Aside0 (hx = decide (b = 16))) (i : Nat) (st : RS) (M : List UInt8) (hi : i ≤ s.size) (HL : Aside0 (s.data.toList.drop i = M)) (hF : Aside0 (readF L = rexp b ec st M)) (nm dp : Int) (hr0 : 0 ≤ nm) (hr1 : nm ≤ 76) (hr2 : -8800000000 ≤ dp) (hr3 : dp ≤ 8800000000) (HQ : Aside0 (nm = rnm b st ∧ dp = rdp b st))
    (HNO : Aside0 (¬ ∃ c c1 r r1, M = c :: r ∧ r = c1 :: r1 ∧ low c = ec))
    (t : Array Value) (hz : t.size = 253) (t0 : t[0]? = some (.string s)) (t2 : t[2]? = some (.int .u64 st.man)) (t3 : t[3]? = some (.int .i64 0)) (t4 : t[4]? = some (.bool ng)) (t5 : t[5]? = some (.bool st.tr)) (t6 : t[6]? = some (.bool hx)) (t7 : t[7]? = some (.int .i64 (i : Int))) (t8 : t[8]? = some (.bool false)) (t9 : t[9]? = some (.bool false)) (t10 : t[10]? = some (.int .u64 b)) (t12 : t[12]? = some (.int .u8 ec)) (t16 : t[16]? = some (.int .i64 nm)) (t17 : t[17]? = some (.int .i64 dp)) :
    (after 17 (inner (after 1 (Tryz.f126.body.getD .skip)))).wp Tryz.prog (Exit.noGoto (bodyPost Tryz.prog Tryz.f126 (RdP s L ng w))) { tmps := t, defers := [] } w := by
  obtain ⟨u, rfl⟩ := frame253 t hz
  have e0 : u 0 = .string s := Option.some.inj t0
  have e2 : u 2 = .int .u64 st.man := Option.some.inj t2
  have e3 : u 3 = .int .i64 0 := Option.some.inj t3
  have e4 : u 4 = .bool ng := Option.some.inj t4
  have e5 : u 5 = .bool st.tr := Option.some.inj t5
  have e6 : u 6 = .bool hx := Option.some.inj t6
  have e7 : u 7 = .int .i64 (i : Int) := Option.some.inj t7
  have e8 : u 8 = .bool false := Option.some.inj t8
  have e9 : u 9 = .bool false := Option.some.inj t9
  have e10 : u 10 = .int .u64 b := Option.some.inj t10
  have e12 : u 12 = .int .u8 ec := Option.some.inj t12
  have e16 : u 16 = .int .i64 nm := Option.some.inj t16
  have e17 : u 17 = .int .i64 dp := Option.some.inj t17
  rw [e0, e2, e3, e4, e5, e6, e7, e8, e9, e10, e12, e16, e17]
  clear t0 e0 t2 e2 t3 e3 t4 e4 t5 e5 t6 e6 t7 e7 t8 e8 t9 e9 t10 e10 t12 e12 t16 e16 t17 e17 hz
  have hL : s.data.toList.length = s.size := (Lib.size_eq s).symm
  conv =>
    arg 2
    simp only [Tryz.f126, after, inner, Option.getD]
  have hM0 : M = [] ∨ ∃ c r, M = c :: r := by cases M with | nil => exact .inl rfl | cons a b => exact .inr ⟨a, b, rfl⟩
  rcases hM0 with hM | ⟨c, r, hM⟩
  · have hi' : i = s.size := by
      have h := HL.out
      rw [hM] at h
      have := congrArg List.length h
      simp at this
      omega
    subst hi'
    have HM := Aside0.mk hM
    cases hx with
    | true =>
      have hN : readF L = none := by rw [hF.out, HM.out]; show rbare b st [] = none; unfold rbare; rw [if_pos (by have := HBX.out; simpa using this.symm)]
      replace hN := Aside0.mk hN
      go_wp2_with fail
      refine bodyPost_ret (results_tmp7 rfl _ _ _) rfl ?_
      exact ⟨rfl, .inl ⟨_, _, _, _, _, _, hN.out, rfl⟩⟩
    | false =>
      have hN : readF L = some (rfin b st 0 []) := by rw [hF.out, HM.out]; show rbare b st [] = _; unfold rbare; rw [if_neg (by have := HBX.out; simpa using this.symm)]
      replace hN := Aside0.mk hN
      cases hmz : (st.man != 0) with
      | true =>
        have HZ := Aside0.mk hmz
        go_wp2_with fail
        refine bodyPost_ret (results_tmp7 rfl _ _ _) rfl ?_
        refine ⟨rfl, .inr ⟨_, s.size, hN.out, (HL.out.trans HM.out), Nat.le_refl _, ?_⟩⟩
        rw [rfin_exp1 HZ.out HQ.out, rfin_hx HBX.out]
        first | rfl | (rw [Int.add_zero]; rfl)
      | false =>
        have HZ := Aside0.mk hmz
        go_wp2_with fail
        refine bodyPost_ret (results_tmp7 rfl _ _ _) rfl ?_
        refine ⟨rfl, .inr ⟨_, s.size, hN.out, (HL.out.trans HM.out), Nat.le_refl _, ?_⟩⟩
        rw [rfin_exp0 HZ.out, rfin_hx HBX.out]
        rfl
  · have hlt : i < s.size := by
      have h := HL.out
      rw [hM] at h
      have := congrArg List.length h
      simp at this
      omega
    have hdc := drop_cons (l := s.data.toList) (i := i) (by omega)
    have hce : s.data.toList[i]'(by omega) = s[i] := rfl
    rw [HL.out, hM, hce] at hdc
    injection hdc with hd2 hd3
    have hcs : s[i] = c := hd2.symm
    have HM := Aside0.mk (And.intro hM hd3)
    clear hd2 hd3 hce hM
    obtain ⟨lc, hlc⟩ : ∃ lc, lc = low c := ⟨_, rfl⟩
    have C := Aside0.mk (low_walk c)
    rw [← hlc] at C
    by_cases hec : lc = ec
    · subst hec
      have hF2 : readF L = rE b st (expo r) := by rw [hF.out, HM.out.1, rexp_cons, if_pos hlc.symm]
      replace hF2 := Aside0.mk hF2
      have hR0 : r = [] ∨ ∃ c1 r1, r = c1 :: r1 := by cases r with | nil => exact .inl rfl | cons a b => exact .inr ⟨a, b, rfl⟩
      rcases hR0 with hR | ⟨c1, r1, hR⟩
      · have hi' : i + 1 = s.size := by
          have h := HM.out.2
          rw [hR] at h
          have := congrArg List.length h
          simp at this
          omega
        have hge : ((s.size : Int)) ≤ (i : Int) + 1 := by omega
        have hN : readF L = none := by rw [hF2.out, hR]; rfl
        replace hN := Aside0.mk hN
        have HI := Aside0.mk hi'
        replace hlc := Aside0.mk hlc
        clear hR hi'
        go_wp2_with (first | (go_at_call 123; refine (C.out _).mono ?_; rintro e w' ⟨rfl, rfl⟩))
        refine bodyPost_ret (results_tmp7 rfl _ _ _) rfl ?_
        exact ⟨rfl, .inl ⟨_, _, _, _, _, _, hN.out, rfl⟩⟩
      · exact absurd ⟨c, c1, r, r1, HM.out.1, hR, hlc.symm⟩ HNO.out
    · have qec : (lc == ec) = false := beq_eq_false_iff_ne.mpr hec
      have HE := Aside0.mk (And.intro hlc hec)
      cases hx with
      | true =>
        have hN : readF L = none := by
          rw [hF.out, HM.out.1, rexp_cons, if_neg (by rw [← HE.out.1]; exact HE.out.2)]
          unfold rbare; rw [if_pos (by have := HBX.out; simpa using this.symm)]
        replace hN := Aside0.mk hN
        clear hlc hec
        go_wp2_with (first | (go_at_call 123; refine (C.out _).mono ?_; rintro e w' ⟨rfl, rfl⟩))
        refine bodyPost_ret (results_tmp7 rfl _ _ _) rfl ?_
        exact ⟨rfl, .inl ⟨_, _, _, _, _, _, hN.out, rfl⟩⟩
      | false =>
        have hN : readF L = some (rfin b st 0 (c :: r)) := by
          rw [hF.out, HM.out.1, rexp_cons, if_neg (by rw [← HE.out.1]; exact HE.out.2)]
          unfold rbare; rw [if_neg (by have := HBX.out; simpa using this.symm)]
        replace hN := Aside0.mk hN
        clear hlc hec
        cases hmz : (st.man != 0) with
        | true =>
          have HZ := Aside0.mk hmz
          go_wp2_with (first | (go_at_call 123; refine (C.out _).mono ?_; rintro e w' ⟨rfl, rfl⟩))
          refine bodyPost_ret (results_tmp7 rfl _ _ _) rfl ?_
          refine ⟨rfl, .inr ⟨_, i, hN.out, (HL.out.trans HM.out.1), hi, ?_⟩⟩
          rw [rfin_exp1 HZ.out HQ.out, rfin_hx HBX.out]
          first | rfl | (rw [Int.add_zero]; rfl)
        | false =>
          have HZ := Aside0.mk hmz
          go_wp2_with (first | (go_at_call 123; refine (C.out _).mono ?_; rintro e w' ⟨rfl, rfl⟩))
          refine bodyPost_ret (results_tmp7 rfl _ _ _) rfl ?_
          refine ⟨rfl, .inr ⟨_, i, hN.out, (HL.out.trans HM.out.1), hi, ?_⟩⟩
          rw [rfin_exp0 HZ.out, rfin_hx HBX.out]
          rfl

set_option maxHeartbeats 16000000 in
set_option maxRecDepth 100000 in
theorem read_rest (s : ByteArray) (hsz : s.size ≤ 2200000000) (L : List UInt8) (ng hx : Bool) (HU : Aside0 (∀ i (h : i < s.size), s[i].toNat ≠ 95)) (w : World) (b m ec : Int) (hb : (b == 16) = hx) (i : Nat) (st : RS) (M : List UInt8) (hi : i ≤ s.size) (HL : Aside0 (s.data.toList.drop i = M ∧ readF L = if st.dig then rexp b ec st M else none))
    (hn0 : 0 ≤ st.nd) (hn1 : st.nd ≤ 2200000000) (hm0 : 0 ≤ st.nm) (hm1 : st.nm ≤ 19) (hd0 : -2200000000 ≤ st.dp) (hd1 : st.dp ≤ 2200000000)
    (t : Array Value) (hz : t.size = 253) (t0 : t[0]? = some (.string s)) (t2 : t[2]? = some (.int .u64 st.man)) (t3 : t[3]? = some (.int .i64 0)) (t4 : t[4]? = some (.bool ng)) (t5 : t[5]? = some (.bool st.tr)) (t6 : t[6]? = some (.bool hx)) (t7 : t[7]? = some (.int .i64 (i : Int))) (t8 : t[8]? = some (.bool false)) (t9 : t[9]? = some (.bool false)) (t10 : t[10]? = some (.int .u64 b)) (t11 : t[11]? = some (.int .i64 m)) (t12 : t[12]? = some (.int .u8 ec)) (t13 : t[13]? = some (.bool st.dot)) (t14 : t[14]? = some (.bool st.dig)) (t15 : t[15]? = some (.int .i64 st.nd)) (t16 : t[16]? = some (.int .i64 st.nm)) (t17 : t[17]? = some (.int .i64 st.dp)) :
    (after 14 (inner (after 1 (Tryz.f126.body.getD .skip)))).wp Tryz.prog (Exit.noGoto (bodyPost Tryz.prog Tryz.f126 (RdP s L ng w))) { tmps := t, defers := [] } w := by
  obtain ⟨u, rfl⟩ := frame253 t hz
  have e0 : u 0 = .string s := Option.some.inj t0
  have e2 : u 2 = .int .u64 st.man := Option.some.inj t2
  have e3 : u 3 = .int .i64 0 := Option.some.inj t3
  have e4 : u 4 = .bool ng := Option.some.inj t4
  have e5 : u 5 = .bool st.tr := Option.some.inj t5
  have e6 : u 6 = .bool hx := Option.some.inj t6
  have e7 : u 7 = .int .i64 (i : Int) := Option.some.inj t7
  have e8 : u 8 = .bool false := Option.some.inj t8
  have e9 : u 9 = .bool false := Option.some.inj t9
  have e10 : u 10 = .int .u64 b := Option.some.inj t10
  have e11 : u 11 = .int .i64 m := Option.some.inj t11
  have e12 : u 12 = .int .u8 ec := Option.some.inj t12
  have e13 : u 13 = .bool st.dot := Option.some.inj t13
  have e14 : u 14 = .bool st.dig := Option.some.inj t14
  have e15 : u 15 = .int .i64 st.nd := Option.some.inj t15
  have e16 : u 16 = .int .i64 st.nm := Option.some.inj t16
  have e17 : u 17 = .int .i64 st.dp := Option.some.inj t17
  rw [e0, e2, e3, e4, e5, e6, e7, e8, e9, e10, e11, e12, e13, e14, e15, e16, e17]
  clear t0 e0 t2 e2 t3 e3 t4 e4 t5 e5 t6 e6 t7 e7 t8 e8 t9 e9 t10 e10 t11 e11 t12 e12 t13 e13 t14 e14 t15 e15 t16 e16 t17 e17 hz
  have hL : s.data.toList.length = s.size := (Lib.size_eq s).symm
  have hbx : hx = decide (b = 16) := by rw [← hb]; by_cases h : b = 16 <;> simp [h]
  have HBX := Aside0.mk hbx
  clear hbx
  conv =>
    arg 2
    simp only [Tryz.f126, after, inner, Option.getD]
  cases hdg : st.dig with
  | false =>
    have hN : readF L = none := by rw [HL.out.2, hdg]; rfl
    replace hN := Aside0.mk hN
    have HG := Aside0.mk hdg
    go_wp2_with fail
    refine bodyPost_ret (results_tmp7 rfl _ _ _) rfl ?_
    exact ⟨rfl, .inl ⟨_, _, _, _, _, _, hN.out, rfl⟩⟩
  | true =>
    have hF : readF L = rexp b ec st M := by rw [HL.out.2, hdg]; rfl
    replace hF := Aside0.mk hF
    have HD := Aside0.mk hdg
    go_upto_if 142 with (fail)
    go_cut [13, 17] (fun v13 v17 wd => v13 = .bool st.dot ∧ v17 = .int .i64 (if st.dot then st.dp else st.nd) ∧ w = wd)
    case first =>
      cases hdot : st.dot with
      | true =>
        have HO := Aside0.mk hdot
        go_wp2_with fail
        go_meet
        case rel => exact ⟨by rw [HO.out], by rw [HO.out]; rfl, rfl⟩
      | false =>
        have HO := Aside0.mk hdot
        go_wp2_with fail
        go_meet
        case rel => exact ⟨by rw [HO.out], by rw [HO.out]; rfl, rfl⟩
    case rest =>
      obtain ⟨rfl, rfl, rfl⟩ := hcut
      obtain ⟨dq, hdq⟩ : ∃ dq, dq = (if st.dot then st.dp else st.nd) := ⟨_, rfl⟩
      have hdq0 : -2200000000 ≤ dq ∧ dq ≤ 2200000000 := by rw [hdq]; split <;> omega
      rw [← hdq]
      obtain ⟨hdq1, hdq2⟩ := hdq0
      have HDQ := Aside0.mk hdq
      clear hdq hd0 hd1 hn0 hn1
      go_upto_if 145 with (fail)
      go_cut [16, 17] (fun v16 v17 wd => v16 = .int .i64 (rnm b st) ∧ v17 = .int .i64 (rdp b st) ∧ w = wd)
      case first =>
        cases hx with
        | true =>
          have e : b = 16 := by have := HBX.out; simpa using this.symm
          have HB := Aside0.mk e
          clear e
          go_wp2_with fail
          go_meet
          case rel => exact ⟨by unfold rnm; rw [if_pos HB.out], by unfold rdp; rw [if_pos HB.out, ← HDQ.out], rfl⟩
        | false =>
          have e : ¬ b = 16 := by have := HBX.out; simpa using this.symm
          have HB := Aside0.mk e
          clear e
          go_wp2_with fail
          go_meet
          case rel => exact ⟨by unfold rnm; rw [if_neg HB.out], by unfold rdp; rw [if_neg HB.out, ← HDQ.out], rfl⟩
      case rest =>
        obtain ⟨rfl, rfl, rfl⟩ := hcut
        have hr : 0 ≤ rnm b st ∧ rnm b st ≤ 76 ∧ -8800000000 ≤ rdp b st ∧ rdp b st ≤ 8800000000 := by
          unfold rnm rdp
          rw [← HDQ.out]
          refine ⟨?_, ?_, ?_, ?_⟩ <;> split <;> omega
        obtain ⟨nm, hnm⟩ : ∃ nm, nm = rnm b st := ⟨_, rfl⟩
        obtain ⟨dp, hdp⟩ : ∃ dp, dp = rdp b st := ⟨_, rfl⟩
        rw [← hnm, ← hdp] at hr ⊢
        obtain ⟨hr0, hr1, hr2, hr3⟩ := hr
        have HQ := Aside0.mk (And.intro hnm hdp)
        clear hnm hdp hm0 hm1 hdq1 hdq2
        by_cases h : ∃ c c1 r r1, M = c :: r ∧ r = c1 :: r1 ∧ low c = ec
        · obtain ⟨c, c1, r, r1, h1, h2, h3⟩ := h
          refine ‹∀ (a : Act) (w1 : World), Code.wp _ _ _ a w1 → _› _ _ ?_
          exact read_exp s hsz L ng hx HU w b ec hb HBX i st M hi ⟨HL.out.1⟩ hF nm dp hr0 hr1 hr2 hr3 HQ c c1 r r1 h1 h2 h3 _ rfl rfl rfl rfl rfl rfl rfl rfl rfl rfl rfl rfl rfl rfl
        · refine ‹∀ (a : Act) (w1 : World), Code.wp _ _ _ a w1 → _› _ _ ?_
          exact read_bare s hsz L ng hx HU w b ec hb HBX i st M hi ⟨HL.out.1⟩ hF nm dp hr0 hr1 hr2 hr3 HQ ⟨h⟩ _ rfl rfl rfl rfl rfl rfl rfl rfl rfl rfl rfl rfl rfl rfl
end Go.Proofs.YtlkbhmmelejmjaaGreatDoor.FltReadC

/- readFloat, walked: what is behind its digits. -/
namespace Go.Proofs.YtlkbhmmelejmjaaGreatDoor.FltReadD
open Go.RowKit Go.Proofs.YtlkbhmmelejmjaaGreatDoorW.PrintWords Go.Proofs.YtlkbhmmelejmjaaGreatDoor.NumKnown Go.Proofs.YtlkbhmmelejmjaaGreatDoor.NumPure Go.Proofs.YtlkbhmmelejmjaaGreatDoor.FltDec Go.Proofs.YtlkbhmmelejmjaaGreatDoor.FltPure Go.Proofs.YtlkbhmmelejmjaaGreatDoor.FltLeft Go.Proofs.YtlkbhmmelejmjaaGreatDoor.FltRight Go.Proofs.YtlkbhmmelejmjaaGreatDoor.FltLaw Go.Proofs.YtlkbhmmelejmjaaGreatDoor.FltState Go.Proofs.YtlkbhmmelejmjaaGreatDoor.FltTextP Go.Proofs.YtlkbhmmelejmjaaGreatDoor.FltSetB Go.Proofs.YtlkbhmmelejmjaaGreatDoor.FltReadA Go.Proofs.YtlkbhmmelejmjaaGreatDoor.FltReadB Go.Proofs.YtlkbhmmelejmjaaGreatDoor.FltReadC
set_option linter.unusedVariables false
set_option linter.unusedSimpArgs false

set_option maxHeartbeats 16000000 in
set_option maxRecDepth 100000 in
theorem read_loop (s : ByteArray) (hsz : s.size ≤ 2200000000) (L : List UInt8) (ng hx : Bool) (HU : Aside0 (∀ i (h : i < s.size), s[i].toNat ≠ 95)) (w : World) (b m ec : Int) (hb : (b == 16) = hx) (hm0 : 0 ≤ m) (hm1 : m ≤ 19) (i1 : Nat) (hi1 : i1 ≤ s.size) (L1 : List UInt8) (HL1 : Aside0 (s.data.toList.drop i1 = L1 ∧ readF L = rmain b m ec L1))
    (t : Array Value) (hz : t.size = 253) (t0 : t[0]? = some (.string s)) (t2 : t[2]? = some (.int .u64 0)) (t3 : t[3]? = some (.int .i64 0)) (t4 : t[4]? = some (.bool ng)) (t5 : t[5]? = some (.bool false)) (t6 : t[6]? = some (.bool hx)) (t7 : t[7]? = some (.int .i64 (i1 : Int))) (t8 : t[8]? = some (.bool false)) (t9 : t[9]? = some (.bool false)) (t10 : t[10]? = some (.int .u64 b)) (t11 : t[11]? = some (.int .i64 m)) (t12 : t[12]? = some (.int .u8 ec)) (t13 : t[13]? = some (.bool false)) (t14 : t[14]? = some (.bool false)) (t15 : t[15]? = some (.int .i64 0)) (t16 : t[16]? = some (.int .i64 0)) (t17 : t[17]? = some (.int .i64 0)) :
    (after 12 (inner (after 1 (Tryz.f126.body.getD .skip)))).wp Tryz.prog (Exit.noGoto (bodyPost Tryz.prog Tryz.f126 (RdP s L ng w))) { tmps := t, defers := [] } w := by
  obtain ⟨u, rfl⟩ := frame253 t hz
  have e0 : u 0 = .string s := Option.some.inj t0
  have e2 : u 2 = .int .u64 0 := Option.some.inj t2
  have e3 : u 3 = .int .i64 0 := Option.some.inj t3
  have e4 : u 4 = .bool ng := Option.some.inj t4
  have e5 : u 5 = .bool false := Option.some.inj t5
  have e6 : u 6 = .bool hx := Option.some.inj t6
  have e7 : u 7 = .int .i64 (i1 : Int) := Option.some.inj t7
  have e8 : u 8 = .bool false := Option.some.inj t8
  have e9 : u 9 = .bool false := Option.some.inj t9
  have e10 : u 10 = .int .u64 b := Option.some.inj t10
  have e11 : u 11 = .int .i64 m := Option.some.inj t11
  have e12 : u 12 = .int .u8 ec := Option.some.inj t12
  have e13 : u 13 = .bool false := Option.some.inj t13
  have e14 : u 14 = .bool false := Option.some.inj t14
  have e15 : u 15 = .int .i64 0 := Option.some.inj t15
  have e16 : u 16 = .int .i64 0 := Option.some.inj t16
  have e17 : u 17 = .int .i64 0 := Option.some.inj t17
  rw [e0, e2, e3, e4, e5, e6, e7, e8, e9, e10, e11, e12, e13, e14, e15, e16, e17]
  clear t0 e0 t2 e2 t3 e3 t4 e4 t5 e5 t6 e6 t7 e7 t8 e8 t9 e9 t10 e10 t11 e11 t12 e12 t13 e13 t14 e14 t15 e15 t16 e16 t17 e17 hz
  dsimp only
  have hL : s.data.toList.length = s.size := (Lib.size_eq s).symm
  have hbx : hx = decide (b = 16) := by rw [← hb]; by_cases h : b = 16 <;> simp [h]
  have HBX := Aside0.mk hbx
  clear hbx
  conv =>
    arg 2
    simp only [Tryz.f126, after, inner, Option.getD]
  go_wp2_with fail
  go_step3
  go_upto_block 1 with (fail)
  go_cut [2, 5, 7, 9, 13, 14, 15, 16, 17] from 57 to 138 (fun v2 v5 v7 v9 v13 v14 v15 v16 v17 wd => ∃ (i : Nat) (st : RS) (M : List UInt8), v2 = .int .u64 st.man ∧ v5 = .bool st.tr ∧ v7 = .int .i64 i ∧ v9 = .bool false ∧ v13 = .bool st.dot ∧ v14 = .bool st.dig ∧ v15 = .int .i64 st.nd ∧ v16 = .int .i64 st.nm ∧ v17 = .int .i64 st.dp ∧ i ≤ s.size ∧ (0 ≤ st.nd ∧ st.nd ≤ i ∧ 0 ≤ st.nm ∧ st.nm ≤ m ∧ -(i : Int) ≤ st.dp ∧ st.dp ≤ i) ∧ Aside0 (s.data.toList.drop i = M ∧ rscan b m L1 rs0 = (st, M)) ∧ w = wd)
  case first =>
    go_wp2_with fail
    go_loopg [2, 5, 7, 9, 13, 14, 15, 16, 17] L1.length (fun kq v2 v5 v7 v9 v13 v14 v15 v16 v17 wx => ∃ (i : Nat) (st : RS) (M : List UInt8), v2 = .int .u64 st.man ∧ v5 = .bool st.tr ∧ v7 = .int .i64 i ∧ v9 = .bool false ∧ v13 = .bool st.dot ∧ v14 = .bool st.dig ∧ v15 = .int .i64 st.nd ∧ v16 = .int .i64 st.nm ∧ v17 = .int .i64 st.dp ∧ i + kq = s.size ∧ (0 ≤ st.nd ∧ st.nd ≤ i ∧ 0 ≤ st.nm ∧ st.nm ≤ m ∧ -(i : Int) ≤ st.dp ∧ st.dp ≤ i) ∧ Aside0 (s.data.toList.drop i = M ∧ M.length = kq ∧ rscan b m M st = rscan b m L1 rs0) ∧ w = wx)
    case atStart =>
      have hl : L1.length = s.size - i1 := by rw [← HL1.out.1, List.length_drop, hL]
      exact ⟨i1, rs0, L1, rfl, rfl, rfl, rfl, rfl, rfl, rfl, rfl, rfl, by omega, ⟨Int.le_refl _, by show (0 : Int) ≤ i1; omega, Int.le_refl _, hm0, by show -(i1 : Int) ≤ 0; omega, by show (0 : Int) ≤ i1; omega⟩, ⟨HL1.out.1, rfl, rfl⟩, rfl⟩
    case round =>
      obtain ⟨i, st, M, rfl, rfl, rfl, rfl, rfl, rfl, rfl, rfl, rfl, hik, ⟨b0, b1, b2, b3, b4, b5⟩, HL, rfl⟩ := hrel
      cases gk with
      | zero =>
        obtain rfl : i = s.size := by omega
        go_wp2_with fail
        go_meet
        case rel =>
          refine ⟨s.size, st, M, rfl, rfl, rfl, rfl, rfl, rfl, rfl, rfl, rfl, by omega, ⟨by omega, by omega, by omega, by omega, by omega, by omega⟩, ⟨by rw [HL.out.1], ?_⟩, rfl⟩
          have hM : M = [] := List.eq_nil_of_length_eq_zero HL.out.2.1
          rw [← HL.out.2.2, hM]; rfl
      | succ k1 =>
        have hlt : i < s.size := by omega
        obtain ⟨c, r, hM⟩ : ∃ c r, M = c :: r := by
          cases M with
          | nil => exact absurd HL.out.2.1 (by simp)
          | cons a b => exact ⟨a, b, rfl⟩
        have hd := drop_cons (l := s.data.toList) (i := i) (by omega)
        have hce : s.data.toList[i]'(by omega) = s[i] := rfl
        rw [HL.out.1, hM, hce] at hd
        injection hd with hd1 hd2
        have hcs : s[i] = c := hd1.symm
        have h95 : ((c.toNat : Int) == 95) = false := beq_eq_false_iff_ne.mpr (by have := HU.out i hlt; rw [hcs] at this; omega)
        have HM := Aside0.mk (And.intro hM hd2)
        clear hd1 hd2 hce hM
        by_cases h46 : c.toNat = 46
        · have HE := Aside0.mk h46
          cases hdot : st.dot with
          | true =>
            have HO := Aside0.mk hdot
            go_wp2_with fail
            go_meet
            case rel =>
              refine ⟨i, st, c :: r, rfl, rfl, rfl, rfl, by rw [HO.out], rfl, rfl, rfl, rfl, by omega, ⟨by omega, by omega, by omega, by omega, by omega, by omega⟩, ⟨by rw [HL.out.1, HM.out.1], ?_⟩, rfl⟩
              rw [← HL.out.2.2, HM.out.1, rscan_cons, if_pos HE.out, if_pos HO.out]
          | false =>
            have HO := Aside0.mk hdot
            go_wp2_with fail
            go_roundg k1
            case rel =>
              have hlen : r.length = k1 := by have := HL.out.2.1; rw [HM.out.1] at this; simpa using this
              have hsc : rscan b m r ⟨st.man, st.nd, st.nm, st.nd, st.tr, true, st.dig⟩ = rscan b m L1 rs0 := by
                rw [← HL.out.2.2, HM.out.1, rscan_cons, if_pos HE.out, if_neg (by rw [HO.out]; decide)]
              exact ⟨i + 1, ⟨st.man, st.nd, st.nm, st.nd, st.tr, true, st.dig⟩, r, by first | rfl | go_num, rfl, by go_num, rfl, rfl, rfl, by first | rfl | go_num, by first | rfl | go_num, by first | rfl | go_num, by omega, ⟨by dsimp only; omega, by dsimp only; omega, by dsimp only; omega, by dsimp only; omega, by dsimp only; omega, by dsimp only; omega⟩, ⟨HM.out.2.symm, hlen, hsc⟩, rfl⟩
            case measure => exact Nat.lt_succ_self _
        · have q46 : ((c.toNat : Int) == 46) = false := beq_eq_false_iff_ne.mpr (by omega)
          by_cases hdg : 48 ≤ c.toNat ∧ c.toNat ≤ 57
          · have hdig : isD c = true := decide_eq_true hdg
            have HE := Aside0.mk (And.intro h46 hdig)
            obtain ⟨d48, d57⟩ := hdg
            clear hdig
            by_cases hz : c.toNat = 48 ∧ st.nd = 0
            · have HZ := Aside0.mk hz
              obtain ⟨z1, z2⟩ := hz
              have z3 : (st.nd == 0) = true := by rw [z2]; rfl
              clear z2
              go_wp2_with fail
              go_roundg k1
              case rel =>
                have hlen : r.length = k1 := by have := HL.out.2.1; rw [HM.out.1] at this; simpa using this
                have hsc : rscan b m r ⟨st.man, st.nd, st.nm, st.dp - 1, st.tr, st.dot, true⟩ = rscan b m L1 rs0 := by
                  rw [← HL.out.2.2, HM.out.1, rscan_cons, if_neg HE.out.1, if_pos HE.out.2, show rdig1 b m c st = _ from by unfold rdig1; rw [if_pos HZ.out]]
                exact ⟨i + 1, ⟨st.man, st.nd, st.nm, st.dp - 1, st.tr, st.dot, true⟩, r, by first | rfl | go_num, rfl, by go_num, rfl, rfl, rfl, by first | rfl | go_num, by first | rfl | go_num, by first | rfl | go_num, by omega, ⟨by dsimp only; omega, by dsimp only; omega, by dsimp only; omega, by dsimp only; omega, by dsimp only; omega, by dsimp only; omega⟩, ⟨HM.out.2.symm, hlen, hsc⟩, rfl⟩
              case measure => exact Nat.lt_succ_self _
            · by_cases hk : st.nm < m
              · have HZ := Aside0.mk (And.intro hz hk)
                by_cases z1 : c.toNat = 48
                · have z3 : (st.nd == 0) = false := beq_eq_false_iff_ne.mpr (fun h => hz ⟨z1, h⟩)
                  have Z1 := Aside0.mk z1
                  clear hz
                  go_wp2_with fail
                  go_roundg k1
                  case rel =>
                    have hlen : r.length = k1 := by have := HL.out.2.1; rw [HM.out.1] at this; simpa using this
                    have hsc : rscan b m r ⟨IntKind.u64.wrap (IntKind.u64.wrap (st.man * b) + ((c.toNat : Int) - 48)), st.nd + 1, st.nm + 1, st.dp, st.tr, st.dot, true⟩ = rscan b m L1 rs0 := by
                      rw [← HL.out.2.2, HM.out.1, rscan_cons, if_neg HE.out.1, if_pos HE.out.2, show rdig1 b m c st = _ from by unfold rdig1; rw [if_neg HZ.out.1, if_pos HZ.out.2]]
                    have zz : (c.toNat : Int) - 48 = 0 := by have := Z1.out; omega
                    exact ⟨i + 1, ⟨IntKind.u64.wrap (IntKind.u64.wrap (st.man * b) + ((c.toNat : Int) - 48)), st.nd + 1, st.nm + 1, st.dp, st.tr, st.dot, true⟩, r, by first | rfl | (rw [zz]; first | rfl | simp) | go_num, rfl, by go_num, rfl, rfl, rfl, by first | rfl | go_num, by first | rfl | go_num, by first | rfl | go_num, by omega, ⟨by dsimp only; omega, by dsimp only; omega, by dsimp only; omega, by dsimp only; omega, by dsimp only; omega, by dsimp only; omega⟩, ⟨HM.out.2.symm, hlen, hsc⟩, rfl⟩
                  case measure => exact Nat.lt_succ_self _
                · have q48 : ((c.toNat : Int) == 48) = false := beq_eq_false_iff_ne.mpr (by omega)
                  clear hz
                  go_wp2_with fail
                  go_roundg k1
                  case rel =>
                    have hlen : r.length = k1 := by have := HL.out.2.1; rw [HM.out.1] at this; simpa using this
                    have hsc : rscan b m r ⟨IntKind.u64.wrap (IntKind.u64.wrap (st.man * b) + ((c.toNat : Int) - 48)), st.nd + 1, st.nm + 1, st.dp, st.tr, st.dot, true⟩ = rscan b m L1 rs0 := by
                      rw [← HL.out.2.2, HM.out.1, rscan_cons, if_neg HE.out.1, if_pos HE.out.2, show rdig1 b m c st = _ from by unfold rdig1; rw [if_neg HZ.out.1, if_pos HZ.out.2]]
                    exact ⟨i + 1, ⟨IntKind.u64.wrap (IntKind.u64.wrap (st.man * b) + ((c.toNat : Int) - 48)), st.nd + 1, st.nm + 1, st.dp, st.tr, st.dot, true⟩, r, by first | rfl | go_num, rfl, by go_num, rfl, rfl, rfl, by first | rfl | go_num, by first | rfl | go_num, by first | rfl | go_num, by omega, ⟨by dsimp only; omega, by dsimp only; omega, by dsimp only; omega, by dsimp only; omega, by dsimp only; omega, by dsimp only; omega⟩, ⟨HM.out.2.symm, hlen, hsc⟩, rfl⟩
                  case measure => exact Nat.lt_succ_self _
              · by_cases z1 : c.toNat = 48
                · have z3 : (st.nd == 0) = false := beq_eq_false_iff_ne.mpr (fun h => hz ⟨z1, h⟩)
                  have HZ := Aside0.mk (And.intro hz (And.intro hk z1))
                  clear hz
                  go_wp2_with fail
                  go_roundg k1
                  case rel =>
                    have hlen : r.length = k1 := by have := HL.out.2.1; rw [HM.out.1] at this; simpa using this
                    have hsc : rscan b m r ⟨st.man, st.nd + 1, st.nm, st.dp, st.tr, st.dot, true⟩ = rscan b m L1 rs0 := by
                      rw [← HL.out.2.2, HM.out.1, rscan_cons, if_neg HE.out.1, if_pos HE.out.2, show rdig1 b m c st = _ from by unfold rdig1; rw [if_neg HZ.out.1, if_neg (by have := HZ.out.2.1; omega), if_pos HZ.out.2.2]]
                    exact ⟨i + 1, ⟨st.man, st.nd + 1, st.nm, st.dp, st.tr, st.dot, true⟩, r, by first | rfl | go_num, rfl, by go_num, rfl, rfl, rfl, by first | rfl | go_num, by first | rfl | go_num, by first | rfl | go_num, by omega, ⟨by dsimp only; omega, by dsimp only; omega, by dsimp only; omega, by dsimp only; omega, by dsimp only; omega, by dsimp only; omega⟩, ⟨HM.out.2.symm, hlen, hsc⟩, rfl⟩
                  case measure => exact Nat.lt_succ_self _
                · have q48 : ((c.toNat : Int) == 48) = false := beq_eq_false_iff_ne.mpr (by omega)
                  have HZ := Aside0.mk (And.intro hz (And.intro hk z1))
                  clear hz
                  go_wp2_with fail
                  go_roundg k1
                  case rel =>
                    have hlen : r.length = k1 := by have := HL.out.2.1; rw [HM.out.1] at this; simpa using this
                    have hsc : rscan b m r ⟨st.man, st.nd + 1, st.nm, st.dp, true, st.dot, true⟩ = rscan b m L1 rs0 := by
                      rw [← HL.out.2.2, HM.out.1, rscan_cons, if_neg HE.out.1, if_pos HE.out.2, show rdig1 b m c st = _ from by unfold rdig1; rw [if_neg HZ.out.1, if_neg (by have := HZ.out.2.1; omega), if_neg HZ.out.2.2]]
                    exact ⟨i + 1, ⟨st.man, st.nd + 1, st.nm, st.dp, true, st.dot, true⟩, r, by first | rfl | go_num, rfl, by go_num, rfl, rfl, rfl, by first | rfl | go_num, by first | rfl | go_num, by first | rfl | go_num, by omega, ⟨by dsimp only; omega, by dsimp only; omega, by dsimp only; omega, by dsimp only; omega, by dsimp only; omega, by dsimp only; omega⟩, ⟨HM.out.2.symm, hlen, hsc⟩, rfl⟩
                  case measure => exact Nat.lt_succ_self _
          · have hdig : isD c = false := decide_eq_false hdg
            have HE := Aside0.mk (And.intro h46 hdig)
            have hsp : c.toNat < 48 ∨ 57 < c.toNat := by omega
            clear hdg hdig
            obtain ⟨lc, hlc⟩ : ∃ lc, lc = low c := ⟨_, rfl⟩
            have C := Aside0.mk (low_walk c)
            rw [← hlc] at C
            have hv0 : 0 ≤ lc := by rw [hlc]; exact bits_lo_u8 .or (c.toNat : Int) 32
            have hv1 : lc ≤ 255 := by have := bits_hi_u8 .or (c.toNat : Int) 32; rw [hlc]; unfold low; omega
            have HLC := Aside0.mk hlc
            clear hlc
            cases hx with
            | false =>
              have hb16 : ¬ b = 16 := by have := HBX.out; simpa using this.symm
              replace hb16 := Aside0.mk hb16
              rcases hsp with hsp | hsp
              · go_wp2_with fail
                go_meet
                case rel =>
                  refine ⟨i, st, c :: r, rfl, rfl, rfl, rfl, rfl, rfl, rfl, rfl, rfl, by omega, ⟨by omega, by omega, by omega, by omega, by omega, by omega⟩, ⟨by rw [HL.out.1, HM.out.1], ?_⟩, rfl⟩
                  rw [← HL.out.2.2, HM.out.1, rscan_cons, if_neg HE.out.1, if_neg (by rw [HE.out.2]; decide), if_neg (by rintro ⟨h1, h2, h3⟩; exact hb16.out h1)]
              · go_wp2_with fail
                go_meet
                case rel =>
                  refine ⟨i, st, c :: r, rfl, rfl, rfl, rfl, rfl, rfl, rfl, rfl, rfl, by omega, ⟨by omega, by omega, by omega, by omega, by omega, by omega⟩, ⟨by rw [HL.out.1, HM.out.1], ?_⟩, rfl⟩
                  rw [← HL.out.2.2, HM.out.1, rscan_cons, if_neg HE.out.1, if_neg (by rw [HE.out.2]; decide), if_neg (by rintro ⟨h1, h2, h3⟩; exact hb16.out h1)]
            | true =>
              have hb16 : b = 16 := by have := HBX.out; simpa using this.symm
              replace hb16 := Aside0.mk hb16
              by_cases l0 : 97 ≤ lc
              · by_cases l1 : lc ≤ 102
                · have HH : Aside0 (b = 16 ∧ 97 ≤ low c ∧ low c ≤ 102) := ⟨⟨hb16.out, by rw [← HLC.out]; exact l0, by rw [← HLC.out]; exact l1⟩⟩
                  by_cases hk : st.nm < m
                  · have HK := Aside0.mk hk
                    rcases hsp with hsp | hsp
                    · go_wp2_with (first | (go_at_call 123; refine (C.out _).mono ?_; rintro e w' ⟨rfl, rfl⟩))
                      go_roundg k1
                      case rel =>
                        have hlen : r.length = k1 := by have := HL.out.2.1; rw [HM.out.1] at this; simpa using this
                        have hsc : rscan b m r ⟨IntKind.u64.wrap (IntKind.u64.wrap (st.man * 16) + (lc - 87)), st.nd + 1, st.nm + 1, st.dp, st.tr, st.dot, true⟩ = rscan b m L1 rs0 := by
                          rw [← HL.out.2.2, HM.out.1, rscan_cons, if_neg HE.out.1, if_neg (by rw [HE.out.2]; decide), if_pos HH.out, show rhex1 m c st = _ from by unfold rhex1; rw [if_pos HK.out, ← HLC.out]]
                        have zz : lc - 97 + 10 = lc - 87 := by omega
                        exact ⟨i + 1, ⟨IntKind.u64.wrap (IntKind.u64.wrap (st.man * 16) + (lc - 87)), st.nd + 1, st.nm + 1, st.dp, st.tr, st.dot, true⟩, r, by first | rfl | (rw [zz]; rfl) | rw [zz] | go_num, rfl, by go_num, rfl, rfl, rfl, by first | rfl | go_num, by first | rfl | go_num, by first | rfl | go_num, by omega, ⟨by dsimp only; omega, by dsimp only; omega, by dsimp only; omega, by dsimp only; omega, by dsimp only; omega, by dsimp only; omega⟩, ⟨HM.out.2.symm, hlen, hsc⟩, rfl⟩
                      case measure => exact Nat.lt_succ_self _
                    · go_wp2_with (first | (go_at_call 123; refine (C.out _).mono ?_; rintro e w' ⟨rfl, rfl⟩))
                      go_roundg k1
                      case rel =>
                        have hlen : r.length = k1 := by have := HL.out.2.1; rw [HM.out.1] at this; simpa using this
                        have hsc : rscan b m r ⟨IntKind.u64.wrap (IntKind.u64.wrap (st.man * 16) + (lc - 87)), st.nd + 1, st.nm + 1, st.dp, st.tr, st.dot, true⟩ = rscan b m L1 rs0 := by
                          rw [← HL.out.2.2, HM.out.1, rscan_cons, if_neg HE.out.1, if_neg (by rw [HE.out.2]; decide), if_pos HH.out, show rhex1 m c st = _ from by unfold rhex1; rw [if_pos HK.out, ← HLC.out]]
                        have zz : lc - 97 + 10 = lc - 87 := by omega
                        exact ⟨i + 1, ⟨IntKind.u64.wrap (IntKind.u64.wrap (st.man * 16) + (lc - 87)), st.nd + 1, st.nm + 1, st.dp, st.tr, st.dot, true⟩, r, by first | rfl | (rw [zz]; rfl) | rw [zz] | go_num, rfl, by go_num, rfl, rfl, rfl, by first | rfl | go_num, by first | rfl | go_num, by first | rfl | go_num, by omega, ⟨by dsimp only; omega, by dsimp only; omega, by dsimp only; omega, by dsimp only; omega, by dsimp only; omega, by dsimp only; omega⟩, ⟨HM.out.2.symm, hlen, hsc⟩, rfl⟩
                      case measure => exact Nat.lt_succ_self _
                  · have HK := Aside0.mk hk
                    rcases hsp with hsp | hsp
                    · go_wp2_with (first | (go_at_call 123; refine (C.out _).mono ?_; rintro e w' ⟨rfl, rfl⟩))
                      go_roundg k1
                      case rel =>
                        have hlen : r.length = k1 := by have := HL.out.2.1; rw [HM.out.1] at this; simpa using this
                        have hsc : rscan b m r ⟨st.man, st.nd + 1, st.nm, st.dp, true, st.dot, true⟩ = rscan b m L1 rs0 := by
                          rw [← HL.out.2.2, HM.out.1, rscan_cons, if_neg HE.out.1, if_neg (by rw [HE.out.2]; decide), if_pos HH.out, show rhex1 m c st = _ from by unfold rhex1; rw [if_neg (by have := HK.out; omega)]]
                        have zz : lc - 97 + 10 = lc - 87 := by omega
                        exact ⟨i + 1, ⟨st.man, st.nd + 1, st.nm, st.dp, true, st.dot, true⟩, r, by first | rfl | (rw [zz]; rfl) | rw [zz] | go_num, rfl, by go_num, rfl, rfl, rfl, by first | rfl | go_num, by first | rfl | go_num, by first | rfl | go_num, by omega, ⟨by dsimp only; omega, by dsimp only; omega, by dsimp only; omega, by dsimp only; omega, by dsimp only; omega, by dsimp only; omega⟩, ⟨HM.out.2.symm, hlen, hsc⟩, rfl⟩
                      case measure => exact Nat.lt_succ_self _
                    · go_wp2_with (first | (go_at_call 123; refine (C.out _).mono ?_; rintro e w' ⟨rfl, rfl⟩))
                      go_roundg k1
                      case rel =>
                        have hlen : r.length = k1 := by have := HL.out.2.1; rw [HM.out.1] at this; simpa using this
                        have hsc : rscan b m r ⟨st.man, st.nd + 1, st.nm, st.dp, true, st.dot, true⟩ = rscan b m L1 rs0 := by
                          rw [← HL.out.2.2, HM.out.1, rscan_cons, if_neg HE.out.1, if_neg (by rw [HE.out.2]; decide), if_pos HH.out, show rhex1 m c st = _ from by unfold rhex1; rw [if_neg (by have := HK.out; omega)]]
                        have zz : lc - 97 + 10 = lc - 87 := by omega
                        exact ⟨i + 1, ⟨st.man, st.nd + 1, st.nm, st.dp, true, st.dot, true⟩, r, by first | rfl | (rw [zz]; rfl) | rw [zz] | go_num, rfl, by go_num, rfl, rfl, rfl, by first | rfl | go_num, by first | rfl | go_num, by first | rfl | go_num, by omega, ⟨by dsimp only; omega, by dsimp only; omega, by dsimp only; omega, by dsimp only; omega, by dsimp only; omega, by dsimp only; omega⟩, ⟨HM.out.2.symm, hlen, hsc⟩, rfl⟩
                      case measure => exact Nat.lt_succ_self _
                · have HH := Aside0.mk l1
                  rcases hsp with hsp | hsp
                  · go_wp2_with (first | (go_at_call 123; refine (C.out _).mono ?_; rintro e w' ⟨rfl, rfl⟩))
                    go_meet
                    case rel =>
                      refine ⟨i, st, c :: r, rfl, rfl, rfl, rfl, rfl, rfl, rfl, rfl, rfl, by omega, ⟨by omega, by omega, by omega, by omega, by omega, by omega⟩, ⟨by rw [HL.out.1, HM.out.1], ?_⟩, rfl⟩
                      rw [← HL.out.2.2, HM.out.1, rscan_cons, if_neg HE.out.1, if_neg (by rw [HE.out.2]; decide), if_neg (by rintro ⟨h1, h2, h3⟩; rw [← HLC.out] at h3; have := HH.out; omega)]
                  · go_wp2_with (first | (go_at_call 123; refine (C.out _).mono ?_; rintro e w' ⟨rfl, rfl⟩))
                    go_meet
                    case rel =>
                      refine ⟨i, st, c :: r, rfl, rfl, rfl, rfl, rfl, rfl, rfl, rfl, rfl, by omega, ⟨by omega, by omega, by omega, by omega, by omega, by omega⟩, ⟨by rw [HL.out.1, HM.out.1], ?_⟩, rfl⟩
                      rw [← HL.out.2.2, HM.out.1, rscan_cons, if_neg HE.out.1, if_neg (by rw [HE.out.2]; decide), if_neg (by rintro ⟨h1, h2, h3⟩; rw [← HLC.out] at h3; have := HH.out; omega)]
              · have HH := Aside0.mk l0
                rcases hsp with hsp | hsp
                · go_wp2_with (first | (go_at_call 123; refine (C.out _).mono ?_; rintro e w' ⟨rfl, rfl⟩))
                  go_meet
                  case rel =>
                    refine ⟨i, st, c :: r, rfl, rfl, rfl, rfl, rfl, rfl, rfl, rfl, rfl, by omega, ⟨by omega, by omega, by omega, by omega, by omega, by omega⟩, ⟨by rw [HL.out.1, HM.out.1], ?_⟩, rfl⟩
                    rw [← HL.out.2.2, HM.out.1, rscan_cons, if_neg HE.out.1, if_neg (by rw [HE.out.2]; decide), if_neg (by rintro ⟨h1, h2, h3⟩; rw [← HLC.out] at h2; have := HH.out; omega)]
                · go_wp2_with (first | (go_at_call 123; refine (C.out _).mono ?_; rintro e w' ⟨rfl, rfl⟩))
                  go_meet
                  case rel =>
                    refine ⟨i, st, c :: r, rfl, rfl, rfl, rfl, rfl, rfl, rfl, rfl, rfl, by omega, ⟨by omega, by omega, by omega, by omega, by omega, by omega⟩, ⟨by rw [HL.out.1, HM.out.1], ?_⟩, rfl⟩
                    rw [← HL.out.2.2, HM.out.1, rscan_cons, if_neg HE.out.1, if_neg (by rw [HE.out.2]; decide), if_neg (by rintro ⟨h1, h2, h3⟩; rw [← HLC.out] at h2; have := HH.out; omega)]
  case rest =>
    obtain ⟨i, st, M, rfl, rfl, rfl, rfl, rfl, rfl, rfl, rfl, rfl, hi, ⟨b0, b1, b2, b3, b4, b5⟩, HL, rfl⟩ := hcut
    refine ‹∀ (a : Act) (w1 : World), Code.wp _ _ _ a w1 → _› _ _ ?_
    refine read_rest s hsz L ng hx HU w b m ec hb i st M hi ⟨HL.out.1, ?_⟩ b0 (by omega) b2 (by omega) (by omega) (by omega) _ rfl rfl rfl rfl rfl rfl rfl rfl rfl rfl rfl rfl rfl rfl rfl rfl rfl rfl
    rw [HL1.out.2]
    unfold rmain
    rw [HL.out.2]
end Go.Proofs.YtlkbhmmelejmjaaGreatDoor.FltReadD
