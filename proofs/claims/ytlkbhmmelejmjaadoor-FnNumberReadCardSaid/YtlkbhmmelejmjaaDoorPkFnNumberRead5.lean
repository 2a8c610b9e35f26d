/- Parts of the proof of FnNumberRead, one behind the other: FltBits, FltHexP, FltHex, FltFast2, FltNum. Each part says ahead of itself what it proves. -/
import Derived.Test.YtlkbhmmelejmjaaDoorPkFnNumberRead4
import Derived.LaidEqlPtr
import Derived.WalkLawsBesides

/- The decimal of the slow road: floatBits, walked. -/
namespace Go.Proofs.YtlkbhmmelejmjaaDoor.FltBits
open Go.RowKit Go.Proofs.YtlkbhmmelejmjaaDoorW.PrintWords Go.Proofs.YtlkbhmmelejmjaaDoor.NumKnown Go.Proofs.YtlkbhmmelejmjaaDoor.NumPure Go.Proofs.YtlkbhmmelejmjaaDoor.FltDec Go.Proofs.YtlkbhmmelejmjaaDoor.FltPure Go.Proofs.YtlkbhmmelejmjaaDoor.FltLeft Go.Proofs.YtlkbhmmelejmjaaDoor.FltRight Go.Proofs.YtlkbhmmelejmjaaDoor.FltLaw Go.Proofs.YtlkbhmmelejmjaaDoor.FltState Go.Proofs.YtlkbhmmelejmjaaDoor.FltShift Go.Proofs.YtlkbhmmelejmjaaDoor.FltBoth Go.Proofs.YtlkbhmmelejmjaaDoor.FltRound Go.Proofs.YtlkbhmmelejmjaaDoor.FltBitsP Go.Proofs.YtlkbhmmelejmjaaDoor.FltScope
set_option linter.unusedVariables false
set_option linter.unusedSimpArgs false

theorem jump2_ret {J0 J1 : Act → World → Prop} {Q : Exit → Act → World → Prop} {a : Act} {w : World} (h : Q .ret a w) : jump2 J0 J1 Q .ret a w := h
theorem jump2_zero {J0 J1 : Act → World → Prop} {Q : Exit → Act → World → Prop} {a : Act} {w : World} (h : J0 a w) : jump2 J0 J1 Q (.goto 0) a w := Or.inl ⟨rfl, h⟩
theorem jump2_one {J0 J1 : Act → World → Prop} {Q : Exit → Act → World → Prop} {a : Act} {w : World} (h : J1 a w) : jump2 J0 J1 Q (.goto 1) a w := Or.inr ⟨rfl, h⟩
/-- What a float of 64 bits is made of, below block B. -/
def FI (B G : Nat) (w : World) : Prop := G < B ∧ w.cell? ⟨G, 0, none⟩ = some (.int .u64 52) ∧ w.cell? ⟨G, 1, none⟩ = some (.int .u64 11) ∧ w.cell? ⟨G, 2, none⟩ = some (.int .i64 (-1023))
theorem FI.keep {B G p : Nat} {w w' : World} (h : FI B G w) (hb : Below p w w') (hp : B ≤ p) : FI B G w' := by
  obtain ⟨h1, h2, h3, h4⟩ := h
  exact ⟨h1, (hb.cell (p := ⟨G, 0, none⟩) (Nat.lt_of_lt_of_le h1 hp)).trans h2, (hb.cell (p := ⟨G, 1, none⟩) (Nat.lt_of_lt_of_le h1 hp)).trans h3, (hb.cell (p := ⟨G, 2, none⟩) (Nat.lt_of_lt_of_le h1 hp)).trans h4⟩
/-- The table of steps, below block B. -/
def PT (B : Nat) (w : World) : Prop := ∃ L o c, 6 < B ∧ L < B ∧ w.cell? ⟨6, 0, none⟩ = some (.slice (some ⟨L, o, none⟩) 9 c) ∧ ∀ k, k < 9 → w.cell? ⟨L, o + k, none⟩ = some (.int .i64 (pw k))
theorem PT.keep {B p : Nat} {w w' : World} (h : PT B w) (hb : Below p w w') (hp : B ≤ p) : PT B w' := by
  obtain ⟨L, o, c, h1, h2, h3, h4⟩ := h
  exact ⟨L, o, c, h1, h2, (hb.cell (p := ⟨6, 0, none⟩) (Nat.lt_of_lt_of_le h1 hp)).trans h3, fun k hk => (hb.cell (p := ⟨L, _, none⟩) (Nat.lt_of_lt_of_le h2 hp)).trans (h4 k hk)⟩

set_option maxRecDepth 100000 in
def J0 (p G B : Nat) (M X : Int) (ov : Bool) (ng : Bool) (w : World) : Act → World → Prop := fun a w' => ∃ (v4 : Value) (u : Nat → Value), a = { tmps := #[.pointer (some ⟨p, 0, none⟩), .pointer (some ⟨G, 0, none⟩), undef, undef, v4, .bool ov, .int .i64 X, .int .u64 M, u 8, u 9, u 10, u 11, u 12, u 13, u 14, u 15, u 16, u 17, u 18, u 19, u 20, u 21, u 22, u 23, u 24, u 25, u 26, u 27, u 28, u 29, u 30, u 31, u 32, u 33, u 34, u 35, u 36, u 37, u 38, u 39, u 40, u 41, u 42, u 43, u 44, u 45, u 46, u 47, u 48, u 49, u 50, u 51, u 52, u 53, u 54, u 55, u 56, u 57, u 58, u 59, u 60, u 61, u 62, u 63, u 64, u 65, u 66, u 67, u 68, u 69, u 70, u 71, u 72, u 73, u 74, u 75, u 76, u 77, u 78, u 79, u 80, u 81, u 82, u 83, u 84, u 85, u 86, u 87, u 88, u 89, u 90, u 91, u 92, u 93, u 94, u 95, u 96, u 97, u 98, u 99, u 100, u 101, u 102, u 103, u 104, u 105, u 106, u 107, u 108, u 109, u 110, u 111, u 112, u 113, u 114, u 115, u 116, u 117, u 118, u 119, u 120, u 121, u 122, u 123, u 124, u 125, u 126, u 127, u 128, u 129, u 130, u 131, u 132, u 133, u 134, u 135, u 136, u 137, u 138, u 139, u 140, u 141, u 142, u 143, u 144, u 145, u 146, u 147, u 148, u 149, u 150, u 151, u 152, u 153, u 154, u 155, u 156, u 157, u 158, u 159, u 160, u 161, u 162, u 163, u 164, u 165, u 166, u 167, u 168, u 169, u 170, u 171, u 172, u 173, u 174, u 175, u 176, u 177, u 178, u 179, u 180, u 181, u 182, u 183, u 184, u 185, u 186, u 187, u 188, u 189, u 190, u 191, u 192, u 193, u 194, u 195, u 196, u 197, u 198, u 199, u 200, u 201, u 202, u 203, u 204, u 205, u 206, u 207, u 208, u 209, u 210, u 211, u 212, u 213, u 214, u 215, u 216, u 217, u 218, u 219, u 220, u 221, u 222, u 223, u 224, u 225, u 226, u 227, u 228, u 229, u 230, u 231, u 232, u 233, u 234, u 235, u 236, u 237, u 238, u 239, u 240, u 241, u 242], defers := [] } ∧ Aside0 (w'.cell? ⟨p, 802, none⟩ = some (.bool ng) ∧ FI B G w' ∧ Below p w w')
set_option maxRecDepth 100000 in
def J1 (p G B : Nat) (s : St) (ng : Bool) (w : World) : Act → World → Prop := fun a w' => ∃ (v4 v5 v6 v7 : Value) (u : Nat → Value), a = { tmps := #[.pointer (some ⟨p, 0, none⟩), .pointer (some ⟨G, 0, none⟩), undef, undef, v4, v5, v6, v7, u 8, u 9, u 10, u 11, u 12, u 13, u 14, u 15, u 16, u 17, u 18, u 19, u 20, u 21, u 22, u 23, u 24, u 25, u 26, u 27, u 28, u 29, u 30, u 31, u 32, u 33, u 34, u 35, u 36, u 37, u 38, u 39, u 40, u 41, u 42, u 43, u 44, u 45, u 46, u 47, u 48, u 49, u 50, u 51, u 52, u 53, u 54, u 55, u 56, u 57, u 58, u 59, u 60, u 61, u 62, u 63, u 64, u 65, u 66, u 67, u 68, u 69, u 70, u 71, u 72, u 73, u 74, u 75, u 76, u 77, u 78, u 79, u 80, u 81, u 82, u 83, u 84, u 85, u 86, u 87, u 88, u 89, u 90, u 91, u 92, u 93, u 94, u 95, u 96, u 97, u 98, u 99, u 100, u 101, u 102, u 103, u 104, u 105, u 106, u 107, u 108, u 109, u 110, u 111, u 112, u 113, u 114, u 115, u 116, u 117, u 118, u 119, u 120, u 121, u 122, u 123, u 124, u 125, u 126, u 127, u 128, u 129, u 130, u 131, u 132, u 133, u 134, u 135, u 136, u 137, u 138, u 139, u 140, u 141, u 142, u 143, u 144, u 145, u 146, u 147, u 148, u 149, u 150, u 151, u 152, u 153, u 154, u 155, u 156, u 157, u 158, u 159, u 160, u 161, u 162, u 163, u 164, u 165, u 166, u 167, u 168, u 169, u 170, u 171, u 172, u 173, u 174, u 175, u 176, u 177, u 178, u 179, u 180, u 181, u 182, u 183, u 184, u 185, u 186, u 187, u 188, u 189, u 190, u 191, u 192, u 193, u 194, u 195, u 196, u 197, u 198, u 199, u 200, u 201, u 202, u 203, u 204, u 205, u 206, u 207, u 208, u 209, u 210, u 211, u 212, u 213, u 214, u 215, u 216, u 217, u 218, u 219, u 220, u 221, u 222, u 223, u 224, u 225, u 226, u 227, u 228, u 229, u 230, u 231, u 232, u 233, u 234, u 235, u 236, u 237, u 238, u 239, u 240, u 241, u 242], defers := [] } ∧ Aside0 (over s = true ∧ w'.cell? ⟨p, 802, none⟩ = some (.bool ng) ∧ FI B G w' ∧ Below p w w')

/-- The bits of mantissa M and exponent X; with the sign. -/
def outB (M X : Int) : Int := bits .or .u64 (bits .and .u64 M 4503599627370495) (IntKind.u64.wrap (IntKind.u64.wrap (bits .and .i64 (wrap64 (X + 1023)) 2047) * 4503599627370496))
def signB (ng : Bool) (b : Int) : Int := if ng then bits .or .u64 b 9223372036854775808 else b
set_option maxRecDepth 100000 in
theorem frame_of (t : Array Value) (h : t.size = 243) : ∃ u : Nat → Value, t = #[u 0, u 1, u 2, u 3, u 4, u 5, u 6, u 7, u 8, u 9, u 10, u 11, u 12, u 13, u 14, u 15, u 16, u 17, u 18, u 19, u 20, u 21, u 22, u 23, u 24, u 25, u 26, u 27, u 28, u 29, u 30, u 31, u 32, u 33, u 34, u 35, u 36, u 37, u 38, u 39, u 40, u 41, u 42, u 43, u 44, u 45, u 46, u 47, u 48, u 49, u 50, u 51, u 52, u 53, u 54, u 55, u 56, u 57, u 58, u 59, u 60, u 61, u 62, u 63, u 64, u 65, u 66, u 67, u 68, u 69, u 70, u 71, u 72, u 73, u 74, u 75, u 76, u 77, u 78, u 79, u 80, u 81, u 82, u 83, u 84, u 85, u 86, u 87, u 88, u 89, u 90, u 91, u 92, u 93, u 94, u 95, u 96, u 97, u 98, u 99, u 100, u 101, u 102, u 103, u 104, u 105, u 106, u 107, u 108, u 109, u 110, u 111, u 112, u 113, u 114, u 115, u 116, u 117, u 118, u 119, u 120, u 121, u 122, u 123, u 124, u 125, u 126, u 127, u 128, u 129, u 130, u 131, u 132, u 133, u 134, u 135, u 136, u 137, u 138, u 139, u 140, u 141, u 142, u 143, u 144, u 145, u 146, u 147, u 148, u 149, u 150, u 151, u 152, u 153, u 154, u 155, u 156, u 157, u 158, u 159, u 160, u 161, u 162, u 163, u 164, u 165, u 166, u 167, u 168, u 169, u 170, u 171, u 172, u 173, u 174, u 175, u 176, u 177, u 178, u 179, u 180, u 181, u 182, u 183, u 184, u 185, u 186, u 187, u 188, u 189, u 190, u 191, u 192, u 193, u 194, u 195, u 196, u 197, u 198, u 199, u 200, u 201, u 202, u 203, u 204, u 205, u 206, u 207, u 208, u 209, u 210, u 211, u 212, u 213, u 214, u 215, u 216, u 217, u 218, u 219, u 220, u 221, u 222, u 223, u 224, u 225, u 226, u 227, u 228, u 229, u 230, u 231, u 232, u 233, u 234, u 235, u 236, u 237, u 238, u 239, u 240, u 241, u 242] := by
  refine ⟨fun i => t.getD i undef, ?_⟩
  have e : t = ((List.range 243).map fun i => t.getD i undef).toArray := by
    apply Array.ext
    · simp [h]
    · intro i h1 h2
      simp [Array.getD, h1]
  exact e
set_option maxRecDepth 100000 in
theorem J0_of {p G B : Nat} {M X : Int} {ov : Bool} {ng : Bool} {w w' : World} {t : Array Value} (hsz : t.size = 243) (h0 : t[0]? = some (.pointer (some ⟨p, 0, none⟩))) (h1 : t[1]? = some (.pointer (some ⟨G, 0, none⟩))) (h2 : t[2]? = some undef) (h3 : t[3]? = some undef) (h5 : t[5]? = some (.bool ov)) (h6 : t[6]? = some (.int .i64 X)) (h7 : t[7]? = some (.int .u64 M)) (H : w'.cell? ⟨p, 802, none⟩ = some (.bool ng) ∧ FI B G w' ∧ Below p w w') : J0 p G B M X ov ng w { tmps := t, defers := [] } w' := by
  obtain ⟨u, rfl⟩ := frame_of t hsz
  have e0 : u 0 = .pointer (some ⟨p, 0, none⟩) := Option.some.inj h0
  have e1 : u 1 = .pointer (some ⟨G, 0, none⟩) := Option.some.inj h1
  have e2 : u 2 = undef := Option.some.inj h2
  have e3 : u 3 = undef := Option.some.inj h3
  have e5 : u 5 = .bool ov := Option.some.inj h5
  have e6 : u 6 = .int .i64 X := Option.some.inj h6
  have e7 : u 7 = .int .u64 M := Option.some.inj h7
  refine ⟨u 4, u, ?_, ⟨H⟩⟩
  rw [e0, e1, e2, e3, e5, e6, e7]
set_option maxRecDepth 100000 in
theorem J1_of {p G B : Nat} {s : St} {ng : Bool} {w w' : World} {t : Array Value} (hsz : t.size = 243) (h0 : t[0]? = some (.pointer (some ⟨p, 0, none⟩))) (h1 : t[1]? = some (.pointer (some ⟨G, 0, none⟩))) (h2 : t[2]? = some undef) (h3 : t[3]? = some undef) (H : over s = true ∧ w'.cell? ⟨p, 802, none⟩ = some (.bool ng) ∧ FI B G w' ∧ Below p w w') : J1 p G B s ng w { tmps := t, defers := [] } w' := by
  obtain ⟨u, rfl⟩ := frame_of t hsz
  have e0 : u 0 = .pointer (some ⟨p, 0, none⟩) := Option.some.inj h0
  have e1 : u 1 = .pointer (some ⟨G, 0, none⟩) := Option.some.inj h1
  have e2 : u 2 = undef := Option.some.inj h2
  have e3 : u 3 = undef := Option.some.inj h3
  refine ⟨u 4, u 5, u 6, u 7, u, ?_, ⟨H⟩⟩
  rw [e0, e1, e2, e3]

theorem rsI_law : ∀ (f m : Nat) (s : St), s.Good → m ≤ f → (rsI f m s).Good ∧ s.dp - 19 * ((m / 60 : Nat) + 1 : Int) ≤ (rsI f m s).dp ∧ (rsI f m s).dp ≤ s.dp
  | 0, m, s, hs, h => by
    obtain rfl : m = 0 := by omega
    have := rs_dp hs (k := 0) (by omega)
    exact ⟨rs_good hs (by omega), by show s.dp - 19 * ((0 / 60 : Nat) + 1 : Int) ≤ (rs 0 s).dp; omega, this.2⟩
  | f + 1, m, s, hs, h => by
    unfold rsI
    split
    · next g =>
      have := rs_dp hs (k := 60) (by omega)
      obtain ⟨q1, q2, q3⟩ := rsI_law f (m - 60) (rs 60 s) (rs_good hs (by omega)) (by omega)
      refine ⟨q1, ?_, by omega⟩
      have e : m / 60 = (m - 60) / 60 + 1 := by omega
      omega
    · next g =>
      have := rs_dp hs (k := m) (by omega)
      exact ⟨rs_good hs (by omega), by omega, this.2⟩
theorem At_drewN {s : St} {p : Nat} {ng : Bool} {w : World} (h : s.At p ng w) (n : Nat) : s.At p ng (w.drewN n) := by
  obtain ⟨g, hD, hg⟩ := h
  exact ⟨g, hD.drewN n, hg⟩
theorem At_ng {s : St} {p : Nat} {ng : Bool} {w : World} (h : s.At p ng w) : w.cell? ⟨p, 802, none⟩ = some (.bool ng) := by
  obtain ⟨g, hD, _⟩ := h
  exact hD.ng

def BitsP (p : Nat) (s : St) (ng : Bool) (w : World) (e : Ending) (w' : World) : Prop := e = .returned (.tuple #[.int .u64 (signB ng (outB (fM s) (fX s))), .bool (over s)]) ∧ Below p w w'

set_option maxHeartbeats 16000000 in
set_option maxRecDepth 100000 in
theorem bits_walk (p G B : Nat) (ng : Bool) (s : St) (hs : s.Good) (hB : B ≤ p) (w : World) (ha : s.At p ng w) (hF : FI B G w) (hP : PT B w) (hT : LTb B w) : Calls Tryd.prog 60 #[.pointer (some ⟨p, 0, none⟩), .pointer (some ⟨G, 0, none⟩)] w (BitsP p s ng w) := by
  go_enter Tryd.func60, Tryd.ntmps60
  go_wp2_with fail
  refine wp_scope_get (J0 p G B (fM s) (fX s) (over s) ng w) (J1 p G B s ng w) (by rfl) (by rfl) ?first ?pass1 ?pass0
  case pass0 =>
    clear ha hF hP hT hs
    rintro a w' ⟨v4, u, rfl, HH⟩
    have hng := HH.out.1
    obtain ⟨_, hf0, hf1, hf2⟩ := HH.out.2.1
    have hbel := HH.out.2.2
    unfold BitsP
    generalize fM s = M
    generalize fX s = X
    generalize over s = ov
    have e0 : outB M X = bits .or .u64 (bits .and .u64 M 4503599627370495) (IntKind.u64.wrap (IntKind.u64.wrap (bits .and .i64 (wrap64 (X + 1023)) 2047) * 4503599627370496)) := rfl
    replace e0 := Aside0.mk e0
    simp only [findLabel, Option.getD, reduceCtorEq, if_true, if_false, Nat.reduceBEq, beq_self_eq_true]
    cases ng with
    | true =>
      go_wp2_with fail
      go_quiet (fail)
      go_wp2_with fail
      go_quiet (fail)
      go_wp2_with fail
      refine jump2_ret ?_
      go_ret2
      · exact ⟨rfl, Below.drewN (Below.drewN hbel _) _⟩
    | false =>
      go_wp2_with fail
      go_quiet (fail)
      go_wp2_with fail
      refine jump2_ret ?_
      go_ret2
      · exact ⟨rfl, Below.drewN hbel _⟩
  case pass1 =>
    clear ha hF hP hT hs
    rintro a w' ⟨v4, v5, v6, v7, u, rfl, HH⟩
    have hng := HH.out.2.1
    have hov := HH.out.1
    obtain ⟨_, hf0, hf1, hf2⟩ := HH.out.2.2.1
    have hbel := HH.out.2.2.2
    have eM : fM s = 0 := by unfold fM; rw [if_pos hov]
    have eX : fX s = 1024 := by unfold fX; rw [if_pos hov]
    unfold BitsP
    rw [eM, eX, hov]
    clear eM eX hov
    simp only [findLabel, Option.getD, reduceCtorEq, if_true, if_false, Nat.reduceBEq, beq_self_eq_true]
    cases ng with
    | true =>
      go_wp2_with fail
      go_quiet (fail)
      go_wp2_with fail
      go_step3
      go_wp2_with fail
      go_quiet (fail)
      go_wp2_with fail
      go_quiet (fail)
      go_wp2_with fail
      refine jump2_ret ?_
      go_ret2
      · exact ⟨by kernel_rfl, Below.drewN (Below.drewN hbel _) _⟩
    | false =>
      go_wp2_with fail
      go_quiet (fail)
      go_wp2_with fail
      go_step3
      go_wp2_with fail
      go_quiet (fail)
      go_wp2_with fail
      refine jump2_ret ?_
      go_ret2
      · exact ⟨by kernel_rfl, Below.drewN hbel _⟩
  case first =>
    have hone := hs.one
    have hn0 : ((s.n : Int) == 0) = false := by rw [beq_eq_false_iff_ne]; omega
    have hnd := At_nd ha
    have hdp := At_dp ha
    have hng := At_ng ha
    obtain ⟨_, hf0, hf1, hf2⟩ := id hF
    by_cases h310 : 310 < s.dp
    · have hov : over s = true := by unfold over; simp [h310]
      replace hov := Aside0.mk hov
      go_wp2_with fail
      go_step3
      refine Or.inr ⟨rfl, J1_of rfl rfl rfl rfl rfl ⟨hov.out, hng, hF, Below.refl _ _⟩⟩
    by_cases h330 : s.dp < -330
    · have hov : over s = false := by unfold over; simp [h310, h330]
      have hM : fM s = 0 := by unfold fM; rw [hov]; simp [h330]
      have hX : fX s = -1023 := by unfold fX; rw [hov]; simp [h330]
      have HV := Aside0.mk (And.intro hov (And.intro hM hX))
      clear hov hM hX
      go_wp2_with fail
      go_step3
      refine Or.inl ⟨rfl, J0_of rfl rfl rfl rfl rfl ?_ ?_ ?_ ⟨hng, hF, Below.refl _ _⟩⟩
      · rw [HV.out.1]; rfl
      · rw [HV.out.2.2]; rfl
      · rw [HV.out.2.1]; rfl
    have HS := Aside0.mk (And.intro hs (And.intro ha (And.intro hF (And.intro hP hT))))
    have hdm : m1 s ≤ 3109 := by have := (d0_in hs).2; unfold m1; omega
    have HD := Aside0.mk (And.intro h310 (And.intro h330 hdm))
    go_upto_block 0 with (fail)
    clear hs ha hF hP hT hn0 hnd hdp hng hf0 hf1 hf2 hone h310 h330 hdm
    go_cut [6] (fun v6 wc => ∃ (t : St) (x : Int), v6 = .int .i64 x ∧ Aside0 (s1 s = (t, x) ∧ t.Good ∧ -330 ≤ t.dp ∧ t.dp ≤ 0 ∧ 0 ≤ x ∧ x ≤ 90000 ∧ t.At p ng wc ∧ Below p w wc))
    case first =>
      go_wp2_with fail
      go_loopg [6] (m1 s) (fun kq v6 wx => ∃ (t : St) (x : Int), v6 = .int .i64 x ∧ Aside0 (t.Good ∧ -330 ≤ t.dp ∧ t.dp ≤ 310 ∧ m1 t ≤ kq ∧ 0 ≤ x ∧ x + 27 * kq ≤ 90000 ∧ up kq t x = s1 s ∧ t.At p ng wx ∧ Below p w wx))
      case atStart =>
        have := HD.out
        exact ⟨s, 0, rfl, ⟨HS.out.1, by omega, by omega, Nat.le_refl _, Int.le_refl _, by omega, rfl, HS.out.2.1, Below.refl _ _⟩⟩
      case round =>
        obtain ⟨t, x, rfl, HL⟩ := hrel
        obtain ⟨L, o, c, hL0, hL1, hL2, hL3⟩ := HS.out.2.2.2.1.keep HL.out.2.2.2.2.2.2.2.2 hB
        have hdp := At_dp HL.out.2.2.2.2.2.2.2.1
        have hx0 : 0 ≤ x := HL.out.2.2.2.2.1
        have hx1 : x ≤ 90000 := by have := HL.out.2.2.2.2.2.1; omega
        by_cases g0 : 0 < t.dp
        · obtain ⟨d, hd⟩ : ∃ d : Nat, (d : Int) = t.dp := ⟨t.dp.toNat, by omega⟩
          rw [← hd] at hdp
          have hdt : t.dp.toNat = d := by omega
          have gd : 0 < d := by omega
          have hd310 : d ≤ 310 := by have := HL.out.2.2.1; omega
          cases gk with
          | zero => exact absurd HL.out.2.2.2.1 (by unfold m1; omega)
          | succ k1 =>
          have C0 := fun n h1 h2 q => shiftR_walk p n ng t HL.out.1 h1 h2 (by omega) (by omega) (wr.drewN q) (At_drewN HL.out.2.2.2.2.2.2.2.1 q)
          have HE := Aside0.mk (And.intro hd hdt)
          clear hd hdt g0
          by_cases g9 : 9 ≤ d
          · have C := Aside0.mk (C0 27 (by omega) (by omega))
            have hp27 : pw d = 27 := by
              unfold pw
              rw [List.getD_eq_getElem?_getD, List.getElem?_eq_none (by simpa using g9)]
              rfl
            replace hp27 := Aside0.mk hp27
            clear hL3 C0
            go_wp2_with fail
            go_quiet (fail)
            go_wp2_with fail
            refine (C.out _).mono ?_
            rintro e w1 ⟨rfl, hat, hb⟩
            have HAT := Aside0.mk hat
            have HB := Aside0.mk hb
            clear hat hb
            go_wp2_with fail
            go_roundg k1
            case rel =>
              obtain ⟨q1, q2, q3, q4, q5, q6, q7, q8, q9⟩ := HL.out
              obtain ⟨r1, r2⟩ := HE.out
              have hr := rs_dp q1 (k := pw d) (by have := pw_in d; omega)
              have hl := m1_less q1 (k := pw d) (by omega) (pw_in _).1 (by have := pw_in d; omega)
              have hp := pw_in d
              have hq := hp27.out
              refine ⟨rs (pw d) t, x + (pw d : Nat), ?_, ⟨rs_good q1 (by omega), by omega, by omega, by omega, by omega, by omega, ?_, ?_, (Below.drewN q9 _).trans HB.out⟩⟩
              · first | (rw [hq]; done) | (rw [hq]; rfl)
              · rw [← q7]
                conv => rhs; unfold up
                rw [if_pos (by omega), r2]
              · rw [hq]
                have := HAT.out
                rwa [rsI_small (by omega)] at this
            case measure => exact Nat.lt_succ_self _
          · have hc := hL3 d (by omega)
            obtain ⟨n, hn⟩ : ∃ n : Nat, n = pw d := ⟨_, rfl⟩
            rw [← hn] at hc
            have hn1 : 1 ≤ n := by have := pw_in d; omega
            have hn2 : n ≤ 27 := by have := pw_in d; omega
            have C := Aside0.mk (C0 n (by omega) (by omega))
            have hp27 := Aside0.mk hn.symm
            clear hL3 C0 hn
            have a1 : wrap64 (-(n : Int)) = -(n : Int) := by unfold wrap64; omega
            go_wp2_with fail
            go_quiet (fail)
            go_wp2_with fail
            go_quiet (fail)
            go_wp2_with fail
            refine (C.out _).mono ?_
            rintro e w1 ⟨rfl, hat, hb⟩
            have HAT := Aside0.mk hat
            have HB := Aside0.mk hb
            clear hat hb
            go_wp2_with fail
            go_roundg k1
            case rel =>
              obtain ⟨q1, q2, q3, q4, q5, q6, q7, q8, q9⟩ := HL.out
              obtain ⟨r1, r2⟩ := HE.out
              have hr := rs_dp q1 (k := pw d) (by have := pw_in d; omega)
              have hl := m1_less q1 (k := pw d) (by omega) (pw_in _).1 (by have := pw_in d; omega)
              have hp := pw_in d
              have hq := hp27.out
              refine ⟨rs (pw d) t, x + (pw d : Nat), ?_, ⟨rs_good q1 (by omega), by omega, by omega, by omega, by omega, by omega, ?_, ?_, (Below.drewN q9 _).trans HB.out⟩⟩
              · first | (rw [hq]; done) | (rw [hq]; rfl)
              · rw [← q7]
                conv => rhs; unfold up
                rw [if_pos (by omega), r2]
              · rw [hq]
                have := HAT.out
                rwa [rsI_small (by omega)] at this
            case measure => exact Nat.lt_succ_self _
        · go_wp2_with fail
          go_meet
          case rel =>
            obtain ⟨q1, q2, q3, q4, q5, q6, q7, q8, q9⟩ := HL.out
            refine ⟨t, x, rfl, ⟨?_, q1, q2, by omega, q5, by omega, q8, q9⟩⟩
            rw [← q7, up_end (by omega)]
    case rest =>
      obtain ⟨t, x, rfl, HT⟩ := hcut
      have hdm : m2 t ≤ 3309 := by have := d0_in HT.out.2.1; have := HT.out.2.2.1; unfold m2; omega
      replace hdm := Aside0.mk hdm
      go_upto_block 2 with (fail)
      go_cut [6] from 61 to 102 (fun v6 wd => ∃ (t : St) (x : Int), v6 = .int .i64 x ∧ Aside0 (s2 s = (t, x) ∧ t.Good ∧ -330 ≤ t.dp ∧ t.dp ≤ 20 ∧ -100000 ≤ x ∧ x ≤ 90000 ∧ t.At p ng wd ∧ Below p w wd))
      case first =>
        go_wp2_with fail
        go_loopg [6] (m2 t) (fun kq v6 wx => ∃ (t' : St) (x' : Int), v6 = .int .i64 x' ∧ Aside0 (t'.Good ∧ -330 ≤ t'.dp ∧ t'.dp ≤ 20 ∧ m2 t' ≤ kq ∧ x' ≤ 90000 ∧ -100000 + 27 * kq ≤ x' ∧ dn kq t' x' = s2 s ∧ t'.At p ng wx ∧ Below p w wx))
        case atStart =>
          obtain ⟨q1, q2, q3, q4, q5, q6, q7, q8⟩ := HT.out
          have := hdm.out
          refine ⟨t, x, rfl, ⟨q2, q3, by omega, Nat.le_refl _, by omega, by omega, ?_, q7, q8⟩⟩
          unfold s2
          rw [q1]
        case round =>
          obtain ⟨t', x', rfl, HL⟩ := hrel
          have hFw := HS.out.2.2.2.2.keep HL.out.2.2.2.2.2.2.2.2 hB
          obtain ⟨L, o, c, hL0, hL1, hL2, hL3⟩ := HS.out.2.2.2.1.keep HL.out.2.2.2.2.2.2.2.2 hB
          have hdp := At_dp HL.out.2.2.2.2.2.2.2.1
          have hx0 : -100000 ≤ x' := by have := HL.out.2.2.2.2.2.1; omega
          have hx1 : x' ≤ 90000 := HL.out.2.2.2.2.1
          have C0 := fun n h1 h2 q => shiftL_walk p n ng t' HL.out.1 h1 h2 (by have := HL.out.2.1; omega) (by have := HL.out.2.2.1; omega) (wr.drewN q) (At_drewN HL.out.2.2.2.2.2.2.2.1 q) ((hFw.keep (Below.drewN (Below.refl p wr) q) hB).tab)
          have HFW := Aside0.mk hFw
          clear hFw
          have hc0 := At_dig HL.out.1 HL.out.2.2.2.2.2.2.2.1 0 HL.out.1.one
          have hd0 : dv t'.F 0 = d0 t' := rfl
          rw [hd0] at hc0
          obtain ⟨D0, hD0⟩ : ∃ D0, D0 = d0 t' := ⟨_, rfl⟩
          rw [← hD0] at hc0
          clear hd0
          by_cases g0 : t'.dp < 0
          · obtain ⟨d, hd⟩ : ∃ d : Nat, t'.dp = -(d : Int) := ⟨(-t'.dp).toNat, by omega⟩
            rw [hd] at hdp
            have hdt : (-t'.dp).toNat = d := by omega
            have gd : 0 < d := by omega
            have hd330 : d ≤ 330 := by have := HL.out.2.1; omega
            cases gk with
            | zero => exact absurd HL.out.2.2.2.1 (by have := d0_in HL.out.1; unfold m2; omega)
            | succ k1 =>
            have HE := Aside0.mk (And.intro hd (And.intro hdt (Or.inl g0 : t'.dp < 0 ∨ (t'.dp = 0 ∧ d0 t' < 5))))
            have H0 := Aside0.mk hD0
            clear hd hdt g0 hD0
            have a2 : wrap64 (d : Int) = (d : Int) := by unfold wrap64; omega
            by_cases g9 : 9 ≤ d
            · have C := Aside0.mk (C0 27 (by omega) (by omega))
              have hp27 : pw d = 27 := by
                unfold pw
                rw [List.getD_eq_getElem?_getD, List.getElem?_eq_none (by simpa using g9)]
                rfl
              replace hp27 := Aside0.mk hp27
              clear hL3 C0
              go_wp2_with fail
              go_quiet (fail)
              go_wp2_with fail
              refine (C.out _).mono ?_
              rintro e w1 ⟨rfl, hat, hb⟩
              have HAT := Aside0.mk hat
              have HB := Aside0.mk hb
              clear hat hb
              go_wp2_with fail
              go_roundg k1
              case rel =>
                obtain ⟨q1, q2, q3, q4, q5, q6, q7, q8, q9⟩ := HL.out
                obtain ⟨r1, r2, r3⟩ := HE.out
                have hr := ls_dp q1 (k := pw d) (pw_in _).1 (by have := pw_in d; omega)
                have hl := m2_less q1 r3 (k := pw d) (pw_in _).1 (by have := pw_in d; omega)
                have hp := pw_in d
                have hq := hp27.out
                have h20 : (ls (pw d) t').dp ≤ 20 := by omega
                refine ⟨ls (pw d) t', x' - (pw d : Nat), ?_, ⟨ls_good q1 (by omega) (by omega), by omega, h20, by omega, by omega, by omega, ?_, ?_, (Below.drewN q9 _).trans HB.out⟩⟩
                · first | (rw [hq]; done) | (rw [hq]; rfl)
                · rw [← q7]
                  conv => rhs; unfold dn
                  rw [if_pos r3, r2]
                · rw [hq]
                  exact HAT.out
              case measure => exact Nat.lt_succ_self _
            · have hc := hL3 d (by omega)
              obtain ⟨n, hn⟩ : ∃ n : Nat, n = pw d := ⟨_, rfl⟩
              rw [← hn] at hc
              have hn1 : 1 ≤ n := by have := pw_in d; omega
              have hn2 : n ≤ 27 := by have := pw_in d; omega
              have C := Aside0.mk (C0 n (by omega) (by omega))
              have hp27 := Aside0.mk hn.symm
              clear hL3 C0 hn
              go_wp2_with fail
              go_quiet (fail)
              go_wp2_with fail
              go_quiet (fail)
              go_wp2_with fail
              refine (C.out _).mono ?_
              rintro e w1 ⟨rfl, hat, hb⟩
              have HAT := Aside0.mk hat
              have HB := Aside0.mk hb
              clear hat hb
              go_wp2_with fail
              go_roundg k1
              case rel =>
                obtain ⟨q1, q2, q3, q4, q5, q6, q7, q8, q9⟩ := HL.out
                obtain ⟨r1, r2, r3⟩ := HE.out
                have hr := ls_dp q1 (k := pw d) (pw_in _).1 (by have := pw_in d; omega)
                have hl := m2_less q1 r3 (k := pw d) (pw_in _).1 (by have := pw_in d; omega)
                have hp := pw_in d
                have hq := hp27.out
                have h20 : (ls (pw d) t').dp ≤ 20 := by omega
                refine ⟨ls (pw d) t', x' - (pw d : Nat), ?_, ⟨ls_good q1 (by omega) (by omega), by omega, h20, by omega, by omega, by omega, ?_, ?_, (Below.drewN q9 _).trans HB.out⟩⟩
                · first | (rw [hq]; done) | (rw [hq]; rfl)
                · rw [← q7]
                  conv => rhs; unfold dn
                  rw [if_pos r3, r2]
                · rw [hq]
                  exact HAT.out
              case measure => exact Nat.lt_succ_self _
          · by_cases g5 : t'.dp = 0 ∧ D0 < 5
            · obtain ⟨d, hd⟩ : ∃ d : Nat, d = 0 := ⟨0, rfl⟩
              rw [g5.1] at hdp
              have g50 := g5.2
              cases gk with
              | zero => exact absurd HL.out.2.2.2.1 (by have := d0_in HL.out.1; have := g5.1; unfold m2; omega)
              | succ k1 =>
              have HE := Aside0.mk (And.intro (show t'.dp = -(d : Int) by rw [g5.1, hd]; rfl) (And.intro (show (-t'.dp).toNat = d by rw [g5.1, hd]; rfl) (Or.inr ⟨g5.1, by omega⟩ : t'.dp < 0 ∨ (t'.dp = 0 ∧ d0 t' < 5))))
              have H0 := Aside0.mk hD0
              have hp27 : pw d = 1 := by rw [hd]; rfl
              have hc := hL3 0 (by omega)
              have hc1 : pw 0 = 1 := rfl
              rw [hc1, Nat.add_zero] at hc
              have C := Aside0.mk (C0 1 (by omega) (by omega))
              replace hp27 := Aside0.mk hp27
              clear hL3 C0 g5 g0 hc1 hD0 hd
              go_wp2_with fail
              go_quiet (fail)
              go_wp2_with fail
              go_quiet (fail)
              go_wp2_with fail
              refine (C.out _).mono ?_
              rintro e w1 ⟨rfl, hat, hb⟩
              have HAT := Aside0.mk hat
              have HB := Aside0.mk hb
              clear hat hb
              go_wp2_with fail
              go_roundg k1
              case rel =>
                obtain ⟨q1, q2, q3, q4, q5, q6, q7, q8, q9⟩ := HL.out
                obtain ⟨r1, r2, r3⟩ := HE.out
                have hr := ls_dp q1 (k := pw d) (pw_in _).1 (by have := pw_in d; omega)
                have hl := m2_less q1 r3 (k := pw d) (pw_in _).1 (by have := pw_in d; omega)
                have hp := pw_in d
                have hq := hp27.out
                have h20 : (ls (pw d) t').dp ≤ 20 := by omega
                refine ⟨ls (pw d) t', x' - (pw d : Nat), ?_, ⟨ls_good q1 (by omega) (by omega), by omega, h20, by omega, by omega, by omega, ?_, ?_, (Below.drewN q9 _).trans HB.out⟩⟩
                · first | (rw [hq]; done) | (rw [hq]; rfl)
                · rw [← q7]
                  conv => rhs; unfold dn
                  rw [if_pos r3, r2]
                · rw [hq]
                  exact HAT.out
              case measure => exact Nat.lt_succ_self _
            · have HG := Aside0.mk (And.intro g0 (And.intro g5 hD0))
              have gex : ¬ (t'.dp < 0 ∨ (t'.dp = 0 ∧ d0 t' < 5)) := by omega
              have hrel : dn gk t' x' = (t', x') := dn_end gex x' gk
              have hfin : s2 s = (t', x') := by rw [← HL.out.2.2.2.2.2.2.1, hrel]
              replace hfin := Aside0.mk hfin
              clear gex hrel
              by_cases g1 : t'.dp = 0
              · have g6 : 5 ≤ D0 := by omega
                rw [g1] at hdp
                have G1 := Aside0.mk g1
                clear g0 g5 g1 hD0 C0 hL3
                go_wp2_with fail
                go_meet
                case rel =>
                  obtain ⟨q1, q2, q3, q4, q5, q6, q7, q8, q9⟩ := HL.out
                  exact ⟨t', x', rfl, ⟨hfin.out, q1, q2, q3, by omega, q5, q8, q9⟩⟩
              · have g6 : 0 < t'.dp := by omega
                clear g0 g5 hD0 C0 hL3
                go_wp2_with fail
                go_meet
                case rel =>
                  obtain ⟨q1, q2, q3, q4, q5, q6, q7, q8, q9⟩ := HL.out
                  exact ⟨t', x', rfl, ⟨hfin.out, q1, q2, q3, by omega, q5, q8, q9⟩⟩
      case rest =>
        obtain ⟨t2, x2, rfl, HT2⟩ := hcut
        obtain ⟨_, hf0, hf1, hf2⟩ := HS.out.2.2.1.keep HT2.out.2.2.2.2.2.2.2 hB
        have hx0 : -100000 ≤ x2 := HT2.out.2.2.2.2.1
        have hx1 : x2 ≤ 90000 := HT2.out.2.2.2.2.2.1
        obtain ⟨y, hy⟩ : ∃ y, y = x2 - 1 := ⟨_, rfl⟩
        have a1 : wrap64 (x2 - 1) = y := by unfold wrap64; omega
        have hy0 : -100001 ≤ y := by omega
        have hy1 : y ≤ 90000 := by omega
        have hx3 : x3 s = y := by unfold x3; rw [HT2.out.1]; exact hy.symm
        replace hy := Aside0.mk hy
        replace hx3 := Aside0.mk hx3
        clear hx0 hx1
        have HF := HS.out.2.2.1
        go_upto_if 111 with (fail)
        go_cut [6] (fun v6 we => v6 = .int .i64 (x4 s) ∧ Aside0 ((s4 s).At p ng we ∧ Below p w we))
        case first =>
          by_cases g : y < -1022
          · obtain ⟨n, hn⟩ : ∃ n : Nat, (n : Int) = -1022 - y := ⟨(-1022 - y).toNat, by omega⟩
            have C0 := shiftR_walk p n ng t2 HT2.out.2.1 (by omega) (by omega) (by have := HT2.out.2.2.1; omega) (by have := HT2.out.2.2.2.1; omega) _ HT2.out.2.2.2.2.2.2.1
            rw [hn] at C0
            have C := Aside0.mk C0
            clear C0
            have HN := Aside0.mk (And.intro hn g)
            clear hn
            go_wp2_with fail
            refine C.out.mono ?_
            rintro e w1 ⟨rfl, hat, hb⟩
            have HAT := Aside0.mk hat
            have HB := Aside0.mk hb
            clear hat hb
            go_wp2_with fail
            go_meet
            case rel =>
              obtain ⟨n1, n2⟩ := HN.out
              refine ⟨?_, ⟨?_, HT2.out.2.2.2.2.2.2.2.trans HB.out⟩⟩
              · unfold x4; rw [hx3.out, if_pos n2]; exact congrArg _ (by omega)
              · unfold s4; rw [hx3.out, if_pos n2, HT2.out.1, show (-1022 - y).toNat = n from by omega]; exact HAT.out
          · have HN := Aside0.mk g
            go_wp2_with fail
            go_meet
            case rel =>
              refine ⟨?_, ⟨?_, HT2.out.2.2.2.2.2.2.2⟩⟩
              · unfold x4; rw [hx3.out, if_neg (by have := HN.out; omega)]
              · unfold s4; rw [hx3.out, if_neg (by have := HN.out; omega), HT2.out.1]; exact HT2.out.2.2.2.2.2.2.1
        case rest =>
          obtain ⟨rfl, HW⟩ := hcut
          have hs4 : (s4 s).Good ∧ -1000000 ≤ (s4 s).dp ∧ (s4 s).dp ≤ 1000000 := by
            have b1 := HT2.out.2.2.1
            have b2 := HT2.out.2.2.2.1
            unfold s4
            rw [hx3.out, HT2.out.1]
            split
            · have hL := rsI_law (-1022 - y).toNat (-1022 - y).toNat t2 HT2.out.2.1 (Nat.le_refl _)
              exact ⟨hL.1, by have := hL.2.1; show _ ≤ (rsI _ _ t2).dp; omega, by have := hL.2.2; show (rsI _ _ t2).dp ≤ _; omega⟩
            · exact ⟨HT2.out.2.1, by show _ ≤ t2.dp; omega, by show t2.dp ≤ _; omega⟩
          have hz : -1022 ≤ x4 s ∧ x4 s ≤ 90000 := by
            unfold x4
            rw [hx3.out]
            split <;> omega
          clear hf0 hf1 hf2 a1 hy0 hy1
          obtain ⟨_, hf0, hf1, hf2⟩ := HF.keep HW.out.2 hB
          have HFI := Aside0.mk (HF.keep HW.out.2 hB)
          have C := Aside0.mk fun q => shiftL_walk p 53 ng (s4 s) hs4.1 (by omega) (by omega) hs4.2.1 hs4.2.2 (World.drewN _ q) (At_drewN HW.out.1 q) ((HS.out.2.2.2.2.keep (Below.drewN HW.out.2 q) hB).tab)
          have hg53 : (ls 53 (s4 s)).Good := ls_good hs4.1 (by omega) (by omega)
          have C2 := Aside0.mk fun W hW => ri_walk p ng (ls 53 (s4 s)) hg53 W hW
          have hmt : ri (ls 53 (s4 s)) = mt s := rfl
          rw [hmt] at C2
          clear hmt hs4 hg53
          have hx5 : mt s = 9007199254740992 → x5 s = x4 s + 1 := fun h => by unfold x5; rw [if_pos h]
          have hx5n : mt s ≠ 9007199254740992 → x5 s = x4 s := fun h => by unfold x5; rw [if_neg h]
          have hm5 : mt s = 9007199254740992 → mt5 s = 4503599627370496 := fun h => by unfold mt5; rw [if_pos h]
          have hm5n : mt s ≠ 9007199254740992 → mt5 s = mt s := fun h => by unfold mt5; rw [if_neg h]
          have hov : over s = (decide (2047 ≤ x4 s + 1023) || (decide (mt s = 9007199254740992) && decide (2047 ≤ x5 s + 1023))) := by
            unfold over
            rw [decide_eq_false HD.out.1, decide_eq_false HD.out.2.1]
            rfl
          have hfm : over s = false → fM s = mt5 s := fun h => by
            unfold fM
            rw [h, if_neg (by decide), if_neg HD.out.2.1]
          have hfx : over s = false → fX s = x6 s := fun h => by
            unfold fX
            rw [h, if_neg (by decide), if_neg HD.out.2.1]
          have hx6 : x6 s = if bits .and .u64 (mt5 s) 4503599627370496 = 0 then -1023 else x5 s := rfl
          have HM := Aside0.mk (And.intro hx5 (And.intro hx5n (And.intro hm5 (And.intro hm5n (And.intro hov (And.intro hfm (And.intro hfx hx6)))))))
          clear hx5 hx5n hm5 hm5n hov hfm hfx hx6
          obtain ⟨z, hzz⟩ : ∃ z, z = x4 s := ⟨_, rfl⟩
          rw [← hzz] at hz ⊢
          obtain ⟨hz0, hz1⟩ := hz
          replace hzz := Aside0.mk hzz
          by_cases g1 : 2047 ≤ z + 1023
          · have g2 : 1024 ≤ z := by omega
            have HG := Aside0.mk g1
            go_wp2_with fail
            go_quiet (fail)
            go_wp2_with fail
            go_step3
            refine Or.inr ⟨rfl, J1_of rfl rfl rfl rfl rfl ⟨?_, ?_, HFI.out.keep (Below.drewN (Below.refl p _) _) hB, Below.drewN HW.out.2 _⟩⟩
            · rw [HM.out.2.2.2.2.1, ← hzz.out, decide_eq_true (show 2047 ≤ z + 1023 by have := HG.out; omega)]; rfl
            · exact At_ng (At_drewN HW.out.1 _)
          · have g2 : z < 1024 := by omega
            have HG := Aside0.mk g1
            clear g1
            go_wp2_with fail
            go_quiet (fail)
            go_wp2_with fail
            refine (C.out _).mono ?_
            rintro e w1 ⟨rfl, hat, hb⟩
            have HAT := Aside0.mk hat
            have HB := Aside0.mk ((Below.drewN HW.out.2 _).trans hb)
            have hFI := HF.keep HB.out hB
            obtain ⟨_, hg0, hg1, hg2⟩ := id hFI
            clear hat hb
            go_wp2_with fail
            refine (C2.out _ HAT.out).mono ?_
            rintro e w2 ⟨rfl, rfl⟩
            obtain ⟨M, hM⟩ : ∃ M, M = mt s := ⟨_, rfl⟩
            rw [← hM]
            by_cases gM : M = 9007199254740992
            · subst gM
              replace hM := Aside0.mk hM
              by_cases g3 : 2047 ≤ z + 1 + 1023
              · have g4 : 1023 ≤ z := by omega
                have HG3 := Aside0.mk g3
                go_wp2_with fail
                go_quiet (fail)
                go_wp2_with fail
                go_step3
                refine Or.inr ⟨rfl, J1_of rfl rfl rfl rfl rfl ⟨?_, ?_, hFI.keep (Below.drewN (Below.refl p _) _) hB, Below.drewN HB.out _⟩⟩
                · rw [HM.out.2.2.2.2.1, HM.out.1 hM.out.symm, ← hzz.out, decide_eq_true hM.out.symm, decide_eq_true (show 2047 ≤ z + 1 + 1023 by have := HG3.out; omega)]; simp
                · exact At_ng (At_drewN HAT.out _)
              · have g4 : z < 1023 := by omega
                have HG3 := Aside0.mk g3
                clear g3
                have hovF : over s = false := by
                  rw [HM.out.2.2.2.2.1, HM.out.1 hM.out.symm, ← hzz.out, decide_eq_false (show ¬ 2047 ≤ z + 1 + 1023 by have := HG3.out; omega), decide_eq_false (show ¬ 2047 ≤ z + 1023 by have := HG.out; omega)]; simp
                have hA : ¬ bits .and .u64 4503599627370496 4503599627370496 = 0 := by decide +kernel
                have HO := Aside0.mk (And.intro hovF hA)
                clear hovF hA
                go_wp2_with fail
                go_quiet (fail)
                go_wp2_with fail
                go_step3
                refine Or.inl ⟨rfl, J0_of rfl rfl rfl rfl rfl ?_ ?_ ?_ ⟨At_ng (At_drewN HAT.out _), hFI.keep (Below.drewN (Below.refl p _) _) hB, Below.drewN HB.out _⟩⟩
                · rw [HO.out.1]; rfl
                · rw [HM.out.2.2.2.2.2.2.1 HO.out.1, HM.out.2.2.2.2.2.2.2, HM.out.2.2.1 hM.out.symm, if_neg HO.out.2, HM.out.1 hM.out.symm, ← hzz.out]; rfl
                · rw [HM.out.2.2.2.2.2.1 HO.out.1, HM.out.2.2.1 hM.out.symm]; rfl
            · have hMn : mt s ≠ 9007199254740992 := fun h => gM (hM.trans h)
              replace hM := Aside0.mk hM
              have hovF : over s = false := by
                rw [HM.out.2.2.2.2.1, ← hzz.out, decide_eq_false hMn, decide_eq_false (show ¬ 2047 ≤ z + 1023 by have := HG.out; omega)]; simp
              have HO := Aside0.mk (And.intro hovF hMn)
              clear hovF hMn
              by_cases gA : bits .and .u64 M 4503599627370496 = 0
              · have HA := Aside0.mk gA
                go_wp2_with fail
                go_step3
                refine Or.inl ⟨rfl, J0_of rfl rfl rfl rfl rfl ?_ ?_ ?_ ⟨At_ng HAT.out, hFI, HB.out⟩⟩
                · rw [HO.out.1]; rfl
                · rw [HM.out.2.2.2.2.2.2.1 HO.out.1, HM.out.2.2.2.2.2.2.2, HM.out.2.2.2.1 HO.out.2, ← hM.out, if_pos HA.out]; rfl
                · rw [HM.out.2.2.2.2.2.1 HO.out.1, HM.out.2.2.2.1 HO.out.2, ← hM.out]; rfl
              · have HA := Aside0.mk gA
                go_wp2_with fail
                go_step3
                refine Or.inl ⟨rfl, J0_of rfl rfl rfl rfl rfl ?_ ?_ ?_ ⟨At_ng HAT.out, hFI, HB.out⟩⟩
                · rw [HO.out.1]; rfl
                · rw [HM.out.2.2.2.2.2.2.1 HO.out.1, HM.out.2.2.2.2.2.2.2, HM.out.2.2.2.1 HO.out.2, ← hM.out, if_neg HA.out, HM.out.2.1 HO.out.2, ← hzz.out]; rfl
                · rw [HM.out.2.2.2.2.2.1 HO.out.1, HM.out.2.2.2.1 HO.out.2, ← hM.out]; rfl

def ZeroP (p : Nat) (ng : Bool) (w : World) (e : Ending) (w' : World) : Prop := e = .returned (.tuple #[.int .u64 (signB ng (outB 0 (-1023))), .bool false]) ∧ Below p w w'

set_option maxHeartbeats 16000000 in
set_option maxRecDepth 100000 in
theorem zero_walk (p G B : Nat) (ng : Bool) (s : St) (hs : s.n = 0) (hB : B ≤ p) (w : World) (ha : s.At p ng w) (hF : FI B G w) : Calls Tryd.prog 60 #[.pointer (some ⟨p, 0, none⟩), .pointer (some ⟨G, 0, none⟩)] w (ZeroP p ng w) := by
  go_enter Tryd.func60, Tryd.ntmps60
  go_wp2_with fail
  refine wp_scope_get (J0 p G B 0 (-1023) false ng w) (fun _ _ => False) (by rfl) (by rfl) ?first ?pass1 ?pass0
  case pass0 =>
    clear ha hF
    rintro a w' ⟨v4, u, rfl, HH⟩
    have hng := HH.out.1
    obtain ⟨_, hf0, hf1, hf2⟩ := HH.out.2.1
    have hbel := HH.out.2.2
    unfold ZeroP
    simp only [findLabel, Option.getD, reduceCtorEq, if_true, if_false, Nat.reduceBEq, beq_self_eq_true]
    cases ng with
    | true =>
      go_wp2_with fail
      go_quiet (fail)
      go_wp2_with fail
      go_quiet (fail)
      go_wp2_with fail
      refine jump2_ret ?_
      go_ret2
      · exact ⟨by kernel_rfl, Below.drewN (Below.drewN hbel _) _⟩
    | false =>
      go_wp2_with fail
      go_quiet (fail)
      go_wp2_with fail
      refine jump2_ret ?_
      go_ret2
      · exact ⟨by kernel_rfl, Below.drewN hbel _⟩
  case pass1 => exact fun a w' h => h.elim
  case first =>
    have hnd := At_nd ha
    rw [hs] at hnd
    have hng := At_ng ha
    obtain ⟨_, hf0, hf1, hf2⟩ := id hF
    go_wp2_with fail
    go_step3
    exact Or.inl ⟨rfl, J0_of rfl rfl rfl rfl rfl rfl rfl rfl ⟨hng, hF, Below.refl _ _⟩⟩
end Go.Proofs.YtlkbhmmelejmjaaDoor.FltBits

/- Hexadecimal floats as a function (plain). -/
namespace Go.Proofs.YtlkbhmmelejmjaaDoor.FltHexP
open Go.RowKit Go.Proofs.YtlkbhmmelejmjaaDoorW.PrintWords Go.Proofs.YtlkbhmmelejmjaaDoor.FltKnown Go.Proofs.YtlkbhmmelejmjaaDoor.FltDec Go.Proofs.YtlkbhmmelejmjaaDoor.FltFast Go.Proofs.YtlkbhmmelejmjaaDoor.FltBits
set_option linter.unusedVariables false
set_option linter.unusedSimpArgs false

/-- Halved; a digit that is lost is kept in the last one. -/
def hstep (m : Int) : Int := bits .or .u64 (m / 2) (bits .and .u64 m 1)
theorem w64 (n : Int) (h0 : 0 ≤ n) (h1 : n < 2 ^ 64) : IntKind.u64.wrap n = n := by rw [IntKind.wrap_u64]; omega
theorem hstep_nat (a : Nat) (h : a < 2 ^ 64) : hstep (a : Int) = ((a / 2 ||| a % 2 : Nat) : Int) := by
  unfold hstep
  have e1 : bits .and .u64 (a : Int) 1 = ((a % 2 : Nat) : Int) := by
    have := bits_mask .u64 64 (by decide) w64 1 (by decide) (a : Int) (by omega) (by omega)
    rw [show ((2 : Int) ^ 1 - 1) = 1 from rfl] at this
    rw [this]; rfl
  rw [e1, show (a : Int) / 2 = ((a / 2 : Nat) : Int) from rfl]
  exact (bits_nat .u64 64 (by decide) w64 (a / 2) (a % 2) (by omega) (by omega)).2
theorem hstep_lt (a k : Nat) (hk : 1 ≤ k) (hk2 : k < 64) (h : a < 2 ^ (k + 1)) : 0 ≤ hstep (a : Int) ∧ hstep (a : Int) < 2 ^ k := by
  have h64 : 2 ^ (k + 1) ≤ 2 ^ 64 := Nat.pow_le_pow_right (by omega) (by omega)
  rw [hstep_nat a (Nat.lt_of_lt_of_le h h64)]
  refine ⟨Int.natCast_nonneg _, ?_⟩
  have h2 : 2 ≤ 2 ^ k := by
    calc 2 = 2 ^ 1 := rfl
      _ ≤ 2 ^ k := Nat.pow_le_pow_right (by omega) hk
  have := Nat.or_lt_two_pow (x := a / 2) (y := a % 2) (n := k) (by rw [Nat.pow_succ] at h; omega) (by omega)
  exact_mod_cast this

/-- The three loops. -/
def hl1 : Nat → Int → Int → Int × Int
  | 0, m, x => (m, x)
  | f + 1, m, x => if m ≠ 0 ∧ m / 18014398509481984 = 0 then hl1 f (m * 2) (x - 1) else (m, x)
def hl2 : Nat → Int → Int → Int × Int
  | 0, m, x => (m, x)
  | f + 1, m, x => if m / 36028797018963968 ≠ 0 then hl2 f (hstep m) (x + 1) else (m, x)
def hl3 : Nat → Int → Int → Int × Int
  | 0, m, x => (m, x)
  | f + 1, m, x => if 1 < m ∧ x < -1024 then hl3 f (hstep m) (x + 1) else (m, x)
theorem hl1_end {m : Int} (h : ¬ (m ≠ 0 ∧ m / 18014398509481984 = 0)) (x : Int) : ∀ f, hl1 f m x = (m, x)
  | 0 => rfl
  | f + 1 => by unfold hl1; rw [if_neg h]
theorem hl2_end {m : Int} (h : ¬ (m / 36028797018963968 ≠ 0)) (x : Int) : ∀ f, hl2 f m x = (m, x)
  | 0 => rfl
  | f + 1 => by unfold hl2; rw [if_neg h]
theorem hl3_end {m x : Int} (h : ¬ (1 < m ∧ x < -1024)) : ∀ f, hl3 f m x = (m, x)
  | 0 => rfl
  | f + 1 => by unfold hl3; rw [if_neg h]
def h1 (m x : Int) : Int × Int := hl1 54 m (x + 52)
def h2 (m x : Int) (tr : Bool) : Int × Int := hl2 9 (if tr then bits .or .u64 (h1 m x).1 1 else (h1 m x).1) (h1 m x).2
def h3 (m x : Int) (tr : Bool) : Int × Int := hl3 (-1024 - (h2 m x tr).2).toNat (h2 m x tr).1 (h2 m x tr).2
/-- Rounded: mantissa and exponent. -/
def hr (m x : Int) : Int × Int :=
  if bits .or .u64 (bits .and .u64 m 3) (bits .and .u64 (m / 4) 1) = 3 then (if m / 4 + 1 = 9007199254740992 then (4503599627370496, x + 2 + 1) else (m / 4 + 1, x + 2)) else (m / 4, x + 2)
def h4 (m x : Int) (tr : Bool) : Int × Int := hr (h3 m x tr).1 (h3 m x tr).2
def h5 (m x : Int) (tr : Bool) : Int := if (h4 m x tr).1 / 4503599627370496 = 0 then -1023 else (h4 m x tr).2
def hO (m x : Int) (tr : Bool) : Bool := decide (1023 < h5 m x tr)
def hM (m x : Int) (tr : Bool) : Int := if hO m x tr then 4503599627370496 else (h4 m x tr).1
def hX (m x : Int) (tr : Bool) : Int := if hO m x tr then 1024 else h5 m x tr

/-- The two descriptions of floats stand in blocks of their own, below block B. -/
def PQ (B : Nat) (w : World) : Prop := 4 < B ∧ 2 < B ∧ (∃ c t, w.heap[4]? = some (.cells c t (0, 0))) ∧ ∃ c t, w.heap[2]? = some (.cells c t (0, 0))
theorem PQ.keep {B p : Nat} {w w' : World} (h : PQ B w) (hb : Below p w w') (hp : B ≤ p) : PQ B w' := by
  obtain ⟨h1, h2, ⟨c, t, h3⟩, c', t', h4⟩ := h
  exact ⟨h1, h2, ⟨c, t, (hb.block _ (Nat.lt_of_lt_of_le h1 hp)).trans h3⟩, c', t', (hb.block _ (Nat.lt_of_lt_of_le h2 hp)).trans h4⟩
theorem PQ.drewN {B : Nat} {w : World} (h : PQ B w) (n : Nat) : PQ B (w.drewN n) := h
theorem fi_some : (Tryd.prog.info? 86).isSome = true := by kernel_rfl
theorem neq_ptr {B : Nat} {w : World} (h : PQ B w) : (binOp .eql 84 (.pointer (some ⟨4, 0, none⟩)) (.pointer (some ⟨2, 0, none⟩))).run Tryd.prog w = .ok (.bool false) w := by
  obtain ⟨_, _, ⟨c, t, h3⟩, c', t', h4⟩ := h
  exact run_eql_ptr_other w (te := 86) (j := (Tryd.prog.info? 86).get fi_some) (by kernel_rfl) (Option.some_get fi_some).symm (by decide +kernel) (by decide) h3 h4
end Go.Proofs.YtlkbhmmelejmjaaDoor.FltHexP

/- Hexadecimal floats, walked: atofHex. -/
namespace Go.Proofs.YtlkbhmmelejmjaaDoor.FltHex
open Go.RowKit Go.Proofs.YtlkbhmmelejmjaaDoorW.PrintWords Go.Proofs.YtlkbhmmelejmjaaDoor.FltKnown Go.Proofs.YtlkbhmmelejmjaaDoor.FltDec Go.Proofs.YtlkbhmmelejmjaaDoor.FltFast Go.Proofs.YtlkbhmmelejmjaaDoor.FltBits Go.Proofs.YtlkbhmmelejmjaaDoor.FltHexP
set_option linter.unusedVariables false
set_option linter.unusedSimpArgs false

def HxP (m x : Int) (ng tr : Bool) (w : World) (e : Ending) (w' : World) : Prop := e = .returned (.tuple #[.float .f64 (signB ng (outB (hM m x tr) (hX m x tr))).toNat, erV (hO m x tr)]) ∧ ∃ n, w' = w.drewN n
theorem FI.drewN {B G : Nat} {w : World} (h : FI B G w) (n : Nat) : FI B G (w.drewN n) := ⟨h.1, h.2.1, h.2.2.1, h.2.2.2⟩

set_option maxHeartbeats 16000000 in
set_option maxRecDepth 100000 in
theorem hex_walk (B : Nat) (s : ByteArray) (m x : Int) (ng tr : Bool) (hm0 : 0 ≤ m) (hm1 : m < 18446744073709551616) (hx0 : -10000000000 ≤ x) (hx1 : x ≤ 10000000000) (w : World) (hF : FI B 4 w) (hQ : PQ B w) : Calls Tryd.prog 54 #[.string s, .pointer (some ⟨4, 0, none⟩), .int .u64 m, .int .i64 x, .bool ng, .bool tr] w (HxP m x ng tr w) := by
  obtain ⟨_, hf0, hf1, hf2⟩ := id hF
  go_enter Tryd.func54, Tryd.ntmps54
  go_wp2_with fail
  go_quiet (fail)
  generalize hW0 : World.drewN w _ = W0
  have hF0 : FI B 4 W0 := by rw [← hW0]; exact FI.drewN hF _
  have HW0 : Aside0 (∃ n, W0 = w.drewN n) := ⟨⟨_, hW0.symm⟩⟩
  have HQ0 : Aside0 (PQ B W0) := ⟨by rw [← hW0]; exact hQ⟩
  clear hW0 hf0 hf1 hf2
  obtain ⟨_, hf0, hf1, hf2⟩ := id hF0
  go_upto_block 0 with (fail)
  go_cut [2, 3] from 42 to 57 (fun v2 v3 wc => ∃ (m1 x1 : Int), v2 = .int .u64 m1 ∧ v3 = .int .i64 x1 ∧ 0 ≤ m1 ∧ m1 < 18446744073709551616 ∧ -20000000000 ≤ x1 ∧ x1 ≤ 20000000000 ∧ Aside0 (h1 m x = (m1, x1)) ∧ W0 = wc)
  case first =>
    go_wp2_with fail
    go_loopg [2, 3] 54 (fun kq v2 v3 wx => ∃ (m1 x1 : Int), v2 = .int .u64 m1 ∧ v3 = .int .i64 x1 ∧ 0 ≤ m1 ∧ m1 < 18446744073709551616 ∧ -10000000010 + kq ≤ x1 ∧ x1 ≤ 10000000052 ∧ Aside0 ((m1 = 0 ∨ 18014398509481984 ≤ m1 * 2 ^ kq) ∧ hl1 kq m1 x1 = h1 m x) ∧ W0 = wx)
    case atStart =>
      refine ⟨m, x + 52, rfl, by go_num, hm0, hm1, by omega, by omega, ⟨?_, rfl⟩, rfl⟩
      by_cases h : m = 0
      · exact .inl h
      · exact .inr (by omega)
    case round =>
      obtain ⟨m1, x1, rfl, rfl, a0, a1, b0, b1, H1, rfl⟩ := hrel
      by_cases g : m1 ≠ 0 ∧ m1 / 18014398509481984 = 0
      · obtain ⟨g1, g2⟩ := g
        cases gk with
        | zero => exact absurd H1.out.1 (by omega)
        | succ k1 =>
          have q0 : (m1 != 0) = true := bne_iff_ne.mpr g1
          have HG := Aside0.mk (And.intro g1 g2)
          have gl : m1 < 18014398509481984 := by omega
          clear g1
          go_wp2_with fail
          go_roundg k1
          case rel =>
            obtain ⟨h1, h2⟩ := H1.out
            refine ⟨m1 * 2, x1 - 1, by go_num, by go_num, by omega, by omega, by omega, by omega, ⟨.inr ?_, ?_⟩, rfl⟩
            · rcases h1 with h1 | h1
              · exact absurd h1 HG.out.1
              · rw [Int.pow_succ, Int.mul_comm (2 ^ k1) 2, ← Int.mul_assoc] at h1
                exact h1
            · rw [← h2]
              show _ = if m1 ≠ 0 ∧ m1 / 18014398509481984 = 0 then _ else _
              rw [if_pos HG.out]
          case measure => exact Nat.lt_succ_self _
      · have hfin : h1 m x = (m1, x1) := by rw [← H1.out.2, hl1_end g]
        replace hfin := Aside0.mk hfin
        by_cases g0 : m1 = 0
        · subst g0
          clear g
          go_wp2_with fail
          go_meet
          case rel => exact ⟨0, x1, rfl, rfl, a0, a1, by omega, by omega, hfin, rfl⟩
        · have q0 : (m1 != 0) = true := bne_iff_ne.mpr g0
          have q1 : ¬ m1 / 18014398509481984 = 0 := fun h => g ⟨g0, h⟩
          have q2 : (m1 / 18014398509481984 == 0) = false := beq_eq_false_iff_ne.mpr q1
          clear g
          go_wp2_with fail
          go_meet
          case rel => exact ⟨m1, x1, rfl, rfl, a0, a1, by omega, by omega, hfin, rfl⟩
  case rest =>
    obtain ⟨m1, x1, rfl, rfl, a0, a1, b0, b1, H1, rfl⟩ := hcut
    go_upto_if 58 with (fail)
    go_cut [2] (fun v2 wc => ∃ m2 : Int, v2 = .int .u64 m2 ∧ 0 ≤ m2 ∧ m2 < 18446744073709551616 ∧ Aside0 (m2 = if tr then bits .or .u64 m1 1 else m1) ∧ W0 = wc)
    case first =>
      cases tr with
      | true =>
        go_wp2_with fail
        go_meet
        case rel => exact ⟨_, rfl, bits_lo_u64 .or m1 1, by have := bits_hi_u64 .or m1 1; omega, ⟨rfl⟩, rfl⟩
      | false =>
        go_wp2_with fail
        go_meet
        case rel => exact ⟨m1, rfl, a0, a1, ⟨rfl⟩, rfl⟩
    case rest =>
      obtain ⟨m2, rfl, a2, a3, H2, rfl⟩ := hcut
      go_upto_block 2 with (fail)
      go_cut [2, 3] from 61 to 76 (fun v2 v3 wc => ∃ (m3 x3 : Int), v2 = .int .u64 m3 ∧ v3 = .int .i64 x3 ∧ 0 ≤ m3 ∧ m3 < 36028797018963968 ∧ -20000000000 ≤ x3 ∧ x3 ≤ 30000000000 ∧ Aside0 (h2 m x tr = (m3, x3)) ∧ W0 = wc)
      case first =>
        go_wp2_with fail
        go_loopg [2, 3] 9 (fun kq v2 v3 wx => ∃ (m3 x3 : Int), v2 = .int .u64 m3 ∧ v3 = .int .i64 x3 ∧ 0 ≤ m3 ∧ m3 < 18446744073709551616 ∧ -20000000000 ≤ x3 ∧ x3 + kq ≤ 20000000009 ∧ Aside0 (m3 < 2 ^ (55 + kq) ∧ kq ≤ 9 ∧ hl2 kq m3 x3 = h2 m x tr) ∧ W0 = wx)
        case atStart =>
          refine ⟨m2, x1, rfl, rfl, a2, a3, b0, by omega, ⟨by omega, Nat.le_refl _, ?_⟩, rfl⟩
          unfold h2
          rw [H1.out, H2.out]
        case round =>
          obtain ⟨m3, x3, rfl, rfl, a4, a5, b2, b3, H3, rfl⟩ := hrel
          by_cases g : m3 / 36028797018963968 = 0
          · have hfin : h2 m x tr = (m3, x3) := by rw [← H3.out.2.2, hl2_end (by simpa using g)]
            replace hfin := Aside0.mk hfin
            have q1 : (m3 / 36028797018963968 != 0) = false := by rw [g]; rfl
            have gl : m3 < 36028797018963968 := by omega
            have hk9 := H3.out.2.1
            go_wp2_with fail
            go_meet
            case rel => exact ⟨m3, x3, rfl, rfl, a4, gl, b2, by omega, hfin, rfl⟩
          · cases gk with
            | zero => exact absurd H3.out.1 (by omega)
            | succ k1 =>
              have q1 : (m3 / 36028797018963968 != 0) = true := bne_iff_ne.mpr g
              have hh : 0 ≤ hstep m3 ∧ hstep m3 < 2 ^ (55 + k1) := by
                have h1 := H3.out.1
                have h2 := H3.out.2.1
                have h3 : m3.toNat < 2 ^ (55 + k1 + 1) := by
                  have h4 : ((m3.toNat : Nat) : Int) < ((2 ^ (55 + k1 + 1) : Nat) : Int) := by
                    rw [Int.toNat_of_nonneg a4]
                    exact_mod_cast h1
                  exact_mod_cast h4
                have := hstep_lt m3.toNat (55 + k1) (by omega) (by omega) h3
                rwa [Int.toNat_of_nonneg a4] at this
              have hh2 : hstep m3 < 18446744073709551616 := by
                have := bits_hi_u64 .or (m3 / 2) (bits .and .u64 m3 1)
                unfold hstep
                omega
              have HH := Aside0.mk (And.intro hh (And.intro hh2 g))
              clear hh hh2 g
              go_wp2_with fail
              go_roundg k1
              case rel =>
                refine ⟨hstep m3, x3 + 1, rfl, by go_num, HH.out.1.1, HH.out.2.1, by omega, by omega, ⟨HH.out.1.2, by have := H3.out.2.1; omega, ?_⟩, rfl⟩
                rw [← H3.out.2.2]
                show _ = if m3 / 36028797018963968 ≠ 0 then _ else _
                rw [if_pos HH.out.2.2]
              case measure => exact Nat.lt_succ_self _
      case rest =>
        obtain ⟨m3, x3, rfl, rfl, a4, a5, b2, b3, H3, rfl⟩ := hcut
        clear a0 a1 b0 b1 a2 a3
        go_upto_block 4 with (fail)
        go_cut [2, 3] from 77 to 91 (fun v2 v3 wc => ∃ (m4 x4 : Int), v2 = .int .u64 m4 ∧ v3 = .int .i64 x4 ∧ 0 ≤ m4 ∧ m4 < 36028797018963968 ∧ -20000000000 ≤ x4 ∧ x4 ≤ 30000000000 ∧ Aside0 (h3 m x tr = (m4, x4)) ∧ W0 = wc)
        case first =>
          go_wp2_with fail
          go_loopg [2, 3] (-1024 - x3).toNat (fun kq v2 v3 wx => ∃ (m4 x4 : Int), v2 = .int .u64 m4 ∧ v3 = .int .i64 x4 ∧ 0 ≤ m4 ∧ m4 < 36028797018963968 ∧ -20000000000 ≤ x4 ∧ x4 ≤ 30000000000 ∧ Aside0 (kq = (-1024 - x4).toNat ∧ hl3 kq m4 x4 = h3 m x tr) ∧ W0 = wx)
          case atStart =>
            refine ⟨m3, x3, rfl, rfl, a4, a5, b2, b3, ⟨rfl, ?_⟩, rfl⟩
            unfold h3
            rw [H3.out]
          case round =>
            clear a4 a5 b2 b3
            obtain ⟨m4, x4, rfl, rfl, a6, a7, b4, b5, H4, rfl⟩ := hrel
            by_cases g : 1 < m4 ∧ x4 < -1024
            · cases gk with
              | zero => exact absurd H4.out.1 (by omega)
              | succ k1 =>
                have hh : 0 ≤ hstep m4 ∧ hstep m4 < 2 ^ 55 := by
                  have := hstep_lt m4.toNat 55 (by omega) (by omega) (by omega)
                  rwa [Int.toNat_of_nonneg a6] at this
                have HH := Aside0.mk (And.intro hh g)
                obtain ⟨g1, g2⟩ := g
                clear hh
                go_wp2_with fail
                go_roundg k1
                case rel =>
                  refine ⟨hstep m4, x4 + 1, rfl, by go_num, HH.out.1.1, by have := HH.out.1.2; omega, by omega, by omega, ⟨by have := H4.out.1; omega, ?_⟩, rfl⟩
                  rw [← H4.out.2]
                  show _ = if 1 < m4 ∧ x4 < -1024 then _ else _
                  rw [if_pos HH.out.2]
                case measure => exact Nat.lt_succ_self _
            · have hfin : h3 m x tr = (m4, x4) := by rw [← H4.out.2, hl3_end g]
              replace hfin := Aside0.mk hfin
              by_cases g1 : 1 < m4
              · have g2 : -1024 ≤ x4 := by omega
                clear g
                go_wp2_with fail
                go_meet
                case rel => exact ⟨m4, x4, rfl, rfl, a6, a7, b4, b5, hfin, rfl⟩
              · clear g
                go_wp2_with fail
                go_meet
                case rel => exact ⟨m4, x4, rfl, rfl, a6, a7, b4, b5, hfin, rfl⟩
        case rest =>
          clear a4 a5 b2 b3
          obtain ⟨m4, x4, rfl, rfl, a6, a7, b4, b5, H4, rfl⟩ := hcut
          go_upto_if 103 with (fail)
          have hh4 : h4 m x tr = hr m4 x4 := by unfold h4; rw [H4.out]
          go_cut [2, 3] (fun v2 v3 wc => ∃ (m5 x5 : Int), v2 = .int .u64 m5 ∧ v3 = .int .i64 x5 ∧ 0 ≤ m5 ∧ m5 < 18446744073709551616 ∧ -20000000000 ≤ x5 ∧ x5 ≤ 30000000003 ∧ Aside0 (h4 m x tr = (m5, x5)) ∧ W0 = wc)
          case first =>
            replace hh4 := Aside0.mk hh4
            by_cases g : bits .or .u64 (bits .and .u64 m4 3) (bits .and .u64 (m4 / 4) 1) = 3
            · have HG := Aside0.mk g
              by_cases g2 : m4 / 4 + 1 = 9007199254740992
              · have HG2 := Aside0.mk g2
                have q2 : (m4 / 4 + 1 == 9007199254740992) = true := by rw [g2]; rfl
                go_wp2_with fail
                go_meet
                case rel =>
                  refine ⟨4503599627370496, x4 + 2 + 1, by first | rfl | (rw [HG2.out]; rfl), rfl, by decide, by decide, by omega, by omega, ⟨?_⟩, rfl⟩
                  rw [hh4.out]; unfold hr; rw [if_pos HG.out, if_pos HG2.out]
              · have HG2 := Aside0.mk g2
                have q2 : (m4 / 4 + 1 == 9007199254740992) = false := beq_eq_false_iff_ne.mpr g2
                go_wp2_with fail
                go_meet
                case rel =>
                  refine ⟨m4 / 4 + 1, x4 + 2, rfl, rfl, by omega, by omega, by omega, by omega, ⟨?_⟩, rfl⟩
                  rw [hh4.out]; unfold hr; rw [if_pos HG.out, if_neg HG2.out]
            · have HG := Aside0.mk g
              have q2 : (bits .or .u64 (bits .and .u64 m4 3) (bits .and .u64 (m4 / 4) 1) == 3) = false := beq_eq_false_iff_ne.mpr g
              go_wp2_with fail
              go_meet
              case rel =>
                refine ⟨m4 / 4, x4 + 2, rfl, rfl, by omega, by omega, by omega, by omega, ⟨?_⟩, rfl⟩
                rw [hh4.out]; unfold hr; rw [if_neg HG.out]
          case rest =>
            clear a6 a7 b4 b5 hh4
            obtain ⟨m5, x5, rfl, rfl, a6, a7, b4, b5, H5, rfl⟩ := hcut
            go_upto_if 124 with (fail)
            go_cut [3] (fun v3 wc => ∃ (x6 : Int), v3 = .int .i64 x6 ∧ -20000000000 ≤ x6 ∧ x6 ≤ 30000000003 ∧ Aside0 (h5 m x tr = x6) ∧ W0 = wc)
            case first =>
              by_cases g : m5 / 4503599627370496 = 0
              · have HG := Aside0.mk g
                have q2 : (m5 / 4503599627370496 == 0) = true := by rw [g]; rfl
                go_wp2_with fail
                go_meet
                case rel =>
                  refine ⟨-1023, rfl, by decide, by decide, ⟨?_⟩, rfl⟩
                  unfold h5; rw [H5.out, if_pos HG.out]
              · have HG := Aside0.mk g
                have q2 : (m5 / 4503599627370496 == 0) = false := beq_eq_false_iff_ne.mpr g
                go_wp2_with fail
                go_meet
                case rel =>
                  refine ⟨x5, rfl, b4, b5, ⟨?_⟩, rfl⟩
                  unfold h5; rw [H5.out, if_neg HG.out]
            case rest =>
              clear b4 b5
              obtain ⟨x6, rfl, b4, b5, H6, rfl⟩ := hcut
              go_upto_if 131 with (fail)
              go_cut [2, 3, 17] (fun v2 v3 v17 wc => v2 = .int .u64 (hM m x tr) ∧ v3 = .int .i64 (hX m x tr) ∧ v17 = erV (hO m x tr) ∧ W0 = wc)
              case first =>
                by_cases g : 1023 < x6
                · have hO1 : hO m x tr = true := by unfold hO; rw [H6.out]; exact decide_eq_true g
                  have e1 : hM m x tr = 4503599627370496 := by unfold hM; rw [if_pos hO1]
                  have e2 : hX m x tr = 1024 := by unfold hX; rw [if_pos hO1]
                  have HE := Aside0.mk (And.intro hO1 (And.intro e1 e2))
                  clear hO1 e1 e2
                  go_wp2_with fail
                  go_meet
                  case rel => exact ⟨by rw [HE.out.2.1], by rw [HE.out.2.2], by rw [HE.out.1]; rfl, rfl⟩
                · have hO1 : hO m x tr = false := by unfold hO; rw [H6.out]; exact decide_eq_false g
                  have e1 : hM m x tr = m5 := by unfold hM; rw [if_neg (by rw [hO1]; decide), H5.out]
                  have e2 : hX m x tr = x6 := by unfold hX; rw [if_neg (by rw [hO1]; decide), H6.out]
                  have HE := Aside0.mk (And.intro hO1 (And.intro e1 e2))
                  clear hO1 e1 e2
                  go_wp2_with fail
                  go_meet
                  case rel => exact ⟨by rw [HE.out.2.1], by rw [HE.out.2.2], by rw [HE.out.1]; rfl, rfl⟩
              case rest =>
                obtain ⟨rfl, rfl, rfl, rfl⟩ := hcut
                obtain ⟨M, hMe⟩ : ∃ M, M = hM m x tr := ⟨_, rfl⟩
                obtain ⟨X, hXe⟩ : ∃ X, X = hX m x tr := ⟨_, rfl⟩
                obtain ⟨ov, hOe⟩ : ∃ ov, ov = erV (hO m x tr) := ⟨_, rfl⟩
                rw [← hMe, ← hXe, ← hOe]
                have HE := Aside0.mk (And.intro hMe (And.intro hXe hOe))
                clear hMe hXe hOe b4 b5 a6 a7
                have hfb := fb_run
                cases ng with
                | true =>
                  have hne := fun n => neq_ptr (HQ0.out.drewN n)
                  go_wp2_with fail
                  go_quiet (fail)
                  go_wp2_with fail
                  go_quiet (fail)
                  go_wp2_with fail
                  go_ret2
                  refine ⟨?_, ?_⟩
                  · rw [← HE.out.1, ← HE.out.2.1, ← HE.out.2.2]; rfl
                  · obtain ⟨n, hn⟩ := HW0.out
                    exact ⟨_, by rw [hn, World.drewN_drewN]⟩
                | false =>
                  have hne := fun n => neq_ptr (HQ0.out.drewN n)
                  go_wp2_with fail
                  go_quiet (fail)
                  go_wp2_with fail
                  go_ret2
                  refine ⟨?_, ?_⟩
                  · rw [← HE.out.1, ← HE.out.2.1, ← HE.out.2.2]; rfl
                  · obtain ⟨n, hn⟩ := HW0.out
                    exact ⟨_, by rw [hn, World.drewN_drewN]⟩
end Go.Proofs.YtlkbhmmelejmjaaDoor.FltHex

/- The fast road of floats, walked: prescale, uscale, parseFloat64. -/
namespace Go.Proofs.YtlkbhmmelejmjaaDoor.FltFast2
open Go.RowKit Go.Proofs.YtlkbhmmelejmjaaDoorW.PrintWords Go.Proofs.YtlkbhmmelejmjaaDoor.FltKnown Go.Proofs.YtlkbhmmelejmjaaDoor.FltDec Go.Proofs.YtlkbhmmelejmjaaDoor.FltFast
set_option linter.unusedVariables false
set_option linter.unusedSimpArgs false

/-- The table of powers of ten, below block B. -/
def TT (B : Nat) (H O : Nat → Int) (w : World) : Prop := 8 < B ∧ ∀ k, k < 696 → w.cell? ⟨8, k * 2, none⟩ = some (.int .u64 (H k)) ∧ w.cell? ⟨8, k * 2 + 1, none⟩ = some (.int .u64 (O k))
theorem TT.keep {B p : Nat} {H O : Nat → Int} {w w' : World} (h : TT B H O w) (hb : Below p w w') (hp : B ≤ p) : TT B H O w' :=
  ⟨h.1, fun k hk => ⟨(hb.cell (p := ⟨8, _, none⟩) (Nat.lt_of_lt_of_le h.1 hp)).trans (h.2 k hk).1, (hb.cell (p := ⟨8, _, none⟩) (Nat.lt_of_lt_of_le h.1 hp)).trans (h.2 k hk).2⟩⟩
/-- A scaler at block q. -/
structure Scl (w : World) (q : Nat) (a b c : Int) : Prop where
  hi : w.cell? ⟨q, 0, none⟩ = some (.int .u64 a)
  lo : w.cell? ⟨q, 1, none⟩ = some (.int .u64 b)
  sh : w.cell? ⟨q, 2, none⟩ = some (.int .i64 c)
  fz : ∀ o, w.frozen? ⟨q, o, none⟩ = false
theorem Scl.set0 {w : World} {q : Nat} {a b c : Int} (h : Scl w q a b c) (x : Int) : Scl (w.setCell ⟨q, 0, none⟩ (.int .u64 x)) q x b c :=
  ⟨World.cell?_setCell_same _ _ _ h.hi, (other w (by omega) _).trans h.lo, (other w (by omega) _).trans h.sh, fun o => by rw [World.frozen?_setCell]; exact h.fz o⟩
theorem Scl.set1 {w : World} {q : Nat} {a b c : Int} (h : Scl w q a b c) (x : Int) : Scl (w.setCell ⟨q, 1, none⟩ (.int .u64 x)) q a x c :=
  ⟨(other w (by omega) _).trans h.hi, World.cell?_setCell_same _ _ _ h.lo, (other w (by omega) _).trans h.sh, fun o => by rw [World.frozen?_setCell]; exact h.fz o⟩
theorem Scl.set2 {w : World} {q : Nat} {a b c : Int} (h : Scl w q a b c) (x : Int) : Scl (w.setCell ⟨q, 2, none⟩ (.int .i64 x)) q a b x :=
  ⟨(other w (by omega) _).trans h.hi, (other w (by omega) _).trans h.lo, World.cell?_setCell_same _ _ _ h.sh, fun o => by rw [World.frozen?_setCell]; exact h.fz o⟩
def PreP (q : Nat) (a b c : Int) (w : World) (e : Ending) (w' : World) : Prop := e = .returned (.tuple #[]) ∧ Scl w' q a b c ∧ Below q w w'

set_option maxHeartbeats 4000000 in
set_option maxRecDepth 100000 in
theorem prescale_walk (B q k : Nat) (H O : Nat → Int) (e p lp a b c : Int) (hB : B ≤ q) (hk : p + 348 = (k : Int)) (hk2 : k < 696) (he0 : -100000 ≤ e) (he1 : e ≤ 100000) (hl0 : -100000 ≤ lp) (hl1 : lp ≤ 100000) (w : World) (hs : Scl w q a b c) (ht : TT B H O w) : Calls Tryd.prog 71 #[.pointer (some ⟨q, 0, none⟩), .int .i64 e, .int .i64 p, .int .i64 lp] w (PreP q (H k) (O k) (-(e + lp + 3)) w) := by
  have h0 := hs.hi
  have h1 := hs.lo
  have h2 := hs.sh
  have hz := hs.fz
  have t0 := (ht.2 k hk2).1
  have t1 := (ht.2 k hk2).2
  have hq : 8 < q := Nat.lt_of_lt_of_le ht.1 hB
  have HS := Aside0.mk hs
  have hp : p = (k : Int) - 348 := by omega
  subst hp
  clear hk ht hs
  have a1 : wrap64 ((k : Int) - 348 + 348) = (k : Int) := by unfold wrap64; omega
  go_enter Tryd.func71, Tryd.ntmps71
  go_wp2_with fail
  go_end0
  exact ⟨rfl, ((HS.out.set0 _).set1 _).set2 _, (((Below.refl q w).setCell (p := ⟨q, 0, none⟩) (Nat.le_refl q) _).setCell (p := ⟨q, 1, none⟩) (Nat.le_refl q) _).setCell (p := ⟨q, 2, none⟩) (Nat.le_refl q) _⟩

def m1 (a b : Int) : Int := ((bits_Mul64.f a b).getD (0, 0)).1
def m2 (a b : Int) : Int := ((bits_Mul64.f a b).getD (0, 0)).2
theorem mul_walk (a b : Int) (w : World) : Calls Tryd.prog 81 #[.int .u64 a, .int .u64 b] w (Dr (.tuple #[.int .u64 (m1 a b), .int .u64 (m2 a b)]) w) :=
  (bits_Mul64.calls a b (m1 a b) (m2 a b) w rfl).mono fun e w' h => ⟨h.1, h.2.out⟩
def b2 (b : Bool) : Int := if b then 1 else 0
theorem b2_walk (b : Bool) (w : World) : Calls Tryd.prog 61 #[.bool b] w (Dr (.int .u64 (b2 b)) w) :=
  (strconv_bool2_uint64.calls b (b2 b) w (by unfold strconv_bool2_uint64.f b2; cases b <;> rfl)).mono fun e w' h => ⟨h.1, h.2.out⟩
theorem b2i_walk (b : Bool) (w : World) : Calls Tryd.prog 73 #[.bool b] w (Dr (.int .i64 (b2 b)) w) :=
  (strconv_bool2_int.calls b (b2 b) w (by unfold strconv_bool2_int.f b2; cases b <;> rfl)).mono fun e w' h => ⟨h.1, h.2.out⟩
theorem and63 (c : Int) (h0 : 0 ≤ c) (h1 : c < 64) : bits .and .i64 c 63 = c := by
  have : ∀ j : Fin 64, bits .and .i64 (j.1 : Int) 63 = (j.1 : Int) := by decide +kernel
  have := this ⟨c.toNat, by omega⟩
  simpa [Int.toNat_of_nonneg h0] using this

def uS (x a b : Int) (k : Nat) : Int := if (IntKind.u64.wrap (m1 x a / 2 ^ k * 2 ^ k) != m1 x a) = true then bits .or .u64 (m1 x a / 2 ^ k) 1 else bits .or .u64 (IntKind.u64.wrap (m1 x a - b2 (decide (m2 x a < m1 x b))) / 2 ^ k) (b2 (decide (1 < IntKind.u64.wrap (m2 x a - m1 x b))))
set_option maxHeartbeats 4000000 in
set_option maxRecDepth 100000 in
theorem uscale_walk (q k : Nat) (x a b : Int) (h1 : k < 64) (w : World) (hs : Scl w q a b (k : Int)) : Calls Tryd.prog 72 #[.int .u64 x, .pointer (some ⟨q, 0, none⟩)] w (Dr (.int .u64 (uS x a b k)) w) := by
  have hA := and63 (k : Int) (by omega) (by omega)
  have hi := hs.hi
  have hlo := hs.lo
  have hsh := hs.sh
  cases hT : (IntKind.u64.wrap (m1 x a / 2 ^ k * 2 ^ k) != m1 x a) with
  | true =>
    have HT := Aside0.mk hT
    go_enter Tryd.func72, Tryd.ntmps72
    go_wp2_with (first | (go_at_call 81; refine (mul_walk _ _ _).mono ?_; rintro e w1 ⟨rfl, n, rfl⟩) | (go_at_call 61; refine (b2_walk _ _).mono ?_; rintro e w1 ⟨rfl, n3, rfl⟩))
    go_ret
    refine ⟨?_, _, rfl⟩
    unfold uS
    rw [if_pos HT.out]; rfl
  | false =>
    have HT := Aside0.mk hT
    go_enter Tryd.func72, Tryd.ntmps72
    go_wp2_with (first | (go_at_call 81; refine (mul_walk _ _ _).mono ?_; rintro e w1 ⟨rfl, n, rfl⟩) | (go_at_call 61; refine (b2_walk _ _).mono ?_; rintro e w1 ⟨rfl, n3, rfl⟩))
    generalize hW0 : World.drewN w _ = W0
    replace hW0 := Aside0.mk hW0
    go_quiet ((go_at_call 61; refine Calls.quiet_of (b2_walk _ _)))
    go_wp2_with fail
    go_ret
    refine ⟨?_, ?_⟩
    · unfold uS
      rw [if_neg (by rw [HT.out]; decide)]; rfl
    · exact ⟨_, by rw [← hW0.out, World.drewN_drewN]⟩

def pLp (p : Int) : Int := wrap64 (p * 108853) / 32768
def pE (d p : Int) : Int := if 53 - l64 d - pLp p < 1074 then 53 - l64 d - pLp p else 1074
def pSh (d p : Int) : Int := -(pE d p - (64 - l64 d) + pLp p + 3)
def pU (H O : Nat → Int) (d p : Int) : Int := uS (IntKind.u64.wrap (d * 2 ^ (64 - l64 d).toNat)) (H (p + 348).toNat) (O (p + 348).toNat) (pSh d p).toNat
def pC (H O : Nat → Int) (d p : Int) : Bool := decide (36028797018963966 ≤ pU H O d p)
def pU2 (H O : Nat → Int) (d p : Int) : Int := bits .or .u64 (if pC H O d p then pU H O d p / 2 else pU H O d p) (bits .and .u64 (pU H O d p) 1)
def pR (u : Int) : Int := (IntKind.u64.wrap (IntKind.u64.wrap (u + 1) + bits .and .u64 (u / 4) 1)) / 4
def pfV (H O : Nat → Int) (d p sg : Int) : Nat := if 64 ≤ pSh d p then (bits .or .u64 sg 0).toNat else pkV (bits .or .u64 sg (pR (pU2 H O d p))) (-(pE d p - b2 (pC H O d p)))
def pfO (H O : Nat → Int) (d p sg : Int) : Bool := !decide (64 ≤ pSh d p) && pkO (bits .or .u64 sg (pR (pU2 H O d p))) (-(pE d p - b2 (pC H O d p)))
def PfP (v : Nat) (o : Bool) (w : World) (e : Ending) (w' : World) : Prop := e = .returned (.tuple #[.float .f64 v, erV o]) ∧ Below w.heap.size w w'
theorem lp_walk (p : Int) (w : World) : Calls Tryd.prog 70 #[.int .i64 p] w (Dr (.int .i64 (pLp p)) w) :=
  (strconv_log2Pow10.calls p (pLp p) w rfl).mono fun e w' h => ⟨h.1, h.2.out⟩
theorem unmin_walk (w : World) : Calls Tryd.prog 74 #[.int .u64 9007199254740992] w (Dr (.int .u64 36028797018963966) w) :=
  (strconv_unmin.calls 9007199254740992 36028797018963966 w (by unfold strconv_unmin.f; rw [IntKind.wrap_u64, IntKind.wrap_u64]; decide)).mono fun e w' h => ⟨h.1, h.2.out⟩
theorem round_walk (u : Int) (w : World) : Calls Tryd.prog 76 #[.int .u64 u] w (Dr (.int .u64 (pR u)) w) :=
  (strconv_unrounded_round.calls u (pR u) w rfl).mono fun e w' h => ⟨h.1, h.2.out⟩
theorem pLp_in (p : Int) (h0 : -345 ≤ p) (h1 : p ≤ 310) : -1200 ≤ pLp p ∧ pLp p ≤ 1200 := by
  have : wrap64 (p * 108853) = p * 108853 := by unfold wrap64; omega
  unfold pLp
  rw [this]
  omega

theorem b2i_t (w : World) : Calls Tryd.prog 73 #[.bool true] w (Dr (.int .i64 1) w) := b2i_walk true w
theorem b2i_f (w : World) : Calls Tryd.prog 73 #[.bool false] w (Dr (.int .i64 0) w) := b2i_walk false w
theorem scl_new (W : World) (n : Nat) (h : W.heap.size = n) : Scl (W.alloc (.cells #[.int .u64 0, .int .u64 0, .int .i64 0] 113)) n 0 0 0 := by
  subst h
  refine ⟨by simp, by simp, by simp, fun o => ?_⟩
  rw [frozen?_alloc_cells]
  unfold World.frozen?
  simp

set_option maxHeartbeats 4000000 in
set_option maxRecDepth 100000 in
theorem parse_walk (B : Nat) (H O : Nat → Int) (d p sg : Int) (hd0 : 0 ≤ d) (hd1 : d < 18446744073709551616) (hp0 : -345 ≤ p) (hp1 : p ≤ 310) (w : World) (hB : B ≤ w.heap.size) (ht : TT B H O w) : Calls Tryd.prog 64 #[.int .u64 d, .int .i64 p, .int .u64 sg] w (PfP (pfV H O d p sg) (pfO H O d p sg) w) := by
  have hl := l64_in d hd0 hd1
  have hlp := pLp_in p hp0 hp1
  have CL := Aside0.mk (len_walk d hd0 hd1)
  obtain ⟨b, hb⟩ : ∃ b, b = l64 d := ⟨_, rfl⟩
  rw [← hb] at hl CL
  obtain ⟨lp, hlpe⟩ : ∃ lp, lp = pLp p := ⟨_, rfl⟩
  have CP := Aside0.mk (lp_walk p)
  rw [← hlpe] at hlp CP
  have HQ := Aside0.mk (And.intro hb hlpe)
  clear hb hlpe
  obtain ⟨hl0, hl1⟩ := hl
  obtain ⟨hlp0, hlp1⟩ := hlp
  go_enter Tryd.func64, Tryd.ntmps64
  go_upto_region 4 with (first | (go_at_call 69; refine (CL.out _).mono ?_; rintro e w1 ⟨rfl, n1, rfl⟩) | (go_at_call 70; refine (CP.out _).mono ?_; rintro e w1 ⟨rfl, n2, rfl⟩))
  generalize hE : (if 53 - b - lp < 1074 then 53 - b - lp else 1074) = E
  have hE0 : E ≤ 53 - b - lp ∧ E ≤ 1074 ∧ -1300 ≤ E := by rw [← hE]; split <;> omega
  obtain ⟨hE0, hE1, hE2⟩ := hE0
  replace hE := Aside0.mk hE
  generalize hW0 : World.drewN w _ = W0
  have hsz : W0.heap.size = w.heap.size := by rw [← hW0]; rfl
  have hB0 : Below w.heap.size w W0 := by rw [← hW0]; exact Below.drewN (Below.refl _ _) _
  have ht0 := ht.keep hB0 hB
  clear hW0
  have hk : p + 348 = ((p + 348).toNat : Int) := by omega
  obtain ⟨k, hke⟩ : ∃ k : Nat, k = (p + 348).toNat := ⟨_, rfl⟩
  rw [← hke] at hk
  have hk2 : k < 696 := by omega
  have hS := scl_new W0 w.heap.size hsz
  have hB1 : Below w.heap.size w (W0.alloc (.cells #[.int .u64 0, .int .u64 0, .int .i64 0] 113)) := hB0.alloc (Nat.le_of_eq hsz.symm) _
  have CS := Aside0.mk (prescale_walk B w.heap.size k H O (E - (64 - b)) p lp 0 0 0 hB hk hk2 (by omega) (by omega) (by omega) (by omega) _ hS (ht.keep hB1 hB))
  replace hB1 := Aside0.mk hB1
  have HK := Aside0.mk (And.intro hk hke)
  clear hS hk hke ht0 ht hB0
  go_wp2_with fail
  refine CS.out.mono ?_
  rintro e w2 ⟨rfl, hs2, hb2⟩
  have h2 := hs2.sh
  have HS2 := Aside0.mk hs2
  have HB2 := Aside0.mk (hB1.out.trans hb2)
  clear hs2 hb2 CS
  obtain ⟨sh, hsh⟩ : ∃ sh, sh = -(E - (64 - b) + lp + 3) := ⟨_, rfl⟩
  rw [← hsh] at h2
  have hsh8 : 8 ≤ sh := by omega
  have HSH := Aside0.mk hsh
  clear hsh
  have hpe : pE d p = E := by unfold pE; rw [← HQ.out.1, ← HQ.out.2]; exact hE.out
  have hps : pSh d p = sh := by unfold pSh; rw [hpe, ← HQ.out.1, ← HQ.out.2]; exact HSH.out.symm
  replace hpe := Aside0.mk hpe
  replace hps := Aside0.mk hps
  by_cases h64 : 64 ≤ sh
  · have hfb := fb_run
    have e1 : pfV H O d p sg = (bits .or .u64 sg 0).toNat := by unfold pfV; rw [hps.out, if_pos h64]
    have e2 : pfO H O d p sg = false := by unfold pfO; rw [hps.out, decide_eq_true h64]; rfl
    replace e1 := Aside0.mk e1
    replace e2 := Aside0.mk e2
    go_wp2_with fail
    go_ret2
    exact ⟨by rw [e1.out, e2.out]; rfl, HB2.out⟩
  · obtain ⟨j, hj⟩ : ∃ j : Nat, sh = (j : Int) := ⟨sh.toNat, by omega⟩
    have hj2 : j < 64 := by omega
    have hs3 := HS2.out
    rw [← HSH.out, hj] at hs3
    have CU := Aside0.mk (fun x => uscale_walk w.heap.size j x (H k) (O k) hj2 w2 hs3)
    obtain ⟨U, hU⟩ : ∃ U, U = pU H O d p := ⟨_, rfl⟩
    have hU2 : U = uS (IntKind.u64.wrap (d * 2 ^ (64 - b).toNat)) (H k) (O k) j := by
      rw [hU]; unfold pU; rw [hps.out, ← HQ.out.1, ← HK.out.2, hj]; rfl
    have HU := Aside0.mk hU2
    have e1 : pfV H O d p sg = pkV (bits .or .u64 sg (pR (pU2 H O d p))) (-(E - b2 (pC H O d p))) := by unfold pfV; rw [hps.out, if_neg h64, hpe.out]
    have e2 : pfO H O d p sg = pkO (bits .or .u64 sg (pR (pU2 H O d p))) (-(E - b2 (pC H O d p))) := by unfold pfO; rw [hps.out, decide_eq_false h64, hpe.out]; rfl
    have e3 : pC H O d p = decide (36028797018963966 ≤ U) := by unfold pC; rw [hU]
    have e4 : pU2 H O d p = bits .or .u64 (if pC H O d p then U / 2 else U) (bits .and .u64 U 1) := by unfold pU2; rw [hU]
    have HE := Aside0.mk (And.intro e1 (And.intro e2 (And.intro e3 e4)))
    clear e1 e2 e3 e4 hs3 hU hU2 HS2
    cases hc : decide (36028797018963966 ≤ U) with
    | true =>
      have HC := Aside0.mk hc
      subst hj
      go_wp2_with (first | (go_at_call 72; refine (CU.out _).mono ?_; rintro e w3 ⟨rfl, n3, rfl⟩; rw [← HU.out]) | (go_at_call 74; refine (unmin_walk _).mono ?_; rintro e w4 ⟨rfl, n4, rfl⟩) | (go_at_call 73; refine (b2i_t _).mono ?_; rintro e w5 ⟨rfl, n5, rfl⟩) | (go_at_call 76; refine (round_walk _ _).mono ?_; rintro e w6 ⟨rfl, n6, rfl⟩) | (go_at_call 79; refine (pack_walk _ _ _ (by omega) (by omega)).mono ?_; rintro e w7 ⟨rfl, n7, rfl⟩))
      go_ret2
      refine ⟨?_, Below.drewN HB2.out _⟩
      rw [HE.out.1, HE.out.2.1, HE.out.2.2.2, HE.out.2.2.1, HC.out]
      rfl
    | false =>
      have HC := Aside0.mk hc
      subst hj
      go_wp2_with (first | (go_at_call 72; refine (CU.out _).mono ?_; rintro e w3 ⟨rfl, n3, rfl⟩; rw [← HU.out]) | (go_at_call 74; refine (unmin_walk _).mono ?_; rintro e w4 ⟨rfl, n4, rfl⟩) | (go_at_call 73; refine (b2i_f _).mono ?_; rintro e w5 ⟨rfl, n5, rfl⟩) | (go_at_call 76; refine (round_walk _ _).mono ?_; rintro e w6 ⟨rfl, n6, rfl⟩) | (go_at_call 79; refine (pack_walk _ _ _ (by omega) (by omega)).mono ?_; rintro e w7 ⟨rfl, n7, rfl⟩))
      go_ret2
      refine ⟨?_, Below.drewN HB2.out _⟩
      rw [HE.out.1, HE.out.2.1, HE.out.2.2.2, HE.out.2.2.1, HC.out, show E - b2 false = E from Int.sub_zero E]
      rfl
end Go.Proofs.YtlkbhmmelejmjaaDoor.FltFast2

/- Floats of 64 bits (plain): a word is a sign and a rung; products, quotients and comparisons by sign and rung. -/
namespace Go.Proofs.YtlkbhmmelejmjaaDoor.FltNum
open Go.RowKit Ieee
set_option linter.unusedVariables false
set_option linter.unusedSimpArgs false

abbrev D : Format := Ieee.double
theorem sw : D.signWeight = 9223372036854775808 := by decide
theorem ir : D.infRung = 9218868437227405312 := by decide
theorem bn : D.binade = 4503599627370496 := by decide
/-- What a rung stands for. -/
def rd (s : Bool) (a : Nat) : Datum :=
  if a < D.binade then .number s a D.leastPlace
  else if a < D.infRung then .number s (D.binade + a % D.binade) (D.leastPlace + (a / D.binade - 1 : Nat))
  else .infinity s
theorem read_word (s : Bool) (a : Nat) (h : a ≤ D.infRung) : D.read (D.word s a) = rd s a := by
  rw [ir] at h
  have h1 : D.word s a / D.signWeight % 2 == 1 ↔ s = true := by
    unfold Format.word
    rw [sw]
    cases s
    · simp; omega
    · simp; omega
  have h1' : (D.word s a / D.signWeight % 2 == 1) = s := by
    cases s
    · cases hq : (D.word false a / D.signWeight % 2 == 1) with
      | false => rfl
      | true => exact absurd (h1.1 hq) (by decide)
    · exact h1.2 rfl
  have h2 : D.word s a % D.signWeight = a := by
    unfold Format.word
    rw [sw]
    cases s
    · simp; omega
    · simp; omega
  unfold Format.read
  rw [h1', h2]
  unfold rd
  dsimp only
  rw [ir]
  split
  · rfl
  · split
    · rfl
    · rw [if_pos (by omega)]
/-- The rung nearest to a number. -/
def rg (mag : Nat) (place : Int) : Nat :=
  if mag = 0 then 0 else
  let last := max (place + mag.log2 - D.fractionBits) D.leastPlace
  let kept := Toward.even.cut false (mag <<< (place - last).toNat) (last - place).toNat
  min ((last - D.leastPlace).toNat * D.binade + kept) D.infRung
theorem rg_le (mag : Nat) (place : Int) : rg mag place ≤ D.infRung := by
  unfold rg
  split
  · exact Nat.zero_le _
  · exact Nat.min_le_right _ _
theorem nearest_eq (s : Bool) (mag : Nat) (place : Int) : D.nearest s mag place = D.word s (rg mag place) := by
  unfold Format.nearest rg
  split
  · rfl
  · rfl
theorem ofInt_eq (m : Int) (h : 0 ≤ m) : floatOfInt .f64 m = D.word false (rg m.toNat 0) := by
  show D.nearest (decide (m < 0)) m.natAbs 0 = _
  rw [decide_eq_false (by omega), nearest_eq, show m.natAbs = m.toNat from by omega]
theorem neg_eq (s : Bool) (a : Nat) (h : a ≤ D.infRung) : Op.negFloat .f64 (D.word s a) = D.word (!s) a := by
  rw [ir] at h
  unfold Op.negFloat
  show D.word s a ^^^ 2 ^ 63 = _
  unfold Format.word
  rw [sw]
  have key : a ^^^ 2 ^ 63 = 2 ^ 63 + a := by
    have e := Nat.two_pow_add_eq_or_of_lt (i := 63) (b := a) (by omega) 1
    rw [Nat.mul_one] at e
    rw [e]
    apply Nat.eq_of_testBit_eq
    intro i
    rw [Nat.testBit_xor, Nat.testBit_or, Nat.testBit_two_pow]
    by_cases h63 : 63 = i
    · subst h63
      rw [Nat.testBit_lt_two_pow (by omega)]
      simp
    · simp [h63]
  cases s
  · simp only [Bool.not_false, if_true, Bool.false_eq_true, if_false]
    rw [key]
  · simp only [Bool.not_true, if_true, Bool.false_eq_true, if_false]
    rw [show 9223372036854775808 + a = a ^^^ 2 ^ 63 from by rw [key], Nat.xor_assoc, Nat.xor_self, Nat.xor_zero]
/-- What of two rungs is their product, their quotient. -/
def pdt : Datum → Datum → Nat
  | .number _ m i, .number _ n j => rg (m * n) (i + j)
  | _, _ => D.infRung
def qt : Datum → Datum → Nat
  | .number _ m i, .number _ n j => rg (2 * (m <<< (D.fractionBits + 2 + n.log2 - m.log2) / n) + ((m <<< (D.fractionBits + 2 + n.log2 - m.log2)) % n != 0).toNat) (i - j - (D.fractionBits + 2 + n.log2 - m.log2 : Nat) - 1)
  | _, _ => D.infRung
theorem pdt_le (x y : Datum) : pdt x y ≤ D.infRung := by
  unfold pdt
  split
  · exact rg_le _ _
  · exact Nat.le_refl _
theorem qt_le (x y : Datum) : qt x y ≤ D.infRung := by
  unfold qt
  split
  · exact rg_le _ _
  · exact Nat.le_refl _
/-- A word that stands for a number above nought. -/
def Pos (y : Nat) : Prop := ∃ n j, D.read y = .number false n j ∧ n ≠ 0
theorem rd_cases (s : Bool) (a : Nat) : (∃ m i, rd s a = .number s m i) ∨ rd s a = .infinity s := by
  unfold rd
  split
  · exact .inl ⟨_, _, rfl⟩
  · split
    · exact .inl ⟨_, _, rfl⟩
    · exact .inr rfl
theorem rd_num {s : Bool} {a m : Nat} {i : Int} (h : rd s a = .number s m i) (t : Bool) : rd t a = .number t m i := by
  unfold rd at h ⊢
  split at h
  · next h1 => rw [if_pos h1]; injection h with _ h2 h3; rw [h2, h3]
  · next h1 =>
    rw [if_neg h1]
    split at h
    · next h2 => rw [if_pos h2]; injection h with _ h3 h4; rw [h3, h4]
    · cases h
theorem rd_inf {s : Bool} {a : Nat} (h : rd s a = .infinity s) (t : Bool) : rd t a = .infinity t := by
  unfold rd at h ⊢
  split at h
  · cases h
  · next h1 =>
    rw [if_neg h1]
    split at h
    · cases h
    · next h2 => rw [if_neg h2]
theorem mul_eq (s : Bool) (a y : Nat) (ha : a ≤ D.infRung) (hy : Pos y) : floatBits .mul .f64 (D.word s a) y = some (D.word s (pdt (rd false a) (D.read y))) := by
  obtain ⟨n, j, h1, h2⟩ := hy
  show ((D.read (D.word s a)).product (D.read y)).map D.write = _
  rw [read_word s a ha, h1]
  rcases rd_cases s a with ⟨m, i, h⟩ | h
  · rw [h, rd_num h false]
    show some (D.nearest (s ^^ false) (m * n) (i + j)) = some (D.word s (rg (m * n) (i + j)))
    rw [nearest_eq, Bool.xor_false]
  · rw [h, rd_inf h false]
    show (if n = 0 then none else some (Datum.infinity (s ^^ false))).map D.write = some (D.word s D.infRung)
    rw [if_neg h2, Bool.xor_false]
    rfl
theorem div_eq (s : Bool) (a y : Nat) (ha : a ≤ D.infRung) (hy : Pos y) : floatBits .quo .f64 (D.word s a) y = some (D.word s (qt (rd false a) (D.read y))) := by
  obtain ⟨n, j, h1, h2⟩ := hy
  show ((D.read (D.word s a)).quotient (D.fractionBits + 2) (D.read y)).map D.write = _
  rw [read_word s a ha, h1]
  rcases rd_cases s a with ⟨m, i, h⟩ | h
  · rw [h, rd_num h false]
    show (if n = 0 then (if m = 0 then none else some (Datum.infinity (s ^^ false))) else _).map D.write = _
    rw [if_neg h2]
    show some (D.nearest (s ^^ false) _ _) = _
    rw [nearest_eq, Bool.xor_false]
    rfl
  · rw [h, rd_inf h false]
    show some (D.write (Datum.infinity (s ^^ false))) = some (D.word s D.infRung)
    rw [Bool.xor_false]
    rfl
theorem cmp_lt (a b : Int) : (compare a b == Ordering.lt) = decide (a < b) := by
  show (compareOfLessAndEq a b == Ordering.lt) = _
  unfold compareOfLessAndEq
  by_cases h : a < b
  · simp [h]
  · by_cases h2 : a = b <;> simp [h, h2]
theorem cmp_gt (a b : Int) : (compare a b == Ordering.gt) = decide (b < a) := by
  show (compareOfLessAndEq a b == Ordering.gt) = _
  unfold compareOfLessAndEq
  by_cases h : a < b
  · simp [h]; omega
  · by_cases h2 : a = b
    · simp [h2]
    · simp [h, h2]; omega
theorem some_beq (x y : Ordering) : (some x == some y) = (x == y) := rfl
theorem sg_f (m k : Nat) : signed false m k = ((m <<< k : Nat) : Int) := rfl
theorem sg_t (m k : Nat) : signed true m k = -((m <<< k : Nat) : Int) := rfl
/-- Whether a rung is above 1e15. -/
def big (a : Nat) : Bool := D.order (D.word false a) 4831355200913801216 == some .gt
theorem r15 : D.read 4831355200913801216 = .number false 8000000000000000 (-3) := by decide +kernel
theorem r15n : D.read 14054727237768577024 = .number true 8000000000000000 (-3) := by decide +kernel
theorem big_pos (a : Nat) (ha : a ≤ D.infRung) : (D.order (D.word false a) 14054727237768577024 == some .lt) = false := by
  unfold Format.order
  rw [read_word _ _ ha, r15n]
  rcases rd_cases false a with ⟨m, i, h⟩ | h
  · rw [h]
    show (some (compare (signed false m _) (signed true 8000000000000000 _)) == some Ordering.lt) = false
    rw [some_beq, cmp_lt, sg_f, sg_t]
    generalize m <<< _ = p
    generalize 8000000000000000 <<< _ = q
    exact decide_eq_false (by omega)
  · rw [h]; decide
theorem big_neg (a : Nat) (ha : a ≤ D.infRung) : (D.order (D.word true a) 4831355200913801216 == some .gt) = false := by
  unfold Format.order
  rw [read_word _ _ ha, r15]
  rcases rd_cases true a with ⟨m, i, h⟩ | h
  · rw [h]
    show (some (compare (signed true m _) (signed false 8000000000000000 _)) == some Ordering.gt) = false
    rw [some_beq, cmp_gt, sg_f, sg_t]
    generalize m <<< _ = p
    generalize 8000000000000000 <<< _ = q
    exact decide_eq_false (by omega)
  · rw [h]; decide
theorem big_neg2 (a : Nat) (ha : a ≤ D.infRung) : (D.order (D.word true a) 14054727237768577024 == some .lt) = big a := by
  unfold big Format.order
  rw [read_word _ _ ha, read_word _ _ ha, r15, r15n]
  rcases rd_cases true a with ⟨m, i, h⟩ | h
  · rw [h, rd_num h false]
    show (some (compare (signed true m _) (signed true 8000000000000000 _)) == some Ordering.lt) = (some (compare (signed false m _) (signed false 8000000000000000 _)) == some Ordering.gt)
    rw [some_beq, some_beq, cmp_lt, cmp_gt, sg_f, sg_t, sg_f, sg_t]
    exact decide_eq_decide.mpr (by omega)
  · rw [h, rd_inf h false]; decide

/-- The exact road: the rung, or nothing. X: the rungs of the powers of ten. -/
def exR (X : Nat → Nat) (m x : Int) : Option Nat :=
  if m / 4503599627370496 = 0 then
    if x = 0 then some (rg m.toNat 0)
    else if 0 < x ∧ x ≤ 37 then
      if 22 < x then
        (if big (pdt (rd false (rg m.toNat 0)) (D.read (X (x - 22).toNat))) then none else some (pdt (rd false (pdt (rd false (rg m.toNat 0)) (D.read (X (x - 22).toNat)))) (D.read (X 22))))
      else (if big (rg m.toNat 0) then none else some (pdt (rd false (rg m.toNat 0)) (D.read (X x.toNat))))
    else if x < 0 ∧ -22 ≤ x then some (qt (rd false (rg m.toNat 0)) (D.read (X (-x).toNat)))
    else none
  else none
end Go.Proofs.YtlkbhmmelejmjaaDoor.FltNum
