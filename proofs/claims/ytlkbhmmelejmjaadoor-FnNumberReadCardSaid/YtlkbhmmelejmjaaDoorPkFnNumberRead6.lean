/- Parts of the proof of FnNumberRead, one behind the other: FltExact, FltSpecial, FltAtof, FltAtof2, FltAtof3, FltDecNew. Each part says ahead of itself what it proves. -/
import Derived.Test.YtlkbhmmelejmjaaDoorPkFnNumberRead5
import Derived.Test.YtlkbhmmelejmjaaDoorPkFnNumberRead2
import Derived.Test.YtlkbhmmelejmjaaDoorPkFnNumberRead3
import Derived.Test.YtlkbhmmelejmjaaDoorPkFnNumberRead1

/- The exact road of floats, walked: atof64exact. -/
namespace Go.Proofs.YtlkbhmmelejmjaaDoor.FltExact
open Go.RowKit Go.Proofs.YtlkbhmmelejmjaaDoorW.PrintWords Go.Proofs.YtlkbhmmelejmjaaDoor.FltKnown Go.Proofs.YtlkbhmmelejmjaaDoor.FltDec Go.Proofs.YtlkbhmmelejmjaaDoor.FltFast Go.Proofs.YtlkbhmmelejmjaaDoor.FltFast2 Go.Proofs.YtlkbhmmelejmjaaDoor.FltBits Go.Proofs.YtlkbhmmelejmjaaDoor.FltNum
set_option linter.unusedVariables false
set_option linter.unusedSimpArgs false

/-- The table of exact powers of ten, below block B. -/
def XT (B : Nat) (X : Nat → Nat) (w : World) : Prop := ∃ L o c, 7 < B ∧ L < B ∧ w.cell? ⟨7, 0, none⟩ = some (.slice (some ⟨L, o, none⟩) 23 c) ∧ ∀ k, k < 23 → w.cell? ⟨L, o + k, none⟩ = some (.float .f64 (X k))
theorem XT.keep {B p : Nat} {X : Nat → Nat} {w w' : World} (h : XT B X w) (hb : Below p w w') (hp : B ≤ p) : XT B X w' := by
  obtain ⟨L, o, c, h1, h2, h3, h4⟩ := h
  exact ⟨L, o, c, h1, h2, (hb.cell (p := ⟨7, 0, none⟩) (Nat.lt_of_lt_of_le h1 hp)).trans h3, fun k hk => (hb.cell (p := ⟨L, _, none⟩) (Nat.lt_of_lt_of_le h2 hp)).trans (h4 k hk)⟩

/-- What atof64exact gives. -/
def ExP (ng : Bool) (o : Option Nat) (w : World) (e : Ending) (w' : World) : Prop := w' = w ∧ match o with
  | some r => e = .returned (.tuple #[.float .f64 (D.word ng r), .bool true])
  | none => ∃ v, e = .returned (.tuple #[.float .f64 v, .bool false])
theorem mul_run {s : Bool} {a y F R : Nat} (ha : a ≤ D.infRung) (hy : Pos y) (hF : F = D.word s a) (hR : R = D.word s (pdt (rd false a) (D.read y))) (t : TypeId) (W : World) : (binOp .mul t (.float .f64 F) (.float .f64 y)).run Tryd.prog W = .ok (.float .f64 R) W := by
  subst hF hR
  exact run_float_arith W .mul t .f64 _ _ _ (mul_eq s a y ha hy)
theorem div_run {s : Bool} {a y F R : Nat} (ha : a ≤ D.infRung) (hy : Pos y) (hF : F = D.word s a) (hR : R = D.word s (qt (rd false a) (D.read y))) (t : TypeId) (W : World) : (binOp .quo t (.float .f64 F) (.float .f64 y)).run Tryd.prog W = .ok (.float .f64 R) W := by
  subst hF hR
  exact run_float_arith W .quo t .f64 _ _ _ (div_eq s a y ha hy)
theorem ord_hi {s : Bool} {a F : Nat} (ha : a ≤ D.infRung) (hF : F = D.word s a) : ((FloatKind.format .f64).order F 4831355200913801216 == some .gt) = (!s && big a) := by
  subst hF
  cases s
  · rfl
  · exact big_neg a ha
theorem ord_lo {s : Bool} {a F : Nat} (ha : a ≤ D.infRung) (hF : F = D.word s a) : ((FloatKind.format .f64).order F 14054727237768577024 == some .lt) = (s && big a) := by
  subst hF
  cases s
  · exact big_pos a ha
  · exact big_neg2 a ha

set_option maxHeartbeats 4000000 in
set_option maxRecDepth 100000 in
theorem exact_pos (B : Nat) (X : Nat → Nat) (m x : Int) (hm0 : 0 ≤ m) (hm1 : m < 18446744073709551616) (hx0 : -1000000 ≤ x) (hx1 : x ≤ 1000000) (w : World) (hF : FI B 4 w) (ht : XT B X w) (hX : ∀ k, k < 23 → Pos (X k)) : Calls Tryd.prog 63 #[.int .u64 m, .int .i64 x, .bool false] w (ExP false (exR X m x) w) := by
  obtain ⟨_, hf0, hf1, hf2⟩ := hF
  obtain ⟨L, o, c, hb1, hb2, hs, hc⟩ := ht
  obtain ⟨a0, ha0e⟩ : ∃ a0, a0 = rg m.toNat 0 := ⟨_, rfl⟩
  have ha0 : a0 ≤ D.infRung := by rw [ha0e]; exact rg_le _ _
  obtain ⟨G0, hG0⟩ : ∃ G0, G0 = D.word false a0 := ⟨_, rfl⟩
  obtain ⟨F0, hF0⟩ : ∃ F0, F0 = D.word false a0 := ⟨_, rfl⟩
  have hcv : floatOfInt .f64 m = G0 := by rw [hG0, ha0e]; exact ofInt_eq m hm0
  have hng : Op.unary .neg (.float .f64 G0) = pure (.float .f64 (D.word true a0)) := by show pure (Value.float .f64 (Op.negFloat .f64 G0)) = _; rw [hG0, neg_eq false a0 ha0]; rfl
  have hsame : G0 = F0 := by rw [hG0, hF0]
  rw [hsame] at hcv
  clear hng hsame
  have HX := Aside0.mk hX
  have HR := Aside0.mk (show exR X m x = _ from rfl)
  by_cases hm : m / 4503599627370496 = 0
  · have q1 : (m / 4503599627370496 != 0) = false := by rw [hm]; rfl
    have HM := Aside0.mk hm
    by_cases h0 : x = 0
    · have hR : exR X m x = some a0 := by unfold exR; rw [if_pos hm, if_pos h0, ha0e]
      rw [hR]
      have HF := Aside0.mk hF0
      clear hF0 hG0 ha0e hR
      subst h0
      go_enter Tryd.func63, Tryd.ntmps63
      go_wp2_with fail
      go_ret2
      exact ⟨rfl, show Ending.returned (.tuple #[.float .f64 F0, .bool true]) = _ from by rw [HF.out]⟩
    · have q0 : (x == 0) = false := beq_eq_false_iff_ne.mpr h0
      by_cases h1 : 0 < x ∧ x ≤ 37
      · obtain ⟨k, rfl⟩ : ∃ k : Nat, x = (k : Int) := ⟨x.toNat, by omega⟩
        by_cases h3 : 22 < k
        · have c1 := hc (k - 22) (by omega)
          have c2 := hc 22 (by omega)
          obtain ⟨a1, ha1e⟩ : ∃ a1, a1 = pdt (rd false a0) (D.read (X (k - 22))) := ⟨_, rfl⟩
          have ha1 : a1 ≤ D.infRung := by rw [ha1e]; exact pdt_le _ _
          obtain ⟨F1, hF1⟩ : ∃ F1, F1 = D.word false a1 := ⟨_, rfl⟩
          obtain ⟨F2, hF2⟩ : ∃ F2, F2 = D.word false (pdt (rd false a1) (D.read (X 22))) := ⟨_, rfl⟩
          have r1 := fun t W => mul_run (t := t) (W := W) ha0 (hX (k - 22) (by omega)) hF0 (show F1 = _ by rw [hF1, ha1e])
          have r2 := fun t W => mul_run (t := t) (W := W) ha1 (hX 22 (by omega)) hF1 hF2
          have o1 := ord_hi ha1 hF1
          have o2 := ord_lo ha1 hF1
          have hR : exR X m (k : Int) = if big a1 then none else some (pdt (rd false a1) (D.read (X 22))) := by
            unfold exR
            rw [if_pos hm, if_neg h0, if_pos h1, if_pos (by omega), ha1e, ha0e, show ((k : Int) - 22).toNat = k - 22 from by omega]
          rw [hR]
          have HF := Aside0.mk hF2
          have HK := Aside0.mk h1
          obtain ⟨h1a, h1b⟩ := h1
          have a22 : wrap64 ((k : Int) - 22) = ((k - 22 : Nat) : Int) := by unfold wrap64; omega
          have g22 : k - 22 < 23 := by omega
          clear hF0 hG0 ha0e hR ha1e hF1 hF2 hX hc
          cases hbg : big a1 with
          | true =>
            rw [hbg] at o1 o2
            simp only [Bool.not_true, Bool.not_false, Bool.true_and, Bool.false_and] at o1 o2
            go_enter Tryd.func63, Tryd.ntmps63
            go_wp2_with fail
            go_ret2
            exact ⟨rfl, _, rfl⟩
          | false =>
            rw [hbg] at o1 o2
            simp only [Bool.and_false] at o1 o2
            go_enter Tryd.func63, Tryd.ntmps63
            go_wp2_with fail
            go_ret2
            exact ⟨rfl, show Ending.returned (.tuple #[.float .f64 F2, .bool true]) = _ from by rw [HF.out]⟩
        · have c1 := hc k (by omega)
          obtain ⟨F2, hF2⟩ : ∃ F2, F2 = D.word false (pdt (rd false a0) (D.read (X k))) := ⟨_, rfl⟩
          have r1 := fun t W => mul_run (t := t) (W := W) ha0 (hX k (by omega)) hF0 hF2
          have o1 := ord_hi ha0 hF0
          have o2 := ord_lo ha0 hF0
          have hR : exR X m (k : Int) = if big a0 then none else some (pdt (rd false a0) (D.read (X k))) := by
            unfold exR
            rw [if_pos hm, if_neg h0, if_pos h1, if_neg (by omega), ha0e, Int.toNat_natCast]
          rw [hR]
          have HF := Aside0.mk hF2
          obtain ⟨h1a, h1b⟩ := h1
          have g22 : k < 23 := by omega
          clear hF0 hG0 ha0e hR hF2 hX hc
          cases hbg : big a0 with
          | true =>
            rw [hbg] at o1 o2
            simp only [Bool.not_true, Bool.not_false, Bool.true_and, Bool.false_and] at o1 o2
            go_enter Tryd.func63, Tryd.ntmps63
            go_wp2_with fail
            go_ret2
            exact ⟨rfl, _, rfl⟩
          | false =>
            rw [hbg] at o1 o2
            simp only [Bool.and_false] at o1 o2
            go_enter Tryd.func63, Tryd.ntmps63
            go_wp2_with fail
            go_ret2
            exact ⟨rfl, show Ending.returned (.tuple #[.float .f64 F2, .bool true]) = _ from by rw [HF.out]⟩
      · by_cases h2 : x < 0 ∧ -22 ≤ x
        · obtain ⟨k, hk⟩ : ∃ k : Nat, x = -(k : Int) := ⟨(-x).toNat, by omega⟩
          subst hk
          have c1 := hc k (by omega)
          obtain ⟨F2, hF2⟩ : ∃ F2, F2 = D.word false (qt (rd false a0) (D.read (X k))) := ⟨_, rfl⟩
          have r1 := fun t W => div_run (t := t) (W := W) ha0 (hX k (by omega)) hF0 hF2
          have hR : exR X m (-(k : Int)) = some (qt (rd false a0) (D.read (X k))) := by
            unfold exR
            rw [if_pos hm, if_neg h0, if_neg h1, if_pos h2, ha0e, Int.neg_neg, Int.toNat_natCast]
          rw [hR]
          have HF := Aside0.mk hF2
          have g22 : k < 23 := by omega
          have g0 : 0 < k := by omega
          have a1 : wrap64 (k : Int) = (k : Int) := by unfold wrap64; omega
          clear hF0 hG0 ha0e hR hF2 hX hc h1 h2 h0
          go_enter Tryd.func63, Tryd.ntmps63
          go_wp2_with fail
          go_ret2
          exact ⟨rfl, show Ending.returned (.tuple #[.float .f64 F2, .bool true]) = _ from by rw [HF.out]⟩
        · have hR : exR X m x = none := by
            unfold exR
            rw [if_pos hm, if_neg h0, if_neg h1, if_neg h2]
          rw [hR]
          clear hF0 hG0 ha0e hR hX hc
          have hsp : 37 < x ∨ x < -22 := by omega
          rcases hsp with hsp | hsp
          · have hpp : 0 < x := by omega
            clear h1 h2
            go_enter Tryd.func63, Tryd.ntmps63
            go_wp2_with fail
            go_ret2
            exact ⟨rfl, _, rfl⟩
          · have hpp : x < 0 := by omega
            clear h1 h2
            go_enter Tryd.func63, Tryd.ntmps63
            go_wp2_with fail
            go_ret2
            exact ⟨rfl, _, rfl⟩
  · have hR : exR X m x = none := by unfold exR; rw [if_neg hm]
    have q1 : (m / 4503599627370496 != 0) = true := bne_iff_ne.mpr hm
    rw [hR]
    clear hF0 hG0 ha0e hR hX hc
    go_enter Tryd.func63, Tryd.ntmps63
    go_wp2_with fail
    go_ret2
    exact ⟨rfl, _, rfl⟩

set_option maxHeartbeats 4000000 in
set_option maxRecDepth 100000 in
theorem exact_neg (B : Nat) (X : Nat → Nat) (m x : Int) (hm0 : 0 ≤ m) (hm1 : m < 18446744073709551616) (hx0 : -1000000 ≤ x) (hx1 : x ≤ 1000000) (w : World) (hF : FI B 4 w) (ht : XT B X w) (hX : ∀ k, k < 23 → Pos (X k)) : Calls Tryd.prog 63 #[.int .u64 m, .int .i64 x, .bool true] w (ExP true (exR X m x) w) := by
  obtain ⟨_, hf0, hf1, hf2⟩ := hF
  obtain ⟨L, o, c, hb1, hb2, hs, hc⟩ := ht
  obtain ⟨a0, ha0e⟩ : ∃ a0, a0 = rg m.toNat 0 := ⟨_, rfl⟩
  have ha0 : a0 ≤ D.infRung := by rw [ha0e]; exact rg_le _ _
  obtain ⟨G0, hG0⟩ : ∃ G0, G0 = D.word false a0 := ⟨_, rfl⟩
  obtain ⟨F0, hF0⟩ : ∃ F0, F0 = D.word true a0 := ⟨_, rfl⟩
  have hcv : floatOfInt .f64 m = G0 := by rw [hG0, ha0e]; exact ofInt_eq m hm0
  have hng : Op.unary .neg (.float .f64 G0) = pure (.float .f64 F0) := by show pure (Value.float .f64 (Op.negFloat .f64 G0)) = _; rw [hG0, neg_eq false a0 ha0, hF0]; rfl
  skip
  have HX := Aside0.mk hX
  have HR := Aside0.mk (show exR X m x = _ from rfl)
  by_cases hm : m / 4503599627370496 = 0
  · have q1 : (m / 4503599627370496 != 0) = false := by rw [hm]; rfl
    have HM := Aside0.mk hm
    by_cases h0 : x = 0
    · have hR : exR X m x = some a0 := by unfold exR; rw [if_pos hm, if_pos h0, ha0e]
      rw [hR]
      have HF := Aside0.mk hF0
      clear hF0 hG0 ha0e hR
      subst h0
      go_enter Tryd.func63, Tryd.ntmps63
      go_wp2_with fail
      go_ret2
      exact ⟨rfl, show Ending.returned (.tuple #[.float .f64 F0, .bool true]) = _ from by rw [HF.out]⟩
    · have q0 : (x == 0) = false := beq_eq_false_iff_ne.mpr h0
      by_cases h1 : 0 < x ∧ x ≤ 37
      · obtain ⟨k, rfl⟩ : ∃ k : Nat, x = (k : Int) := ⟨x.toNat, by omega⟩
        by_cases h3 : 22 < k
        · have c1 := hc (k - 22) (by omega)
          have c2 := hc 22 (by omega)
          obtain ⟨a1, ha1e⟩ : ∃ a1, a1 = pdt (rd false a0) (D.read (X (k - 22))) := ⟨_, rfl⟩
          have ha1 : a1 ≤ D.infRung := by rw [ha1e]; exact pdt_le _ _
          obtain ⟨F1, hF1⟩ : ∃ F1, F1 = D.word true a1 := ⟨_, rfl⟩
          obtain ⟨F2, hF2⟩ : ∃ F2, F2 = D.word true (pdt (rd false a1) (D.read (X 22))) := ⟨_, rfl⟩
          have r1 := fun t W => mul_run (t := t) (W := W) ha0 (hX (k - 22) (by omega)) hF0 (show F1 = _ by rw [hF1, ha1e])
          have r2 := fun t W => mul_run (t := t) (W := W) ha1 (hX 22 (by omega)) hF1 hF2
          have o1 := ord_hi ha1 hF1
          have o2 := ord_lo ha1 hF1
          have hR : exR X m (k : Int) = if big a1 then none else some (pdt (rd false a1) (D.read (X 22))) := by
            unfold exR
            rw [if_pos hm, if_neg h0, if_pos h1, if_pos (by omega), ha1e, ha0e, show ((k : Int) - 22).toNat = k - 22 from by omega]
          rw [hR]
          have HF := Aside0.mk hF2
          have HK := Aside0.mk h1
          obtain ⟨h1a, h1b⟩ := h1
          have a22 : wrap64 ((k : Int) - 22) = ((k - 22 : Nat) : Int) := by unfold wrap64; omega
          have g22 : k - 22 < 23 := by omega
          clear hF0 hG0 ha0e hR ha1e hF1 hF2 hX hc
          cases hbg : big a1 with
          | true =>
            rw [hbg] at o1 o2
            simp only [Bool.not_true, Bool.not_false, Bool.true_and, Bool.false_and] at o1 o2
            go_enter Tryd.func63, Tryd.ntmps63
            go_wp2_with fail
            go_ret2
            exact ⟨rfl, _, rfl⟩
          | false =>
            rw [hbg] at o1 o2
            simp only [Bool.and_false] at o1 o2
            go_enter Tryd.func63, Tryd.ntmps63
            go_wp2_with fail
            go_ret2
            exact ⟨rfl, show Ending.returned (.tuple #[.float .f64 F2, .bool true]) = _ from by rw [HF.out]⟩
        · have c1 := hc k (by omega)
          obtain ⟨F2, hF2⟩ : ∃ F2, F2 = D.word true (pdt (rd false a0) (D.read (X k))) := ⟨_, rfl⟩
          have r1 := fun t W => mul_run (t := t) (W := W) ha0 (hX k (by omega)) hF0 hF2
          have o1 := ord_hi ha0 hF0
          have o2 := ord_lo ha0 hF0
          have hR : exR X m (k : Int) = if big a0 then none else some (pdt (rd false a0) (D.read (X k))) := by
            unfold exR
            rw [if_pos hm, if_neg h0, if_pos h1, if_neg (by omega), ha0e, Int.toNat_natCast]
          rw [hR]
          have HF := Aside0.mk hF2
          obtain ⟨h1a, h1b⟩ := h1
          have g22 : k < 23 := by omega
          clear hF0 hG0 ha0e hR hF2 hX hc
          cases hbg : big a0 with
          | true =>
            rw [hbg] at o1 o2
            simp only [Bool.not_true, Bool.not_false, Bool.true_and, Bool.false_and] at o1 o2
            go_enter Tryd.func63, Tryd.ntmps63
            go_wp2_with fail
            go_ret2
            exact ⟨rfl, _, rfl⟩
          | false =>
            rw [hbg] at o1 o2
            simp only [Bool.and_false] at o1 o2
            go_enter Tryd.func63, Tryd.ntmps63
            go_wp2_with fail
            go_ret2
            exact ⟨rfl, show Ending.returned (.tuple #[.float .f64 F2, .bool true]) = _ from by rw [HF.out]⟩
      · by_cases h2 : x < 0 ∧ -22 ≤ x
        · obtain ⟨k, hk⟩ : ∃ k : Nat, x = -(k : Int) := ⟨(-x).toNat, by omega⟩
          subst hk
          have c1 := hc k (by omega)
          obtain ⟨F2, hF2⟩ : ∃ F2, F2 = D.word true (qt (rd false a0) (D.read (X k))) := ⟨_, rfl⟩
          have r1 := fun t W => div_run (t := t) (W := W) ha0 (hX k (by omega)) hF0 hF2
          have hR : exR X m (-(k : Int)) = some (qt (rd false a0) (D.read (X k))) := by
            unfold exR
            rw [if_pos hm, if_neg h0, if_neg h1, if_pos h2, ha0e, Int.neg_neg, Int.toNat_natCast]
          rw [hR]
          have HF := Aside0.mk hF2
          have g22 : k < 23 := by omega
          have g0 : 0 < k := by omega
          have a1 : wrap64 (k : Int) = (k : Int) := by unfold wrap64; omega
          clear hF0 hG0 ha0e hR hF2 hX hc h1 h2 h0
          go_enter Tryd.func63, Tryd.ntmps63
          go_wp2_with fail
          go_ret2
          exact ⟨rfl, show Ending.returned (.tuple #[.float .f64 F2, .bool true]) = _ from by rw [HF.out]⟩
        · have hR : exR X m x = none := by
            unfold exR
            rw [if_pos hm, if_neg h0, if_neg h1, if_neg h2]
          rw [hR]
          clear hF0 hG0 ha0e hR hX hc
          have hsp : 37 < x ∨ x < -22 := by omega
          rcases hsp with hsp | hsp
          · have hpp : 0 < x := by omega
            clear h1 h2
            go_enter Tryd.func63, Tryd.ntmps63
            go_wp2_with fail
            go_ret2
            exact ⟨rfl, _, rfl⟩
          · have hpp : x < 0 := by omega
            clear h1 h2
            go_enter Tryd.func63, Tryd.ntmps63
            go_wp2_with fail
            go_ret2
            exact ⟨rfl, _, rfl⟩
  · have hR : exR X m x = none := by unfold exR; rw [if_neg hm]
    have q1 : (m / 4503599627370496 != 0) = true := bne_iff_ne.mpr hm
    rw [hR]
    clear hF0 hG0 ha0e hR hX hc
    go_enter Tryd.func63, Tryd.ntmps63
    go_wp2_with fail
    go_ret2
    exact ⟨rfl, _, rfl⟩

theorem exact_walk (B : Nat) (X : Nat → Nat) (m x : Int) (ng : Bool) (hm0 : 0 ≤ m) (hm1 : m < 18446744073709551616) (hx0 : -1000000 ≤ x) (hx1 : x ≤ 1000000) (w : World) (hF : FI B 4 w) (ht : XT B X w) (hX : ∀ k, k < 23 → Pos (X k)) : Calls Tryd.prog 63 #[.int .u64 m, .int .i64 x, .bool ng] w (ExP ng (exR X m x) w) := by
  cases ng
  · exact exact_pos B X m x hm0 hm1 hx0 hx1 w hF ht hX
  · exact exact_neg B X m x hm0 hm1 hx0 hx1 w hF ht hX
end Go.Proofs.YtlkbhmmelejmjaaDoor.FltExact

/- The special floats (inf, infinity, nan), walked. -/
namespace Go.Proofs.YtlkbhmmelejmjaaDoor.FltSpecial
open Go.RowKit Go.Proofs.YtlkbhmmelejmjaaDoorW.PrintWords Go.Proofs.YtlkbhmmelejmjaaDoor.FltKnown Go.Proofs.YtlkbhmmelejmjaaDoor.FltDec Go.Proofs.YtlkbhmmelejmjaaDoor.FltLeft Go.Proofs.YtlkbhmmelejmjaaDoor.FltFast Go.Proofs.YtlkbhmmelejmjaaDoor.FltTextP
set_option linter.unusedVariables false
set_option linter.unusedSimpArgs false

def lc (c : UInt8) : Int := if 65 ≤ c.toNat ∧ c.toNat ≤ 90 then (c.toNat : Int) + 32 else c.toNat
/-- How many bytes two texts have in common at their beginning, small letters in the second. -/
def cpF : List UInt8 → List UInt8 → Nat
  | c :: r, p :: q => if lc c = (p.toNat : Int) then cpF r q + 1 else 0
  | _, _ => 0
theorem cpF_nil (q : List UInt8) : cpF [] q = 0 := by cases q <;> rfl
theorem cpF_nil2 (r : List UInt8) : cpF r [] = 0 := by cases r <;> rfl
theorem cpF_cons (c p : UInt8) (r q : List UInt8) : cpF (c :: r) (p :: q) = if lc c = (p.toNat : Int) then cpF r q + 1 else 0 := rfl
def SaP (v : Value) (w : World) (e : Ending) (w' : World) : Prop := e = .returned v ∧ w' = w

set_option maxHeartbeats 4000000 in
set_option maxRecDepth 100000 in
theorem cp_walk (s t : ByteArray) (hs : s.size ≤ 2200000000) (ht : t.size ≤ 2200000000) (w : World) : Calls Tryd.prog 66 #[.string s, .string t] w (SaP (.int .i64 (cpF s.data.toList t.data.toList : Nat)) w) := by
  have hL : s.data.toList.length = s.size := (Lib.size_eq s).symm
  have hT : t.data.toList.length = t.size := (Lib.size_eq t).symm
  go_enter Tryd.func66, Tryd.ntmps66
  go_upto_region 2 with (fail)
  obtain ⟨n, hn⟩ : ∃ n : Nat, (n : Int) = (if s.size < t.size then (s.size : Int) else (t.size : Int)) := by
    by_cases h : s.size < t.size
    · exact ⟨s.size, by rw [if_pos h]⟩
    · exact ⟨t.size, by rw [if_neg h]⟩
  have hn1 : n ≤ s.size ∧ n ≤ t.size ∧ (n = s.size ∨ n = t.size) := by
    split at hn <;> omega
  rw [← hn]
  obtain ⟨hn1, hn2, hn3⟩ := hn1
  replace hn3 := Aside0.mk hn3
  clear hn
  go_wp2_with fail
  go_loopg [6] n (fun kq v6 wx => ∃ i : Nat, v6 = .int .i64 i ∧ i + kq = n ∧ Aside0 (i + cpF (s.data.toList.drop i) (t.data.toList.drop i) = cpF s.data.toList t.data.toList) ∧ w = wx)
  case atStart => exact ⟨0, rfl, by omega, ⟨by simp⟩, rfl⟩
  case round =>
    obtain ⟨i, rfl, hik, HC, rfl⟩ := hrel
    cases gk with
    | zero =>
      obtain rfl : i = n := by omega
      go_wp2_with fail
      go_ret
      have e : cpF (s.data.toList.drop i) (t.data.toList.drop i) = 0 := by
        rcases hn3.out with h | h
        · have h9 : s.data.toList.drop i = [] := List.drop_eq_nil_of_le (by omega)
          rw [h9, cpF_nil]
        · have h9 : t.data.toList.drop i = [] := List.drop_eq_nil_of_le (by omega)
          rw [h9, cpF_nil2]
      have := HC.out
      rw [e] at this
      exact ⟨by rw [← this]; rfl, rfl⟩
    | succ k1 =>
      have hi1 : i < s.size := by omega
      have hi2 : i < t.size := by omega
      obtain ⟨c, hcs⟩ : ∃ c, s[i] = c := ⟨_, rfl⟩
      obtain ⟨p, hps⟩ : ∃ p, t[i] = p := ⟨_, rfl⟩
      have hd1 : s.data.toList.drop i = c :: s.data.toList.drop (i + 1) := by rw [← hcs]; exact drop_cons (l := s.data.toList) (i := i) (by omega)
      have hd2 : t.data.toList.drop i = p :: t.data.toList.drop (i + 1) := by rw [← hps]; exact drop_cons (l := t.data.toList) (i := i) (by omega)
      have hc := HC.out
      rw [hd1, hd2, cpF_cons] at hc
      replace hc := Aside0.mk hc
      have hc256 : c.toNat < 256 := c.toNat_lt
      clear hd1 hd2
      by_cases hup : 65 ≤ c.toNat ∧ c.toNat ≤ 90
      · have hlc : lc c = (c.toNat : Int) + 32 := if_pos hup
        obtain ⟨u1, u2⟩ := hup
        by_cases he : (c.toNat : Int) + 32 = (p.toNat : Int)
        · have q : ((c.toNat : Int) + 32 != (p.toNat : Int)) = false := by rw [he]; simp
          have HE := Aside0.mk (And.intro hlc he)
          clear hlc he
          go_wp2_with fail
          go_roundg k1
          case rel =>
            have h := hc.out
            rw [if_pos (HE.out.1.trans HE.out.2)] at h
            exact ⟨i + 1, by go_num, by omega, ⟨by omega⟩, rfl⟩
          case measure => exact Nat.lt_succ_self _
        · have q : ((c.toNat : Int) + 32 != (p.toNat : Int)) = true := bne_iff_ne.mpr he
          have HE := Aside0.mk (And.intro hlc he)
          clear hlc he
          go_wp2_with fail
          go_ret
          have h := hc.out
          rw [if_neg (by rw [HE.out.1]; exact HE.out.2)] at h
          exact ⟨by rw [← h]; rfl, rfl⟩
      · have hlc : lc c = (c.toNat : Int) := if_neg hup
        have hsp : c.toNat < 65 ∨ 90 < c.toNat := by omega
        clear hup
        by_cases he : (c.toNat : Int) = (p.toNat : Int)
        · have q : ((c.toNat : Int) != (p.toNat : Int)) = false := by rw [he]; simp
          have HE := Aside0.mk (And.intro hlc he)
          clear hlc he
          rcases hsp with hsp | hsp
          · go_wp2_with fail
            go_roundg k1
            case rel =>
              have h := hc.out
              rw [if_pos (HE.out.1.trans HE.out.2)] at h
              exact ⟨i + 1, by go_num, by omega, ⟨by omega⟩, rfl⟩
            case measure => exact Nat.lt_succ_self _
          · go_wp2_with fail
            go_roundg k1
            case rel =>
              have h := hc.out
              rw [if_pos (HE.out.1.trans HE.out.2)] at h
              exact ⟨i + 1, by go_num, by omega, ⟨by omega⟩, rfl⟩
            case measure => exact Nat.lt_succ_self _
        · have q : ((c.toNat : Int) != (p.toNat : Int)) = true := bne_iff_ne.mpr he
          have HE := Aside0.mk (And.intro hlc he)
          clear hlc he
          rcases hsp with hsp | hsp
          · go_wp2_with fail
            go_ret
            have h := hc.out
            rw [if_neg (by rw [HE.out.1]; exact HE.out.2)] at h
            exact ⟨by rw [← h]; rfl, rfl⟩
          · go_wp2_with fail
            go_ret
            have h := hc.out
            rw [if_neg (by rw [HE.out.1]; exact HE.out.2)] at h
            exact ⟨by rw [← h]; rfl, rfl⟩

def infT : ByteArray := ⟨#[105, 110, 102, 105, 110, 105, 116, 121]⟩
def nanT : ByteArray := ⟨#[110, 97, 110]⟩
set_option maxRecDepth 100000 in
theorem inf_pos (w : World) : Calls Tryd.prog 67 #[.int .i64 1] w (SaP (.float .f64 9218868437227405312) w) := by
  have hfb := fb_run
  go_enter Tryd.func67, Tryd.ntmps67
  go_wp2_with fail
  go_ret
  exact ⟨rfl, rfl⟩
set_option maxRecDepth 100000 in
theorem inf_neg (w : World) : Calls Tryd.prog 67 #[.int .i64 (-1)] w (SaP (.float .f64 18442240474082181120) w) := by
  have hfb := fb_run
  go_enter Tryd.func67, Tryd.ntmps67
  go_wp2_with fail
  go_ret
  exact ⟨rfl, rfl⟩
set_option maxRecDepth 100000 in
theorem nan_walk (w : World) : Calls Tryd.prog 68 #[] w (SaP (.float .f64 9221120237041090561) w) := by
  have hfb := fb_run
  go_enter Tryd.func68, Tryd.ntmps68
  go_wp2_with fail
  go_ret
  exact ⟨rfl, rfl⟩
def cut8 (k : Nat) : Nat := if 3 < k ∧ k < 8 then 3 else k
def infF (v ns : Nat) (L : List UInt8) : Option (Nat × Nat) := if cut8 (cpF L infT.data.toList) = 3 ∨ cut8 (cpF L infT.data.toList) = 8 then some (v, ns + cut8 (cpF L infT.data.toList)) else none
def spF : List UInt8 → Option (Nat × Nat)
  | [] => none
  | c :: r => if c.toNat = 43 then infF 9218868437227405312 1 r else if c.toNat = 45 then infF 18442240474082181120 1 r
    else if c.toNat = 105 ∨ c.toNat = 73 then infF 9218868437227405312 0 (c :: r)
    else if c.toNat = 110 ∨ c.toNat = 78 then (if cpF (c :: r) nanT.data.toList = 3 then some (9221120237041090561, 3) else none) else none
theorem spF_cons (c : UInt8) (r : List UInt8) : spF (c :: r) = if c.toNat = 43 then infF 9218868437227405312 1 r else if c.toNat = 45 then infF 18442240474082181120 1 r
    else if c.toNat = 105 ∨ c.toNat = 73 then infF 9218868437227405312 0 (c :: r)
    else if c.toNat = 110 ∨ c.toNat = 78 then (if cpF (c :: r) nanT.data.toList = 3 then some (9221120237041090561, 3) else none) else none := rfl
def SpP (o : Option (Nat × Nat)) (w : World) (e : Ending) (w' : World) : Prop := w' = w ∧ match o with
  | some q => e = .returned (.tuple #[.float .f64 q.1, .int .i64 (q.2 : Nat), .bool true])
  | none => ∃ v n, e = .returned (.tuple #[.float .f64 v, .int .i64 n, .bool false])
theorem ext1 (s : ByteArray) : (s.extract 1 s.size).data.toList = s.data.toList.drop 1 := by
  rw [ByteArray.data_extract, Array.toList_extract]
  show (s.data.toList.drop 1).take (s.size - 1) = _
  exact List.take_of_length_le (by rw [List.length_drop, ← Lib.size_eq]; exact Nat.le_refl _)

set_option maxHeartbeats 4000000 in
set_option maxRecDepth 100000 in
theorem special_walk (s : ByteArray) (hs : s.size ≤ 2200000000) (w : World) : Calls Tryd.prog 52 #[.string s] w (SpP (spF s.data.toList) w) := by
  have hL : s.data.toList.length = s.size := (Lib.size_eq s).symm
  by_cases h0 : s.size = 0
  · have hemp : s = ByteArray.empty := by
      have : s.data.toList = [] := List.eq_nil_of_length_eq_zero (by omega)
      cases s with | mk d => cases d with | mk l => simp at this; subst this; rfl
    have e : spF s.data.toList = none := by rw [hemp]; rfl
    rw [e]
    go_enter Tryd.func52, Tryd.ntmps52
    go_wp2_with fail
    go_ret3
    exact ⟨rfl, _, _, rfl⟩
  · have hemp : ¬ s = ByteArray.empty := fun h => h0 (by rw [h]; rfl)
    have h1 : 0 < s.size := by omega
    obtain ⟨c0, r0, hL0⟩ : ∃ c0 r0, s.data.toList = c0 :: r0 := by
      cases h : s.data.toList with
      | nil => rw [h] at hL; exact absurd hL (by simp; omega)
      | cons a b => exact ⟨a, b, rfl⟩
    have hc0 : s[0] = c0 := by
      have : s.data.toList[0]'(by omega) = c0 := by simp only [hL0]; rfl
      exact this
    have hr0 : (s.extract 1 s.size).data.toList = r0 := by rw [ext1, hL0]; rfl
    have hsz1 : (s.extract 1 s.size).size ≤ 2200000000 := by rw [Lib.size_eq, hr0]; rw [hL0] at hL; simp at hL; omega
    have C1 := cp_walk (s.extract 1 s.size) infT hsz1 (by decide)
    have C0 := cp_walk s infT hs (by decide)
    have CN := cp_walk s nanT hs (by decide)
    rw [hr0] at C1
    rw [hL0] at C0 CN
    by_cases h43 : c0.toNat = 43
    · obtain ⟨k, hk⟩ : ∃ k, k = cpF r0 infT.data.toList := ⟨_, rfl⟩
      have e : spF s.data.toList = if cut8 k = 3 ∨ cut8 k = 8 then some (9218868437227405312, 1 + cut8 k) else none := by
        rw [hL0, hk, spF_cons, if_pos h43]; rfl
      rw [e]
      rw [← hk] at C1
      have HC := Aside0.mk C1
      clear C1 C0 CN e hk
      have hk9 : (3 < k ∧ k < 8) ∨ k = 3 ∨ k = 8 ∨ k < 3 ∨ 8 < k := by omega
      rcases hk9 with ⟨g1, g2⟩ | rfl | rfl | g1 | g1
      · have e8 : cut8 k = 3 := if_pos ⟨g1, g2⟩
        rw [e8]
        go_enter Tryd.func52, Tryd.ntmps52
        go_wp2_with (first | (go_at_call 66; refine (HC.out _).mono ?_; rintro e w' ⟨rfl, rfl⟩) | (go_at_call 67; refine (inf_pos _).mono ?_; rintro e w' ⟨rfl, rfl⟩))
        go_ret3
        exact ⟨rfl, rfl⟩
      · rw [show cut8 3 = 3 from rfl]
        go_enter Tryd.func52, Tryd.ntmps52
        go_wp2_with (first | (go_at_call 66; refine (HC.out _).mono ?_; rintro e w' ⟨rfl, rfl⟩) | (go_at_call 67; refine (inf_pos _).mono ?_; rintro e w' ⟨rfl, rfl⟩))
        go_ret3
        exact ⟨rfl, rfl⟩
      · rw [show cut8 8 = 8 from rfl]
        go_enter Tryd.func52, Tryd.ntmps52
        go_wp2_with (first | (go_at_call 66; refine (HC.out _).mono ?_; rintro e w' ⟨rfl, rfl⟩) | (go_at_call 67; refine (inf_pos _).mono ?_; rintro e w' ⟨rfl, rfl⟩))
        go_ret3
        exact ⟨rfl, rfl⟩
      · have e8 : (if cut8 k = 3 ∨ cut8 k = 8 then some (9218868437227405312, 1 + cut8 k) else none) = none := by
          have : cut8 k = k := if_neg (by omega)
          rw [this]; exact if_neg (by omega)
        rw [e8]
        have q3 : ((k : Int) == 3) = false := beq_eq_false_iff_ne.mpr (by omega)
        have q8 : ((k : Int) == 8) = false := beq_eq_false_iff_ne.mpr (by omega)
        go_enter Tryd.func52, Tryd.ntmps52
        go_wp2_with (first | (go_at_call 66; refine (HC.out _).mono ?_; rintro e w' ⟨rfl, rfl⟩) | (go_at_call 67; refine (inf_pos _).mono ?_; rintro e w' ⟨rfl, rfl⟩))
        go_ret3
        exact ⟨rfl, _, _, rfl⟩
      · have e8 : (if cut8 k = 3 ∨ cut8 k = 8 then some (9218868437227405312, 1 + cut8 k) else none) = none := by
          have : cut8 k = k := if_neg (by omega)
          rw [this]; exact if_neg (by omega)
        rw [e8]
        have q3 : ((k : Int) == 3) = false := beq_eq_false_iff_ne.mpr (by omega)
        have q8 : ((k : Int) == 8) = false := beq_eq_false_iff_ne.mpr (by omega)
        go_enter Tryd.func52, Tryd.ntmps52
        go_wp2_with (first | (go_at_call 66; refine (HC.out _).mono ?_; rintro e w' ⟨rfl, rfl⟩) | (go_at_call 67; refine (inf_pos _).mono ?_; rintro e w' ⟨rfl, rfl⟩))
        go_ret3
        exact ⟨rfl, _, _, rfl⟩
    · have q43 : ((c0.toNat : Int) == 43) = false := beq_eq_false_iff_ne.mpr (by omega)
      by_cases h45 : c0.toNat = 45
      · obtain ⟨k, hk⟩ : ∃ k, k = cpF r0 infT.data.toList := ⟨_, rfl⟩
        have e : spF s.data.toList = if cut8 k = 3 ∨ cut8 k = 8 then some (18442240474082181120, 1 + cut8 k) else none := by
          rw [hL0, hk, spF_cons, if_neg h43, if_pos h45]; rfl
        rw [e]
        rw [← hk] at C1
        have HC := Aside0.mk C1
        clear C1 C0 CN e hk
        have hk9 : (3 < k ∧ k < 8) ∨ k = 3 ∨ k = 8 ∨ k < 3 ∨ 8 < k := by omega
        rcases hk9 with ⟨g1, g2⟩ | rfl | rfl | g1 | g1
        · have e8 : cut8 k = 3 := if_pos ⟨g1, g2⟩
          rw [e8]
          go_enter Tryd.func52, Tryd.ntmps52
          go_wp2_with (first | (go_at_call 66; refine (HC.out _).mono ?_; rintro e w' ⟨rfl, rfl⟩) | (go_at_call 67; refine (inf_neg _).mono ?_; rintro e w' ⟨rfl, rfl⟩))
          go_ret3
          exact ⟨rfl, rfl⟩
        · rw [show cut8 3 = 3 from rfl]
          go_enter Tryd.func52, Tryd.ntmps52
          go_wp2_with (first | (go_at_call 66; refine (HC.out _).mono ?_; rintro e w' ⟨rfl, rfl⟩) | (go_at_call 67; refine (inf_neg _).mono ?_; rintro e w' ⟨rfl, rfl⟩))
          go_ret3
          exact ⟨rfl, rfl⟩
        · rw [show cut8 8 = 8 from rfl]
          go_enter Tryd.func52, Tryd.ntmps52
          go_wp2_with (first | (go_at_call 66; refine (HC.out _).mono ?_; rintro e w' ⟨rfl, rfl⟩) | (go_at_call 67; refine (inf_neg _).mono ?_; rintro e w' ⟨rfl, rfl⟩))
          go_ret3
          exact ⟨rfl, rfl⟩
        · have e8 : (if cut8 k = 3 ∨ cut8 k = 8 then some (18442240474082181120, 1 + cut8 k) else none) = none := by
            have : cut8 k = k := if_neg (by omega)
            rw [this]; exact if_neg (by omega)
          rw [e8]
          have q3 : ((k : Int) == 3) = false := beq_eq_false_iff_ne.mpr (by omega)
          have q8 : ((k : Int) == 8) = false := beq_eq_false_iff_ne.mpr (by omega)
          go_enter Tryd.func52, Tryd.ntmps52
          go_wp2_with (first | (go_at_call 66; refine (HC.out _).mono ?_; rintro e w' ⟨rfl, rfl⟩) | (go_at_call 67; refine (inf_neg _).mono ?_; rintro e w' ⟨rfl, rfl⟩))
          go_ret3
          exact ⟨rfl, _, _, rfl⟩
        · have e8 : (if cut8 k = 3 ∨ cut8 k = 8 then some (18442240474082181120, 1 + cut8 k) else none) = none := by
            have : cut8 k = k := if_neg (by omega)
            rw [this]; exact if_neg (by omega)
          rw [e8]
          have q3 : ((k : Int) == 3) = false := beq_eq_false_iff_ne.mpr (by omega)
          have q8 : ((k : Int) == 8) = false := beq_eq_false_iff_ne.mpr (by omega)
          go_enter Tryd.func52, Tryd.ntmps52
          go_wp2_with (first | (go_at_call 66; refine (HC.out _).mono ?_; rintro e w' ⟨rfl, rfl⟩) | (go_at_call 67; refine (inf_neg _).mono ?_; rintro e w' ⟨rfl, rfl⟩))
          go_ret3
          exact ⟨rfl, _, _, rfl⟩
      · have q45 : ((c0.toNat : Int) == 45) = false := beq_eq_false_iff_ne.mpr (by omega)
        by_cases h105 : c0.toNat = 105
        · obtain ⟨k, hk⟩ : ∃ k, k = cpF (c0 :: r0) infT.data.toList := ⟨_, rfl⟩
          have e : spF s.data.toList = if cut8 k = 3 ∨ cut8 k = 8 then some (9218868437227405312, 0 + cut8 k) else none := by
            rw [hL0, hk, spF_cons, if_neg h43, if_neg h45, if_pos (.inl h105)]; rfl
          rw [e]
          rw [← hk] at C0
          have HC := Aside0.mk C0
          clear C1 C0 CN e hk
          have hk9 : (3 < k ∧ k < 8) ∨ k = 3 ∨ k = 8 ∨ k < 3 ∨ 8 < k := by omega
          rcases hk9 with ⟨g1, g2⟩ | rfl | rfl | g1 | g1
          · have e8 : cut8 k = 3 := if_pos ⟨g1, g2⟩
            rw [e8]
            go_enter Tryd.func52, Tryd.ntmps52
            go_wp2_with (first | (go_at_call 66; refine (HC.out _).mono ?_; rintro e w' ⟨rfl, rfl⟩) | (go_at_call 67; refine (inf_pos _).mono ?_; rintro e w' ⟨rfl, rfl⟩))
            go_ret3
            exact ⟨rfl, rfl⟩
          · rw [show cut8 3 = 3 from rfl]
            go_enter Tryd.func52, Tryd.ntmps52
            go_wp2_with (first | (go_at_call 66; refine (HC.out _).mono ?_; rintro e w' ⟨rfl, rfl⟩) | (go_at_call 67; refine (inf_pos _).mono ?_; rintro e w' ⟨rfl, rfl⟩))
            go_ret3
            exact ⟨rfl, rfl⟩
          · rw [show cut8 8 = 8 from rfl]
            go_enter Tryd.func52, Tryd.ntmps52
            go_wp2_with (first | (go_at_call 66; refine (HC.out _).mono ?_; rintro e w' ⟨rfl, rfl⟩) | (go_at_call 67; refine (inf_pos _).mono ?_; rintro e w' ⟨rfl, rfl⟩))
            go_ret3
            exact ⟨rfl, rfl⟩
          · have e8 : (if cut8 k = 3 ∨ cut8 k = 8 then some (9218868437227405312, 0 + cut8 k) else none) = none := by
              have : cut8 k = k := if_neg (by omega)
              rw [this]; exact if_neg (by omega)
            rw [e8]
            have q3 : ((k : Int) == 3) = false := beq_eq_false_iff_ne.mpr (by omega)
            have q8 : ((k : Int) == 8) = false := beq_eq_false_iff_ne.mpr (by omega)
            go_enter Tryd.func52, Tryd.ntmps52
            go_wp2_with (first | (go_at_call 66; refine (HC.out _).mono ?_; rintro e w' ⟨rfl, rfl⟩) | (go_at_call 67; refine (inf_pos _).mono ?_; rintro e w' ⟨rfl, rfl⟩))
            go_ret3
            exact ⟨rfl, _, _, rfl⟩
          · have e8 : (if cut8 k = 3 ∨ cut8 k = 8 then some (9218868437227405312, 0 + cut8 k) else none) = none := by
              have : cut8 k = k := if_neg (by omega)
              rw [this]; exact if_neg (by omega)
            rw [e8]
            have q3 : ((k : Int) == 3) = false := beq_eq_false_iff_ne.mpr (by omega)
            have q8 : ((k : Int) == 8) = false := beq_eq_false_iff_ne.mpr (by omega)
            go_enter Tryd.func52, Tryd.ntmps52
            go_wp2_with (first | (go_at_call 66; refine (HC.out _).mono ?_; rintro e w' ⟨rfl, rfl⟩) | (go_at_call 67; refine (inf_pos _).mono ?_; rintro e w' ⟨rfl, rfl⟩))
            go_ret3
            exact ⟨rfl, _, _, rfl⟩
        · have q105 : ((c0.toNat : Int) == 105) = false := beq_eq_false_iff_ne.mpr (by omega)
          by_cases h73 : c0.toNat = 73
          · obtain ⟨k, hk⟩ : ∃ k, k = cpF (c0 :: r0) infT.data.toList := ⟨_, rfl⟩
            have e : spF s.data.toList = if cut8 k = 3 ∨ cut8 k = 8 then some (9218868437227405312, 0 + cut8 k) else none := by
              rw [hL0, hk, spF_cons, if_neg h43, if_neg h45, if_pos (.inr h73)]; rfl
            rw [e]
            rw [← hk] at C0
            have HC := Aside0.mk C0
            clear C1 C0 CN e hk
            have hk9 : (3 < k ∧ k < 8) ∨ k = 3 ∨ k = 8 ∨ k < 3 ∨ 8 < k := by omega
            rcases hk9 with ⟨g1, g2⟩ | rfl | rfl | g1 | g1
            · have e8 : cut8 k = 3 := if_pos ⟨g1, g2⟩
              rw [e8]
              go_enter Tryd.func52, Tryd.ntmps52
              go_wp2_with (first | (go_at_call 66; refine (HC.out _).mono ?_; rintro e w' ⟨rfl, rfl⟩) | (go_at_call 67; refine (inf_pos _).mono ?_; rintro e w' ⟨rfl, rfl⟩))
              go_ret3
              exact ⟨rfl, rfl⟩
            · rw [show cut8 3 = 3 from rfl]
              go_enter Tryd.func52, Tryd.ntmps52
              go_wp2_with (first | (go_at_call 66; refine (HC.out _).mono ?_; rintro e w' ⟨rfl, rfl⟩) | (go_at_call 67; refine (inf_pos _).mono ?_; rintro e w' ⟨rfl, rfl⟩))
              go_ret3
              exact ⟨rfl, rfl⟩
            · rw [show cut8 8 = 8 from rfl]
              go_enter Tryd.func52, Tryd.ntmps52
              go_wp2_with (first | (go_at_call 66; refine (HC.out _).mono ?_; rintro e w' ⟨rfl, rfl⟩) | (go_at_call 67; refine (inf_pos _).mono ?_; rintro e w' ⟨rfl, rfl⟩))
              go_ret3
              exact ⟨rfl, rfl⟩
            · have e8 : (if cut8 k = 3 ∨ cut8 k = 8 then some (9218868437227405312, 0 + cut8 k) else none) = none := by
                have : cut8 k = k := if_neg (by omega)
                rw [this]; exact if_neg (by omega)
              rw [e8]
              have q3 : ((k : Int) == 3) = false := beq_eq_false_iff_ne.mpr (by omega)
              have q8 : ((k : Int) == 8) = false := beq_eq_false_iff_ne.mpr (by omega)
              go_enter Tryd.func52, Tryd.ntmps52
              go_wp2_with (first | (go_at_call 66; refine (HC.out _).mono ?_; rintro e w' ⟨rfl, rfl⟩) | (go_at_call 67; refine (inf_pos _).mono ?_; rintro e w' ⟨rfl, rfl⟩))
              go_ret3
              exact ⟨rfl, _, _, rfl⟩
            · have e8 : (if cut8 k = 3 ∨ cut8 k = 8 then some (9218868437227405312, 0 + cut8 k) else none) = none := by
                have : cut8 k = k := if_neg (by omega)
                rw [this]; exact if_neg (by omega)
              rw [e8]
              have q3 : ((k : Int) == 3) = false := beq_eq_false_iff_ne.mpr (by omega)
              have q8 : ((k : Int) == 8) = false := beq_eq_false_iff_ne.mpr (by omega)
              go_enter Tryd.func52, Tryd.ntmps52
              go_wp2_with (first | (go_at_call 66; refine (HC.out _).mono ?_; rintro e w' ⟨rfl, rfl⟩) | (go_at_call 67; refine (inf_pos _).mono ?_; rintro e w' ⟨rfl, rfl⟩))
              go_ret3
              exact ⟨rfl, _, _, rfl⟩
          · have q73 : ((c0.toNat : Int) == 73) = false := beq_eq_false_iff_ne.mpr (by omega)
            by_cases h110 : c0.toNat = 110
            · obtain ⟨k, hk⟩ : ∃ k, k = cpF (c0 :: r0) nanT.data.toList := ⟨_, rfl⟩
              have e : spF s.data.toList = if k = 3 then some (9221120237041090561, 3) else none := by
                rw [hL0, hk, spF_cons, if_neg h43, if_neg h45, if_neg (by omega), if_pos (.inl h110)]
              rw [e]
              rw [← hk] at CN
              have HC := Aside0.mk CN
              clear C1 C0 CN e hk
              by_cases g1 : k = 3
              · rw [if_pos g1]
                subst g1
                go_enter Tryd.func52, Tryd.ntmps52
                go_wp2_with (first | (go_at_call 66; refine (HC.out _).mono ?_; rintro e w' ⟨rfl, rfl⟩) | (go_at_call 68; refine (nan_walk _).mono ?_; rintro e w' ⟨rfl, rfl⟩))
                go_ret3
                exact ⟨rfl, rfl⟩
              · rw [if_neg g1]
                have q3 : ((k : Int) == 3) = false := beq_eq_false_iff_ne.mpr (by omega)
                go_enter Tryd.func52, Tryd.ntmps52
                go_wp2_with (first | (go_at_call 66; refine (HC.out _).mono ?_; rintro e w' ⟨rfl, rfl⟩) | (go_at_call 68; refine (nan_walk _).mono ?_; rintro e w' ⟨rfl, rfl⟩))
                go_ret3
                exact ⟨rfl, _, _, rfl⟩
            · have q110 : ((c0.toNat : Int) == 110) = false := beq_eq_false_iff_ne.mpr (by omega)
              by_cases h78 : c0.toNat = 78
              · obtain ⟨k, hk⟩ : ∃ k, k = cpF (c0 :: r0) nanT.data.toList := ⟨_, rfl⟩
                have e : spF s.data.toList = if k = 3 then some (9221120237041090561, 3) else none := by
                  rw [hL0, hk, spF_cons, if_neg h43, if_neg h45, if_neg (by omega), if_pos (.inr h78)]
                rw [e]
                rw [← hk] at CN
                have HC := Aside0.mk CN
                clear C1 C0 CN e hk
                by_cases g1 : k = 3
                · rw [if_pos g1]
                  subst g1
                  go_enter Tryd.func52, Tryd.ntmps52
                  go_wp2_with (first | (go_at_call 66; refine (HC.out _).mono ?_; rintro e w' ⟨rfl, rfl⟩) | (go_at_call 68; refine (nan_walk _).mono ?_; rintro e w' ⟨rfl, rfl⟩))
                  go_ret3
                  exact ⟨rfl, rfl⟩
                · rw [if_neg g1]
                  have q3 : ((k : Int) == 3) = false := beq_eq_false_iff_ne.mpr (by omega)
                  go_enter Tryd.func52, Tryd.ntmps52
                  go_wp2_with (first | (go_at_call 66; refine (HC.out _).mono ?_; rintro e w' ⟨rfl, rfl⟩) | (go_at_call 68; refine (nan_walk _).mono ?_; rintro e w' ⟨rfl, rfl⟩))
                  go_ret3
                  exact ⟨rfl, _, _, rfl⟩
              · have q78 : ((c0.toNat : Int) == 78) = false := beq_eq_false_iff_ne.mpr (by omega)
                have e : spF s.data.toList = none := by rw [hL0, spF_cons, if_neg h43, if_neg h45, if_neg (by omega), if_neg (by omega)]
                rw [e]
                clear C1 C0 CN e
                go_enter Tryd.func52, Tryd.ntmps52
                go_wp2_with fail
                go_ret3
                exact ⟨rfl, _, _, rfl⟩
end Go.Proofs.YtlkbhmmelejmjaaDoor.FltSpecial

/- atof64, walked. -/
namespace Go.Proofs.YtlkbhmmelejmjaaDoor.FltAtof
open Go.RowKit Go.Proofs.YtlkbhmmelejmjaaDoorW.PrintWords Go.Proofs.YtlkbhmmelejmjaaDoor.FltDec Go.Proofs.YtlkbhmmelejmjaaDoor.FltState Go.Proofs.YtlkbhmmelejmjaaDoor.FltBoth Go.Proofs.YtlkbhmmelejmjaaDoor.FltBitsP Go.Proofs.YtlkbhmmelejmjaaDoor.FltBits Go.Proofs.YtlkbhmmelejmjaaDoor.FltTextP Go.Proofs.YtlkbhmmelejmjaaDoor.FltReadA Go.Proofs.YtlkbhmmelejmjaaDoor.FltRead Go.Proofs.YtlkbhmmelejmjaaDoor.FltReadIn Go.Proofs.YtlkbhmmelejmjaaDoor.FltFast Go.Proofs.YtlkbhmmelejmjaaDoor.FltFast2 Go.Proofs.YtlkbhmmelejmjaaDoor.FltNum Go.Proofs.YtlkbhmmelejmjaaDoor.FltHexP Go.Proofs.YtlkbhmmelejmjaaDoor.FltHex Go.Proofs.YtlkbhmmelejmjaaDoor.FltSpecial
set_option linter.unusedVariables false
set_option linter.unusedSimpArgs false

/-- The tables that floats are read with, below block B. -/
structure Tabs (B : Nat) (H O X : Nat → Nat) (w : World) : Prop where
  lt : LTb B w
  pt : PT B w
  fi : FI B 4 w
  tt : TT B (fun k => H k) (fun k => O k) w
  xt : FltExact.XT B X w
  pos : ∀ k, k < 23 → Pos (X k)
  pq : PQ B w
  op : 3 < B ∧ w.cell? ⟨3, 0, none⟩ = some (.bool true)
theorem Tabs.keep {B p : Nat} {H O X : Nat → Nat} {w w' : World} (h : Tabs B H O X w) (hb : Below p w w') (hp : B ≤ p) : Tabs B H O X w' :=
  ⟨h.lt.keep hb hp, h.pt.keep hb hp, h.fi.keep hb hp, h.tt.keep hb hp, h.xt.keep hb hp, h.pos, h.pq.keep hb hp, h.op.1, (hb.cell (p := ⟨3, 0, none⟩) (Nat.lt_of_lt_of_le h.op.1 hp)).trans h.op.2⟩

/-- The error of a kind: 0 none, 1 too great, 2 no number. -/
def erN (k : Nat) : Value := if k = 0 then .nilIface else .iface 65 (.int .i64 k)
theorem erV_N (b : Bool) : erV b = erN (if b then 1 else 0) := by cases b <;> rfl
/-- The slow road. -/
def slowF (T : List UInt8) : Nat × Nat :=
  match setF (sgn T).2 with
  | none => (0, 2)
  | some t => if t.n = 0 then ((signB (sgn T).1 (outB 0 (-1023))).toNat, 0) else ((signB (sgn T).1 (outB (fM t) (fX t))).toNat, if over t then 1 else 0)
def sgB (ng : Bool) : Int := if ng then 9223372036854775808 else 0
/-- What is made of a number that was read (T: its bytes): the float and the kind of its error. -/
def numF (H O X : Nat → Nat) (ng : Bool) (T : List UInt8) (r : RR) : Nat × Nat :=
  if r.hx then ((signB ng (outB (hM r.man r.exp r.tr) (hX r.man r.exp r.tr))).toNat, if hO r.man r.exp r.tr then 1 else 0)
  else if r.man = 0 then ((bits .or .u64 (sgB ng) 0).toNat, 0)
  else if 310 < r.exp then ((bits .or .u64 (sgB ng) 9218868437227405312).toNat, 1)
  else if r.exp < -345 then ((bits .or .u64 (sgB ng) 0).toNat, 0)
  else if r.tr = false then (match exR X r.man r.exp with
    | some a => (D.word ng a, 0)
    | none => (pfV (fun k => H k) (fun k => O k) r.man r.exp (sgB ng), if pfO (fun k => H k) (fun k => O k) r.man r.exp (sgB ng) then 1 else 0))
  else if (FloatKind.format .f64).order (pfV (fun k => H k) (fun k => O k) r.man r.exp (sgB ng)) (pfV (fun k => H k) (fun k => O k) (IntKind.u64.wrap (r.man + 1)) r.exp (sgB ng)) == some .eq then (pfV (fun k => H k) (fun k => O k) r.man r.exp (sgB ng), if pfO (fun k => H k) (fun k => O k) r.man r.exp (sgB ng) then 1 else 0)
  else slowF T
/-- What atof64 gives: the float, how much was read, the error. -/
def AtP (H O X : Nat → Nat) (s : ByteArray) (w : World) (e : Ending) (w' : World) : Prop := Below w.heap.size w w' ∧
  match spF s.data.toList with
  | some q => e = .returned (.tuple #[.float .f64 q.1, .int .i64 (q.2 : Nat), .nilIface])
  | none => match readF (sgn s.data.toList).2 with
    | none => ∃ n, e = .returned (.tuple #[.float .f64 0, .int .i64 n, erN 2])
    | some r => e = .returned (.tuple #[.float .f64 (numF H O X (sgn s.data.toList).1 (s.data.toList.take (s.size - r.rest.length)) r).1, .int .i64 ((s.size - r.rest.length : Nat) : Int), erN (numF H O X (sgn s.data.toList).1 (s.data.toList.take (s.size - r.rest.length)) r).2])
theorem sp_none (s : ByteArray) (hsz : s.size ≤ 2200000000) (h : spF s.data.toList = none) (w : World) : Calls Tryd.prog 52 #[.string s] w (fun e w' => w' = w ∧ ∃ v n, e = .returned (.tuple #[.float .f64 v, .int .i64 n, .bool false])) := by
  have := special_walk s hsz w
  unfold SpP at this
  rw [h] at this
  exact this
theorem rd_none (s : ByteArray) (hsz : s.size ≤ 2200000000) (hus : ∀ i (h : i < s.size), s[i].toNat ≠ 95) (h : readF (sgn s.data.toList).2 = none) (w : World) : Calls Tryd.prog 53 #[.string s] w (fun e w' => w' = w ∧ ∃ (m x i : Int) (n t h : Bool), e = .returned (.tuple #[.int .u64 m, .int .i64 x, .bool n, .bool t, .bool h, .int .i64 i, .bool false])) := by
  refine (read_walk s hsz hus w).mono ?_
  rintro e w' ⟨hw, ⟨m, x, i, n, t, hh, h1, h2⟩ | ⟨r, i, h1, _⟩⟩
  · exact ⟨hw, m, x, i, n, t, hh, h2⟩
  · rw [h] at h1; cases h1
theorem rd_some (s : ByteArray) (hsz : s.size ≤ 2200000000) (hus : ∀ i (h : i < s.size), s[i].toNat ≠ 95) (r : RR) (h : readF (sgn s.data.toList).2 = some r) (w : World) : Calls Tryd.prog 53 #[.string s] w (fun e w' => w' = w ∧ e = .returned (.tuple #[.int .u64 r.man, .int .i64 r.exp, .bool (sgn s.data.toList).1, .bool r.tr, .bool r.hx, .int .i64 ((s.size - r.rest.length : Nat) : Int), .bool true])) := by
  refine (read_walk s hsz hus w).mono ?_
  rintro e w' ⟨hw, ⟨m, x, i, n, t, hh, h1, h2⟩ | ⟨r', i, h1, h2, h3, h4⟩⟩
  · rw [h] at h1; cases h1
  · rw [h] at h1
    injection h1 with h1
    subst h1
    refine ⟨hw, ?_⟩
    have e1 : s.size - r.rest.length = i := by
      rw [← h2, List.length_drop, ← Lib.size_eq]
      omega
    rw [e1]
    exact h4

set_option maxHeartbeats 16000000 in
set_option maxRecDepth 100000 in
theorem atof_special (H O X : Nat → Nat) (s : ByteArray) (hsz : s.size ≤ 2200000000) (w : World) (q : Nat × Nat) (hq : spF s.data.toList = some q) : Calls Tryd.prog 46 #[.string s] w (AtP H O X s w) := by
  have C := special_walk s hsz w
  unfold SpP at C
  rw [hq] at C
  replace C := Aside0.mk C
  go_enter Tryd.func46, Tryd.ntmps46
  go_wp2_with (first | (go_at_call 52; refine C.out.mono ?_; rintro e w1 ⟨rfl, rfl⟩))
  go_ret3
  refine ⟨Below.refl _ _, ?_⟩
  rw [hq]
  rfl

set_option maxHeartbeats 16000000 in
set_option maxRecDepth 100000 in
theorem atof_none (H O X : Nat → Nat) (s : ByteArray) (hsz : s.size ≤ 2200000000) (hus : ∀ i (h : i < s.size), s[i].toNat ≠ 95) (w : World) (hq : spF s.data.toList = none) (hr : readF (sgn s.data.toList).2 = none) : Calls Tryd.prog 46 #[.string s] w (AtP H O X s w) := by
  have C := Aside0.mk (sp_none s hsz hq w)
  have CR := Aside0.mk (rd_none s hsz hus hr)
  have HQ := Aside0.mk (And.intro hq hr)
  clear hus hq hr
  go_enter Tryd.func46, Tryd.ntmps46
  go_wp2_with (first | (go_at_call 52; refine C.out.mono ?_; rintro e w1 ⟨rfl, v, n, rfl⟩) | (go_at_call 53; refine (CR.out _).mono ?_; rintro e w2 ⟨rfl, m, x, i, n1, t1, h1, rfl⟩))
  go_ret3
  refine ⟨Below.refl _ _, ?_⟩
  rw [HQ.out.1]
  show match readF (sgn s.data.toList).2 with | none => _ | some r => _
  rw [HQ.out.2]
  exact ⟨_, rfl⟩

set_option maxRecDepth 100000 in
theorem b2t (w : World) : Calls Tryd.prog 61 #[.bool true] w (SaP (.int .u64 1) w) := by
  go_enter Tryd.func61, Tryd.ntmps61
  go_wp2_with fail
  go_ret
  exact ⟨rfl, rfl⟩
set_option maxRecDepth 100000 in
theorem b2f (w : World) : Calls Tryd.prog 61 #[.bool false] w (SaP (.int .u64 0) w) := by
  go_enter Tryd.func61, Tryd.ntmps61
  go_wp2_with fail
  go_ret
  exact ⟨rfl, rfl⟩
/-- The numbers that are told from their parts alone. -/
def Easy (r : RR) : Prop := r.hx = false ∧ (r.man = 0 ∨ 310 < r.exp ∨ r.exp < -345)
set_option maxHeartbeats 16000000 in
set_option maxRecDepth 100000 in
theorem atof_easy (B : Nat) (H O X : Nat → Nat) (s : ByteArray) (hsz : s.size ≤ 2200000000) (hus : ∀ i (h : i < s.size), s[i].toNat ≠ 95) (w : World) (hT : Tabs B H O X w) (hq : spF s.data.toList = none) (r : RR) (hr : readF (sgn s.data.toList).2 = some r) (he : Easy r) : Calls Tryd.prog 46 #[.string s] w (AtP H O X s w) := by
  have C := Aside0.mk (sp_none s hsz hq w)
  have CR := Aside0.mk (rd_some s hsz hus r hr)
  have HQ := Aside0.mk (And.intro hq hr)
  have hop := hT.op.2
  have hfb := fb_run
  obtain ⟨T, hTe⟩ : ∃ T, T = s.data.toList.take (s.size - r.rest.length) := ⟨_, rfl⟩
  obtain ⟨n0, hn0⟩ : ∃ n0, n0 = s.size - r.rest.length := ⟨_, rfl⟩
  obtain ⟨ng, hng⟩ : ∃ ng, ng = (sgn s.data.toList).1 := ⟨_, rfl⟩
  rw [← hn0, ← hng] at CR
  have HN := Aside0.mk (And.intro hTe (And.intro hn0 hng))
  clear hus hq hr hTe hn0 hng hT
  obtain ⟨hh, he⟩ := he
  have hx1 : r.hx = false := hh
  rw [hx1] at CR
  cases ng with
  | true =>
    by_cases hm : r.man = 0
    · have EQ := Aside0.mk (show numF H O X true T r = ((bits .or .u64 (sgB true) 0).toNat, 0) by unfold numF; rw [if_neg (by rw [hx1]; decide), if_pos hm])
      go_enter Tryd.func46, Tryd.ntmps46
      go_wp2_with (first | (go_at_call 52; refine C.out.mono ?_; rintro e w1 ⟨rfl, v, n, rfl⟩) | (go_at_call 53; refine (CR.out _).mono ?_; rintro e w2 ⟨rfl, rfl⟩) | (go_at_call 61; refine (b2t _).mono ?_; rintro e w3 ⟨rfl, rfl⟩))
      go_ret3
      refine ⟨Below.refl _ _, ?_⟩
      rw [HQ.out.1]
      show match readF (sgn s.data.toList).2 with | none => _ | some r => _
      rw [HQ.out.2]
      show Ending.returned _ = Ending.returned (.tuple #[.float .f64 (numF H O X (sgn s.data.toList).1 (s.data.toList.take (s.size - r.rest.length)) r).1, .int .i64 ((s.size - r.rest.length : Nat) : Int), erN (numF H O X (sgn s.data.toList).1 (s.data.toList.take (s.size - r.rest.length)) r).2])
      rw [← HN.out.1, ← HN.out.2.1, ← HN.out.2.2, EQ.out]
      rfl
    · have qm : (r.man == 0) = false := beq_eq_false_iff_ne.mpr hm
      by_cases h1 : 310 < r.exp
      · have EQ := Aside0.mk (show numF H O X true T r = ((bits .or .u64 (sgB true) 9218868437227405312).toNat, 1) by unfold numF; rw [if_neg (by rw [hx1]; decide), if_neg hm, if_pos h1])
        go_enter Tryd.func46, Tryd.ntmps46
        go_wp2_with (first | (go_at_call 52; refine C.out.mono ?_; rintro e w1 ⟨rfl, v, n, rfl⟩) | (go_at_call 53; refine (CR.out _).mono ?_; rintro e w2 ⟨rfl, rfl⟩) | (go_at_call 61; refine (b2t _).mono ?_; rintro e w3 ⟨rfl, rfl⟩))
        go_ret3
        refine ⟨Below.refl _ _, ?_⟩
        rw [HQ.out.1]
        show match readF (sgn s.data.toList).2 with | none => _ | some r => _
        rw [HQ.out.2]
        show Ending.returned _ = Ending.returned (.tuple #[.float .f64 (numF H O X (sgn s.data.toList).1 (s.data.toList.take (s.size - r.rest.length)) r).1, .int .i64 ((s.size - r.rest.length : Nat) : Int), erN (numF H O X (sgn s.data.toList).1 (s.data.toList.take (s.size - r.rest.length)) r).2])
        rw [← HN.out.1, ← HN.out.2.1, ← HN.out.2.2, EQ.out]
        rfl
      · have h2 : r.exp < -345 := by omega
        have EQ := Aside0.mk (show numF H O X true T r = ((bits .or .u64 (sgB true) 0).toNat, 0) by unfold numF; rw [if_neg (by rw [hx1]; decide), if_neg hm, if_neg h1, if_pos h2])
        go_enter Tryd.func46, Tryd.ntmps46
        go_wp2_with (first | (go_at_call 52; refine C.out.mono ?_; rintro e w1 ⟨rfl, v, n, rfl⟩) | (go_at_call 53; refine (CR.out _).mono ?_; rintro e w2 ⟨rfl, rfl⟩) | (go_at_call 61; refine (b2t _).mono ?_; rintro e w3 ⟨rfl, rfl⟩))
        go_ret3
        refine ⟨Below.refl _ _, ?_⟩
        rw [HQ.out.1]
        show match readF (sgn s.data.toList).2 with | none => _ | some r => _
        rw [HQ.out.2]
        show Ending.returned _ = Ending.returned (.tuple #[.float .f64 (numF H O X (sgn s.data.toList).1 (s.data.toList.take (s.size - r.rest.length)) r).1, .int .i64 ((s.size - r.rest.length : Nat) : Int), erN (numF H O X (sgn s.data.toList).1 (s.data.toList.take (s.size - r.rest.length)) r).2])
        rw [← HN.out.1, ← HN.out.2.1, ← HN.out.2.2, EQ.out]
        rfl
  | false =>
    by_cases hm : r.man = 0
    · have EQ := Aside0.mk (show numF H O X false T r = ((bits .or .u64 (sgB false) 0).toNat, 0) by unfold numF; rw [if_neg (by rw [hx1]; decide), if_pos hm])
      go_enter Tryd.func46, Tryd.ntmps46
      go_wp2_with (first | (go_at_call 52; refine C.out.mono ?_; rintro e w1 ⟨rfl, v, n, rfl⟩) | (go_at_call 53; refine (CR.out _).mono ?_; rintro e w2 ⟨rfl, rfl⟩) | (go_at_call 61; refine (b2f _).mono ?_; rintro e w3 ⟨rfl, rfl⟩))
      go_ret3
      refine ⟨Below.refl _ _, ?_⟩
      rw [HQ.out.1]
      show match readF (sgn s.data.toList).2 with | none => _ | some r => _
      rw [HQ.out.2]
      show Ending.returned _ = Ending.returned (.tuple #[.float .f64 (numF H O X (sgn s.data.toList).1 (s.data.toList.take (s.size - r.rest.length)) r).1, .int .i64 ((s.size - r.rest.length : Nat) : Int), erN (numF H O X (sgn s.data.toList).1 (s.data.toList.take (s.size - r.rest.length)) r).2])
      rw [← HN.out.1, ← HN.out.2.1, ← HN.out.2.2, EQ.out]
      rfl
    · have qm : (r.man == 0) = false := beq_eq_false_iff_ne.mpr hm
      by_cases h1 : 310 < r.exp
      · have EQ := Aside0.mk (show numF H O X false T r = ((bits .or .u64 (sgB false) 9218868437227405312).toNat, 1) by unfold numF; rw [if_neg (by rw [hx1]; decide), if_neg hm, if_pos h1])
        go_enter Tryd.func46, Tryd.ntmps46
        go_wp2_with (first | (go_at_call 52; refine C.out.mono ?_; rintro e w1 ⟨rfl, v, n, rfl⟩) | (go_at_call 53; refine (CR.out _).mono ?_; rintro e w2 ⟨rfl, rfl⟩) | (go_at_call 61; refine (b2f _).mono ?_; rintro e w3 ⟨rfl, rfl⟩))
        go_ret3
        refine ⟨Below.refl _ _, ?_⟩
        rw [HQ.out.1]
        show match readF (sgn s.data.toList).2 with | none => _ | some r => _
        rw [HQ.out.2]
        show Ending.returned _ = Ending.returned (.tuple #[.float .f64 (numF H O X (sgn s.data.toList).1 (s.data.toList.take (s.size - r.rest.length)) r).1, .int .i64 ((s.size - r.rest.length : Nat) : Int), erN (numF H O X (sgn s.data.toList).1 (s.data.toList.take (s.size - r.rest.length)) r).2])
        rw [← HN.out.1, ← HN.out.2.1, ← HN.out.2.2, EQ.out]
        rfl
      · have h2 : r.exp < -345 := by omega
        have EQ := Aside0.mk (show numF H O X false T r = ((bits .or .u64 (sgB false) 0).toNat, 0) by unfold numF; rw [if_neg (by rw [hx1]; decide), if_neg hm, if_neg h1, if_pos h2])
        go_enter Tryd.func46, Tryd.ntmps46
        go_wp2_with (first | (go_at_call 52; refine C.out.mono ?_; rintro e w1 ⟨rfl, v, n, rfl⟩) | (go_at_call 53; refine (CR.out _).mono ?_; rintro e w2 ⟨rfl, rfl⟩) | (go_at_call 61; refine (b2f _).mono ?_; rintro e w3 ⟨rfl, rfl⟩))
        go_ret3
        refine ⟨Below.refl _ _, ?_⟩
        rw [HQ.out.1]
        show match readF (sgn s.data.toList).2 with | none => _ | some r => _
        rw [HQ.out.2]
        show Ending.returned _ = Ending.returned (.tuple #[.float .f64 (numF H O X (sgn s.data.toList).1 (s.data.toList.take (s.size - r.rest.length)) r).1, .int .i64 ((s.size - r.rest.length : Nat) : Int), erN (numF H O X (sgn s.data.toList).1 (s.data.toList.take (s.size - r.rest.length)) r).2])
        rw [← HN.out.1, ← HN.out.2.1, ← HN.out.2.2, EQ.out]
        rfl
end Go.Proofs.YtlkbhmmelejmjaaDoor.FltAtof

/- atof64, walked: hexadecimal numbers, the exact and the fast road. -/
namespace Go.Proofs.YtlkbhmmelejmjaaDoor.FltAtof2
open Go.RowKit Go.Proofs.YtlkbhmmelejmjaaDoorW.PrintWords Go.Proofs.YtlkbhmmelejmjaaDoor.FltDec Go.Proofs.YtlkbhmmelejmjaaDoor.FltState Go.Proofs.YtlkbhmmelejmjaaDoor.FltBoth Go.Proofs.YtlkbhmmelejmjaaDoor.FltBitsP Go.Proofs.YtlkbhmmelejmjaaDoor.FltBits Go.Proofs.YtlkbhmmelejmjaaDoor.FltTextP Go.Proofs.YtlkbhmmelejmjaaDoor.FltReadA Go.Proofs.YtlkbhmmelejmjaaDoor.FltRead Go.Proofs.YtlkbhmmelejmjaaDoor.FltReadIn Go.Proofs.YtlkbhmmelejmjaaDoor.FltFast Go.Proofs.YtlkbhmmelejmjaaDoor.FltFast2 Go.Proofs.YtlkbhmmelejmjaaDoor.FltNum Go.Proofs.YtlkbhmmelejmjaaDoor.FltHexP Go.Proofs.YtlkbhmmelejmjaaDoor.FltHex Go.Proofs.YtlkbhmmelejmjaaDoor.FltSpecial Go.Proofs.YtlkbhmmelejmjaaDoor.FltAtof
set_option linter.unusedVariables false
set_option linter.unusedSimpArgs false

theorem sgn_len (L : List UInt8) : (sgn L).2.length ≤ L.length := by
  cases L with
  | nil => exact Nat.le_refl _
  | cons c r =>
    rw [sgn_cons]
    split
    · simp
    · split
      · simp
      · exact Nat.le_refl _

set_option maxHeartbeats 16000000 in
set_option maxRecDepth 100000 in
theorem atof_hex (B : Nat) (H O X : Nat → Nat) (s : ByteArray) (hsz : s.size ≤ 2200000000) (hus : ∀ i (h : i < s.size), s[i].toNat ≠ 95) (w : World) (hB : B ≤ w.heap.size) (hT : Tabs B H O X w) (hq : spF s.data.toList = none) (r : RR) (hr : readF (sgn s.data.toList).2 = some r) (hx1 : r.hx = true) : Calls Tryd.prog 46 #[.string s] w (AtP H O X s w) := by
  have C := Aside0.mk (sp_none s hsz hq w)
  have CR := Aside0.mk (rd_some s hsz hus r hr)
  have HQ := Aside0.mk (And.intro hq hr)
  have hop := hT.op.2
  have hin := readF_in (L := (sgn s.data.toList).2) (by have h1 := (Lib.size_eq s); have h2 : (sgn s.data.toList).2.length ≤ s.data.toList.length := sgn_len _; omega) hr
  obtain ⟨hm0, hm1, he0, he1⟩ := hin
  obtain ⟨T, hTe⟩ : ∃ T, T = s.data.toList.take (s.size - r.rest.length) := ⟨_, rfl⟩
  obtain ⟨n0, hn0⟩ : ∃ n0, n0 = s.size - r.rest.length := ⟨_, rfl⟩
  have hn1 : n0 ≤ s.size := by omega
  obtain ⟨ng, hng⟩ : ∃ ng, ng = (sgn s.data.toList).1 := ⟨_, rfl⟩
  rw [← hn0, ← hng] at CR
  have HN := Aside0.mk (And.intro hTe (And.intro hn0 hng))
  have HT := Aside0.mk hT
  clear hus hq hr hTe hn0 hng hT
  rw [hx1] at CR
  have CH := Aside0.mk (fun t => hex_walk B t r.man r.exp ng r.tr hm0 hm1 (by omega) (by omega) w HT.out.fi HT.out.pq)
  have EQ := Aside0.mk (show numF H O X ng T r = ((signB ng (outB (hM r.man r.exp r.tr) (hX r.man r.exp r.tr))).toNat, if hO r.man r.exp r.tr then 1 else 0) by unfold numF; rw [if_pos hx1])
  go_enter Tryd.func46, Tryd.ntmps46
  go_wp2_with (first | (go_at_call 52; refine C.out.mono ?_; rintro e w1 ⟨rfl, v, n, rfl⟩) | (go_at_call 53; refine (CR.out _).mono ?_; rintro e w2 ⟨rfl, rfl⟩) | (go_at_call 61; refine (b2t _).mono ?_; rintro e w3 ⟨rfl, rfl⟩) | (go_at_call 54; refine (CH.out _).mono ?_; rintro e w4 ⟨rfl, n4, rfl⟩))
  go_ret3
  refine ⟨Below.drewN (Below.refl _ _) _, ?_⟩
  rw [HQ.out.1]
  show match readF (sgn s.data.toList).2 with | none => _ | some r => _
  rw [HQ.out.2]
  show Ending.returned _ = Ending.returned (.tuple #[.float .f64 (numF H O X (sgn s.data.toList).1 (s.data.toList.take (s.size - r.rest.length)) r).1, .int .i64 ((s.size - r.rest.length : Nat) : Int), erN (numF H O X (sgn s.data.toList).1 (s.data.toList.take (s.size - r.rest.length)) r).2])
  rw [← HN.out.1, ← HN.out.2.1, ← HN.out.2.2, EQ.out]
  rw [← erV_N]
  rfl

set_option maxHeartbeats 16000000 in
set_option maxRecDepth 100000 in
theorem atof_fast (B : Nat) (H O X : Nat → Nat) (s : ByteArray) (hsz : s.size ≤ 2200000000) (hus : ∀ i (h : i < s.size), s[i].toNat ≠ 95) (w : World) (hB : B ≤ w.heap.size) (hT : Tabs B H O X w) (hq : spF s.data.toList = none) (r : RR) (hr : readF (sgn s.data.toList).2 = some r) (hx1 : r.hx = false) (hm : ¬ r.man = 0) (he2 : -345 ≤ r.exp) (he3 : r.exp ≤ 310) (htr : r.tr = false) : Calls Tryd.prog 46 #[.string s] w (AtP H O X s w) := by
  have C := Aside0.mk (sp_none s hsz hq w)
  have CR := Aside0.mk (rd_some s hsz hus r hr)
  have HQ := Aside0.mk (And.intro hq hr)
  have hop := hT.op.2
  have hin := readF_in (L := (sgn s.data.toList).2) (by have h1 := (Lib.size_eq s); have h2 : (sgn s.data.toList).2.length ≤ s.data.toList.length := sgn_len _; omega) hr
  obtain ⟨hm0, hm1, he0, he1⟩ := hin
  obtain ⟨T, hTe⟩ : ∃ T, T = s.data.toList.take (s.size - r.rest.length) := ⟨_, rfl⟩
  obtain ⟨n0, hn0⟩ : ∃ n0, n0 = s.size - r.rest.length := ⟨_, rfl⟩
  have hn1 : n0 ≤ s.size := by omega
  obtain ⟨ng, hng⟩ : ∃ ng, ng = (sgn s.data.toList).1 := ⟨_, rfl⟩
  rw [← hn0, ← hng] at CR
  have HN := Aside0.mk (And.intro hTe (And.intro hn0 hng))
  have HT := Aside0.mk hT
  clear hus hq hr hTe hn0 hng hT
  rw [hx1, htr] at CR
  have qm : (r.man == 0) = false := beq_eq_false_iff_ne.mpr hm
  cases ng with
  | true =>
    have CX := Aside0.mk (FltExact.exact_walk B X r.man r.exp true hm0 hm1 (by omega) (by omega) w HT.out.fi HT.out.xt HT.out.pos)
    have CF := Aside0.mk (parse_walk B (fun k => H k) (fun k => O k) r.man r.exp 9223372036854775808 hm0 hm1 he2 he3 w hB HT.out.tt)
    cases hxr : exR X r.man r.exp with
    | some a =>
      have EQ := Aside0.mk (show numF H O X true T r = (D.word true a, 0) by unfold numF; rw [if_neg (by rw [hx1]; decide), if_neg hm, if_neg (by omega), if_neg (by omega), if_pos htr, hxr])
      rw [hxr] at CX
      go_enter Tryd.func46, Tryd.ntmps46
      go_wp2_with (first | (go_at_call 52; refine C.out.mono ?_; rintro e w1 ⟨rfl, v, n, rfl⟩) | (go_at_call 53; refine (CR.out _).mono ?_; rintro e w2 ⟨rfl, rfl⟩) | (go_at_call 61; refine (b2t _).mono ?_; rintro e w3 ⟨rfl, rfl⟩) | (go_at_call 63; refine CX.out.mono ?_; rintro e w4 ⟨rfl, rfl⟩))
      go_ret3
      refine ⟨Below.refl _ _, ?_⟩
      rw [HQ.out.1]
      show match readF (sgn s.data.toList).2 with | none => _ | some r => _
      rw [HQ.out.2]
      show Ending.returned _ = Ending.returned (.tuple #[.float .f64 (numF H O X (sgn s.data.toList).1 (s.data.toList.take (s.size - r.rest.length)) r).1, .int .i64 ((s.size - r.rest.length : Nat) : Int), erN (numF H O X (sgn s.data.toList).1 (s.data.toList.take (s.size - r.rest.length)) r).2])
      rw [← HN.out.1, ← HN.out.2.1, ← HN.out.2.2, EQ.out]
      rfl
    | none =>
      have EQ := Aside0.mk (show numF H O X true T r = (pfV (fun k => H k) (fun k => O k) r.man r.exp 9223372036854775808, if pfO (fun k => H k) (fun k => O k) r.man r.exp 9223372036854775808 then 1 else 0) by unfold numF; rw [if_neg (by rw [hx1]; decide), if_neg hm, if_neg (by omega), if_neg (by omega), if_pos htr, hxr]; rfl)
      rw [hxr] at CX
      go_enter Tryd.func46, Tryd.ntmps46
      go_wp2_with (first | (go_at_call 52; refine C.out.mono ?_; rintro e w1 ⟨rfl, v, n, rfl⟩) | (go_at_call 53; refine (CR.out _).mono ?_; rintro e w2 ⟨rfl, rfl⟩) | (go_at_call 61; refine (b2t _).mono ?_; rintro e w3 ⟨rfl, rfl⟩) | (go_at_call 63; refine CX.out.mono ?_; rintro e w4 ⟨rfl, v4, rfl⟩) | (go_at_call 64; refine CF.out.mono ?_; rintro e w5 ⟨rfl, hb5⟩))
      go_ret3
      refine ⟨hb5, ?_⟩
      rw [HQ.out.1]
      show match readF (sgn s.data.toList).2 with | none => _ | some r => _
      rw [HQ.out.2]
      show Ending.returned _ = Ending.returned (.tuple #[.float .f64 (numF H O X (sgn s.data.toList).1 (s.data.toList.take (s.size - r.rest.length)) r).1, .int .i64 ((s.size - r.rest.length : Nat) : Int), erN (numF H O X (sgn s.data.toList).1 (s.data.toList.take (s.size - r.rest.length)) r).2])
      rw [← HN.out.1, ← HN.out.2.1, ← HN.out.2.2, EQ.out]
      rw [← erV_N]
      rfl
  | false =>
    have CX := Aside0.mk (FltExact.exact_walk B X r.man r.exp false hm0 hm1 (by omega) (by omega) w HT.out.fi HT.out.xt HT.out.pos)
    have CF := Aside0.mk (parse_walk B (fun k => H k) (fun k => O k) r.man r.exp 0 hm0 hm1 he2 he3 w hB HT.out.tt)
    cases hxr : exR X r.man r.exp with
    | some a =>
      have EQ := Aside0.mk (show numF H O X false T r = (D.word false a, 0) by unfold numF; rw [if_neg (by rw [hx1]; decide), if_neg hm, if_neg (by omega), if_neg (by omega), if_pos htr, hxr])
      rw [hxr] at CX
      go_enter Tryd.func46, Tryd.ntmps46
      go_wp2_with (first | (go_at_call 52; refine C.out.mono ?_; rintro e w1 ⟨rfl, v, n, rfl⟩) | (go_at_call 53; refine (CR.out _).mono ?_; rintro e w2 ⟨rfl, rfl⟩) | (go_at_call 61; refine (b2f _).mono ?_; rintro e w3 ⟨rfl, rfl⟩) | (go_at_call 63; refine CX.out.mono ?_; rintro e w4 ⟨rfl, rfl⟩))
      go_ret3
      refine ⟨Below.refl _ _, ?_⟩
      rw [HQ.out.1]
      show match readF (sgn s.data.toList).2 with | none => _ | some r => _
      rw [HQ.out.2]
      show Ending.returned _ = Ending.returned (.tuple #[.float .f64 (numF H O X (sgn s.data.toList).1 (s.data.toList.take (s.size - r.rest.length)) r).1, .int .i64 ((s.size - r.rest.length : Nat) : Int), erN (numF H O X (sgn s.data.toList).1 (s.data.toList.take (s.size - r.rest.length)) r).2])
      rw [← HN.out.1, ← HN.out.2.1, ← HN.out.2.2, EQ.out]
      rfl
    | none =>
      have EQ := Aside0.mk (show numF H O X false T r = (pfV (fun k => H k) (fun k => O k) r.man r.exp 0, if pfO (fun k => H k) (fun k => O k) r.man r.exp 0 then 1 else 0) by unfold numF; rw [if_neg (by rw [hx1]; decide), if_neg hm, if_neg (by omega), if_neg (by omega), if_pos htr, hxr]; rfl)
      rw [hxr] at CX
      go_enter Tryd.func46, Tryd.ntmps46
      go_wp2_with (first | (go_at_call 52; refine C.out.mono ?_; rintro e w1 ⟨rfl, v, n, rfl⟩) | (go_at_call 53; refine (CR.out _).mono ?_; rintro e w2 ⟨rfl, rfl⟩) | (go_at_call 61; refine (b2f _).mono ?_; rintro e w3 ⟨rfl, rfl⟩) | (go_at_call 63; refine CX.out.mono ?_; rintro e w4 ⟨rfl, v4, rfl⟩) | (go_at_call 64; refine CF.out.mono ?_; rintro e w5 ⟨rfl, hb5⟩))
      go_ret3
      refine ⟨hb5, ?_⟩
      rw [HQ.out.1]
      show match readF (sgn s.data.toList).2 with | none => _ | some r => _
      rw [HQ.out.2]
      show Ending.returned _ = Ending.returned (.tuple #[.float .f64 (numF H O X (sgn s.data.toList).1 (s.data.toList.take (s.size - r.rest.length)) r).1, .int .i64 ((s.size - r.rest.length : Nat) : Int), erN (numF H O X (sgn s.data.toList).1 (s.data.toList.take (s.size - r.rest.length)) r).2])
      rw [← HN.out.1, ← HN.out.2.1, ← HN.out.2.2, EQ.out]
      rw [← erV_N]
      rfl
end Go.Proofs.YtlkbhmmelejmjaaDoor.FltAtof2

/- atof64, walked: the fast road twice, the slow road. -/
namespace Go.Proofs.YtlkbhmmelejmjaaDoor.FltAtof3
open Go.RowKit Go.Proofs.YtlkbhmmelejmjaaDoorW.PrintWords Go.Proofs.YtlkbhmmelejmjaaDoor.FltDec Go.Proofs.YtlkbhmmelejmjaaDoor.FltState Go.Proofs.YtlkbhmmelejmjaaDoor.FltBoth Go.Proofs.YtlkbhmmelejmjaaDoor.FltBitsP Go.Proofs.YtlkbhmmelejmjaaDoor.FltBits Go.Proofs.YtlkbhmmelejmjaaDoor.FltTextP Go.Proofs.YtlkbhmmelejmjaaDoor.FltReadA Go.Proofs.YtlkbhmmelejmjaaDoor.FltRead Go.Proofs.YtlkbhmmelejmjaaDoor.FltReadIn Go.Proofs.YtlkbhmmelejmjaaDoor.FltFast Go.Proofs.YtlkbhmmelejmjaaDoor.FltFast2 Go.Proofs.YtlkbhmmelejmjaaDoor.FltNum Go.Proofs.YtlkbhmmelejmjaaDoor.FltHexP Go.Proofs.YtlkbhmmelejmjaaDoor.FltHex Go.Proofs.YtlkbhmmelejmjaaDoor.FltSpecial Go.Proofs.YtlkbhmmelejmjaaDoor.FltAtof Go.Proofs.YtlkbhmmelejmjaaDoor.FltAtof2
set_option linter.unusedVariables false
set_option linter.unusedSimpArgs false

set_option maxHeartbeats 16000000 in
set_option maxRecDepth 100000 in
theorem atof_same (B : Nat) (H O X : Nat → Nat) (s : ByteArray) (hsz : s.size ≤ 2200000000) (hus : ∀ i (h : i < s.size), s[i].toNat ≠ 95) (w : World) (hB : B ≤ w.heap.size) (hT : Tabs B H O X w) (hq : spF s.data.toList = none) (r : RR) (hr : readF (sgn s.data.toList).2 = some r) (hx1 : r.hx = false) (hm : ¬ r.man = 0) (he2 : -345 ≤ r.exp) (he3 : r.exp ≤ 310) (htr : r.tr = true) (heq : ((FloatKind.format .f64).order (pfV (fun k => H k) (fun k => O k) r.man r.exp (sgB (sgn s.data.toList).1)) (pfV (fun k => H k) (fun k => O k) (IntKind.u64.wrap (r.man + 1)) r.exp (sgB (sgn s.data.toList).1)) == some .eq) = true) : Calls Tryd.prog 46 #[.string s] w (AtP H O X s w) := by
  have C := Aside0.mk (sp_none s hsz hq w)
  have CR := Aside0.mk (rd_some s hsz hus r hr)
  have HQ := Aside0.mk (And.intro hq hr)
  have hop := hT.op.2
  have hin := readF_in (L := (sgn s.data.toList).2) (by have h1 := (Lib.size_eq s); have h2 : (sgn s.data.toList).2.length ≤ s.data.toList.length := sgn_len _; omega) hr
  obtain ⟨hm0, hm1, he0, he1⟩ := hin
  obtain ⟨T, hTe⟩ : ∃ T, T = s.data.toList.take (s.size - r.rest.length) := ⟨_, rfl⟩
  obtain ⟨n0, hn0⟩ : ∃ n0, n0 = s.size - r.rest.length := ⟨_, rfl⟩
  have hn1 : n0 ≤ s.size := by omega
  obtain ⟨ng, hng⟩ : ∃ ng, ng = (sgn s.data.toList).1 := ⟨_, rfl⟩
  rw [← hn0, ← hng] at CR
  rw [← hng] at heq
  have HN := Aside0.mk (And.intro hTe (And.intro hn0 hng))
  have HT := Aside0.mk hT
  clear hus hq hr hTe hn0 hng hT
  rw [hx1, htr] at CR
  have qm : (r.man == 0) = false := beq_eq_false_iff_ne.mpr hm
  obtain ⟨F, hFe⟩ : ∃ F, F = pfV (fun k => H k) (fun k => O k) r.man r.exp (sgB ng) := ⟨_, rfl⟩
  obtain ⟨F1, hF1e⟩ : ∃ F1, F1 = pfV (fun k => H k) (fun k => O k) (IntKind.u64.wrap (r.man + 1)) r.exp (sgB ng) := ⟨_, rfl⟩
  have CF := parse_walk B (fun k => H k) (fun k => O k) r.man r.exp (sgB ng) hm0 hm1 he2 he3 w hB HT.out.tt
  have CG := fun W (hW : Below w.heap.size w W) => parse_walk B (fun k => H k) (fun k => O k) (IntKind.u64.wrap (r.man + 1)) r.exp (sgB ng) (wrap_in _).1 (wrap_in _).2 he2 he3 W (Nat.le_trans hB hW.size) (HT.out.tt.keep hW hB)
  rw [← hFe] at CF
  rw [← hF1e] at CG
  replace CF := Aside0.mk CF
  replace CG := Aside0.mk CG
  have HF := Aside0.mk (And.intro hFe hF1e)
  clear hFe hF1e
  rw [← HF.out.1, ← HF.out.2] at heq
  cases ng with
  | true =>
    have EQ := Aside0.mk (show numF H O X true T r = (F, if pfO (fun k => H k) (fun k => O k) r.man r.exp (sgB true) then 1 else 0) by unfold numF; rw [if_neg (by rw [hx1]; decide), if_neg hm, if_neg (by omega), if_neg (by omega), if_neg (by rw [htr]; decide), ← HF.out.1, ← HF.out.2, if_pos heq])
    go_enter Tryd.func46, Tryd.ntmps46
    go_upto_region 25 with (first | (go_at_call 52; refine C.out.mono ?_; rintro e w1 ⟨rfl, v, n, rfl⟩) | (go_at_call 53; refine (CR.out _).mono ?_; rintro e w2 ⟨rfl, rfl⟩) | (go_at_call 61; refine (b2t _).mono ?_; rintro e w3 ⟨rfl, rfl⟩) | (go_at_call 64; refine CF.out.mono ?_; rintro e w5 ⟨rfl, hb5⟩))
    go_wp2_with (first | (go_at_call 64; refine (CG.out _ hb5).mono ?_; rintro e w6 ⟨rfl, hb6⟩))
    go_ret3
    refine ⟨hb5.trans (Below.mono hb6 hb5.size), ?_⟩
    rw [HQ.out.1]
    show match readF (sgn s.data.toList).2 with | none => _ | some r => _
    rw [HQ.out.2]
    show Ending.returned _ = Ending.returned (.tuple #[.float .f64 (numF H O X (sgn s.data.toList).1 (s.data.toList.take (s.size - r.rest.length)) r).1, .int .i64 ((s.size - r.rest.length : Nat) : Int), erN (numF H O X (sgn s.data.toList).1 (s.data.toList.take (s.size - r.rest.length)) r).2])
    rw [← HN.out.1, ← HN.out.2.1, ← HN.out.2.2, EQ.out]
    rw [← erV_N]
    rfl
  | false =>
    have EQ := Aside0.mk (show numF H O X false T r = (F, if pfO (fun k => H k) (fun k => O k) r.man r.exp (sgB false) then 1 else 0) by unfold numF; rw [if_neg (by rw [hx1]; decide), if_neg hm, if_neg (by omega), if_neg (by omega), if_neg (by rw [htr]; decide), ← HF.out.1, ← HF.out.2, if_pos heq])
    go_enter Tryd.func46, Tryd.ntmps46
    go_upto_region 25 with (first | (go_at_call 52; refine C.out.mono ?_; rintro e w1 ⟨rfl, v, n, rfl⟩) | (go_at_call 53; refine (CR.out _).mono ?_; rintro e w2 ⟨rfl, rfl⟩) | (go_at_call 61; refine (b2f _).mono ?_; rintro e w3 ⟨rfl, rfl⟩) | (go_at_call 64; refine CF.out.mono ?_; rintro e w5 ⟨rfl, hb5⟩))
    go_wp2_with (first | (go_at_call 64; refine (CG.out _ hb5).mono ?_; rintro e w6 ⟨rfl, hb6⟩))
    go_ret3
    refine ⟨hb5.trans (Below.mono hb6 hb5.size), ?_⟩
    rw [HQ.out.1]
    show match readF (sgn s.data.toList).2 with | none => _ | some r => _
    rw [HQ.out.2]
    show Ending.returned _ = Ending.returned (.tuple #[.float .f64 (numF H O X (sgn s.data.toList).1 (s.data.toList.take (s.size - r.rest.length)) r).1, .int .i64 ((s.size - r.rest.length : Nat) : Int), erN (numF H O X (sgn s.data.toList).1 (s.data.toList.take (s.size - r.rest.length)) r).2])
    rw [← HN.out.1, ← HN.out.2.1, ← HN.out.2.2, EQ.out]
    rw [← erV_N]
    rfl
end Go.Proofs.YtlkbhmmelejmjaaDoor.FltAtof3

/- A new decimal is nought. -/
namespace Go.Proofs.YtlkbhmmelejmjaaDoor.FltDecNew
open Go.RowKit Go.Proofs.YtlkbhmmelejmjaaDoor.FltDec
set_option linter.unusedVariables false
set_option linter.unusedSimpArgs false
theorem zc : Tryd.zeroCells96 = (List.replicate 800 (Value.int .u8 0) ++ [Value.int .i64 0, Value.int .i64 0, Value.bool false, Value.bool false]).toArray := by kernel_rfl
set_option maxRecDepth 100000 in
theorem zc_dig (i : Nat) (h : i < 800) : Tryd.zeroCells96[i]? = some (.int .u8 0) := by
  rw [zc, List.getElem?_toArray, List.getElem?_append_left (by rw [List.length_replicate]; exact h), List.getElem?_replicate, if_pos h]
set_option maxRecDepth 100000 in
theorem dec_new (W : World) (p : Nat) (hp : W.heap.size = p) : Dec (W.alloc (.cells Tryd.zeroCells96 96)) p (fun _ => 0) 0 0 false false := by
  subst hp
  have c : ∀ o, (W.alloc (.cells Tryd.zeroCells96 96)).cell? ⟨W.heap.size, o, none⟩ = Tryd.zeroCells96[o]? := fun o => by simp
  refine ⟨?_, ?_, ?_, ?_, fun i hi => ?_, fun o => ?_⟩
  · rw [c]; kernel_rfl
  · rw [c]; kernel_rfl
  · rw [c]; kernel_rfl
  · rw [c]; kernel_rfl
  · rw [c]; exact zc_dig i hi
  · rw [frozen?_alloc_cells]
    unfold World.frozen?
    simp
end Go.Proofs.YtlkbhmmelejmjaaDoor.FltDecNew
