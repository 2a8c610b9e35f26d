/- Parts of the proof of FnPartLines, one behind the other: LEmpty. Each part says ahead of itself what it proves. -/
import Derived.Test.YtgglhfbjbddjjaaDoorPFnPartLinesx1
import Derived.Test.YtgglhfbjbddjjaaDoorPkFnPartLines2

/- functions as print.sh prints them, cut out of its texts. -/
namespace Go.Proofs.YtgglhfbjbddjjaaDoor.LEmpty
open Go.RowKit Go.Proofs.YtgglhfbjbddjjaaDoorW.PrintWords Go.Proofs.YtgglhfbjbddjjaaDoorW.PrintLast Go.Proofs.YtgglhfbjbddjjaaDoorW.PrintMore Go.Proofs.YtgglhfbjbddjjaaDoor.PFnPartLines Go.Proofs.YtgglhfbjbddjjaaDoor.LKnown
attribute [local go_sem] max2_int min2_int max_two min_two max_three min_three max_four min_four   -- for this text's walks alone
set_option linter.unusedVariables false
set_option linter.unusedSimpArgs false



/-! ### spec_scEmpty: function 13 -/
mutual
def spec_scEmpty.l0 : Nat → List Int → Int → Int → Option (Int × Int × Bool)
  | 0, _, _, _ => none
  | k + 1, x0, x1, x4 => (spec_scMarkerAt.f x0 x1).bind fun t126 => (if t126 = true then (some (0, 0, false)) else (spec_scEmpty.l1 k x0 x1 x4))
def spec_scEmpty.l1 : Nat → List Int → Int → Int → Option (Int × Int × Bool)
  | 0, _, _, _ => none
  | k + 1, x0, x1, x4 => if x1 < (x0.length : Int) then (if 0 ≤ x1 then ((spec_scWhite.f (rd x0 x1)).bind fun t128 => (if t128 = true then (spec_scEmpty.l1 k x0 (wrap64 (x1 + 1)) x4) else (if x1 = (x0.length : Int) then (some (x4, x1, true)) else (if (rd x0 x1) = 10 then (spec_scEmpty.l0 k x0 (wrap64 (x1 + 1)) (wrap64 (x4 + 1))) else (some (x4, x1, true)))))) else (none)) else (if x1 = (x0.length : Int) then (some (x4, x1, true)) else (if 0 ≤ x1 then (none) else (none)))
end
def spec_scEmpty.f (k : Nat) (l0 : List Int) (a1 : Int) : Option (Int × Int × Bool) := spec_scEmpty.l0 k l0 a1 0
theorem spec_scEmpty.mono_l : ∀ k, (∀ y0 y1 y2, LeO (spec_scEmpty.l0 k y0 y1 y2) (spec_scEmpty.l0 (k + 1) y0 y1 y2)) ∧ (∀ y0 y1 y2, LeO (spec_scEmpty.l1 k y0 y1 y2) (spec_scEmpty.l1 (k + 1) y0 y1 y2))
  | 0 => ⟨fun _ _ _ r h => by simp [spec_scEmpty.l0] at h, fun _ _ _ r h => by simp [spec_scEmpty.l1] at h⟩
  | k + 1 => by
    obtain ⟨ih0, ih1⟩ := spec_scEmpty.mono_l k
    refine ⟨?_, ?_⟩
    · intro y0 y1 y2
      unfold spec_scEmpty.l0
      repeat' first
      | (with_reducible exact ih0 _ _ _)
      | (with_reducible exact ih1 _ _ _)
      | (with_reducible exact LeO.refl _)
      | (with_reducible exact LeO.none _)
      | (with_reducible refine LeO.ite ?_ ?_)
      | (with_reducible refine LeO.bind ?_ (fun _ => ?_))
      | exact ih0 _ _ _
      | exact ih1 _ _ _
      | exact LeO.none _
      | refine LeO.ite ?_ ?_
      | refine LeO.bind ?_ (fun _ => ?_)
    · intro y0 y1 y2
      unfold spec_scEmpty.l1
      repeat' first
      | (with_reducible exact ih0 _ _ _)
      | (with_reducible exact ih1 _ _ _)
      | (with_reducible exact LeO.refl _)
      | (with_reducible exact LeO.none _)
      | (with_reducible refine LeO.ite ?_ ?_)
      | (with_reducible refine LeO.bind ?_ (fun _ => ?_))
      | exact ih0 _ _ _
      | exact ih1 _ _ _
      | exact LeO.none _
      | refine LeO.ite ?_ ?_
      | refine LeO.bind ?_ (fun _ => ?_)
theorem spec_scEmpty.mono : ∀ a0 a1 k, LeO (spec_scEmpty.f k a0 a1) (spec_scEmpty.f (k + 1) a0 a1) := by
  intro a0 a1 k
  obtain ⟨ih0, ih1⟩ := spec_scEmpty.mono_l k
  unfold spec_scEmpty.f
  repeat' first
      | (with_reducible exact ih0 _ _ _)
      | (with_reducible exact ih1 _ _ _)
      | (with_reducible exact LeO.refl _)
      | (with_reducible exact LeO.none _)
      | (with_reducible refine LeO.ite ?_ ?_)
      | (with_reducible refine LeO.bind ?_ (fun _ => ?_))
      | exact ih0 _ _ _
      | exact ih1 _ _ _
      | exact LeO.none _
      | refine LeO.ite ?_ ?_
      | refine LeO.bind ?_ (fun _ => ?_)
set_option maxHeartbeats 8000000 in
set_option maxRecDepth 100000 in
theorem spec_scEmpty.calls (k : Nat) (A0 : Option Addr) (c0 : Nat) (l0 : List Int) (a1 : Int) (r1 : Int) (r2 : Int) (r3 : Bool) (w : World) (hr0 : Kd.C (Kd.int .i32) w A0 l0.length l0) (hc0 : l0.length ≤ c0) (h : spec_scEmpty.f k l0 a1 = some (r1, r2, r3)) :
    Calls Tryd.prog 13 #[.slice A0 l0.length c0, .int .i64 a1] w fun e w' => e = .returned (.tuple #[.int .i64 r1, .int .i64 r2, .bool r3]) ∧ Drawn0 w w' := by
  have HR0 := Aside0.mk hr0
  have HC0 := Aside0.mk hc0
  clear hr0 hc0
  have H : (spec_scEmpty.l0 k l0 a1 0) = some (r1, r2, r3) := h
  clear h
  have H' := Aside0.mk H
  clear H
  go_enter Tryd.func13, Tryd.ntmps13
  go_wp2
  go_loopg [1, 4] k (fun kq v1 v4 w' => ∃ (x1_1 : Int) (x4_1 : Int), v1 = .int .i64 x1_1 ∧ v4 = .int .i64 x4_1 ∧ Aside0 (spec_scEmpty.l0 kq l0 x1_1 x4_1 = some (r1, r2, r3)) ∧ Aside0 (kq ≤ k) ∧ Drawn0 w w')
  case atStart => exact ⟨(a1), (0), (by first | rfl | (simp; done) | (simp [*]; done)), (by first | rfl | (simp; done) | (simp [*]; done)), H', ⟨Nat.le_refl _⟩, by repeat (first | exact Drawn0.refl _ | apply Drawn0.step)⟩
  case round =>
    clear H'
    try clear c1
    try clear p2
    obtain ⟨x1_1, x4_1, rfl, rfl, HA, HK1, ⟨m1, rfl⟩⟩ := hrel
    cases gk with
    | zero => exact absurd HA.out (by simp [spec_scEmpty.l0])
    | succ k1 =>
      have H := HA.out
      clear HA
      simp only [spec_scEmpty.l0] at H
      replace H := Option.bind_eq_some_iff.mp H
      obtain ⟨t126, A30, H⟩ := H
      replace H : (if t126 = true then (some (0, 0, false)) else (spec_scEmpty.l1 k1 l0 x1_1 x4_1)) = some (r1, r2, r3) := H
      have A3 := Aside0.mk A30
      clear A30
      by_cases c4 : t126 = true
      · subst c4
        have H1 : (some (0, 0, false)) = some (r1, r2, r3) := by rw [if_pos rfl] at H; exact H
        clear H
        have H := H1
        clear H1
        simp only [Option.some.injEq, Prod.mk.injEq] at H
        obtain ⟨rfl, rfl, rfl⟩ := H
        go_wp2_with (first | ((go_at_call 22); (with_reducible refine (spec_scMarkerAt.calls _ _ l0 x1_1 true _ ?side1 ?side2 A3.out).mono ?_); (case side1 => repeat (first | exact HR0.out | (with_reducible refine Kd.C_alloc ?_ _) | (with_reducible refine Kd.C_drewN ?_ _) | (with_reducible refine Kd.C_drew ?_))); (case side2 => exact HC0.out); rintro e w' ⟨rfl, ⟨nd, rfl⟩⟩))
        go_ret3
        exact ⟨by first | rfl | (simp; done) | (simp [*]; done), by repeat (first | exact Drawn0.refl _ | apply Drawn0.step)⟩
      · replace c4 := Bool.eq_false_iff.mpr c4
        subst c4
        have H1 : (spec_scEmpty.l1 k1 l0 x1_1 x4_1) = some (r1, r2, r3) := by rw [if_neg (show ¬ (false = true) by decide)] at H; exact H
        clear H
        have H := H1
        clear H1
        have H' := Aside0.mk H
        clear H
        go_wp2_with (first | ((go_at_call 22); (with_reducible refine (spec_scMarkerAt.calls _ _ l0 x1_1 false _ ?side1 ?side2 A3.out).mono ?_); (case side1 => repeat (first | exact HR0.out | (with_reducible refine Kd.C_alloc ?_ _) | (with_reducible refine Kd.C_drewN ?_ _) | (with_reducible refine Kd.C_drew ?_))); (case side2 => exact HC0.out); rintro e w' ⟨rfl, ⟨nd, rfl⟩⟩))
        go_loopg [1] k1 (fun kq v1 w' => ∃ (x1_2 : Int), v1 = .int .i64 x1_2 ∧ Aside0 (spec_scEmpty.l1 kq l0 x1_2 x4_1 = some (r1, r2, r3)) ∧ Aside0 (kq ≤ k1) ∧ Drawn0 w w')
        case atStart => exact ⟨(x1_1), (by first | rfl | (simp; done) | (simp [*]; done)), H', ⟨Nat.le_refl _⟩, by repeat (first | exact Drawn0.refl _ | apply Drawn0.step)⟩
        case round =>
          clear H'
          try clear c1
          try clear c2
          try clear p2
          try clear c4
          try clear p2
          obtain ⟨x1_2, rfl, HA, HK2, ⟨m2, rfl⟩⟩ := hrel
          cases gk with
          | zero => exact absurd HA.out (by simp [spec_scEmpty.l1])
          | succ k2 =>
            have H := HA.out
            clear HA
            simp only [spec_scEmpty.l1] at H
            by_cases c5 : x1_2 < (l0.length : Int)
            · rw [if_pos c5] at H
              have c5b0 : decide (x1_2 < (l0.length : Int)) = true := decide_eq_true c5
              clear c5
              by_cases c6 : 0 ≤ x1_2
              · rw [if_pos c6] at H
                have c6b0 : decide (0 ≤ x1_2) = true := decide_eq_true c6
                clear c6
                replace H := Option.bind_eq_some_iff.mp H
                obtain ⟨t128, A70, H⟩ := H
                replace H : (if t128 = true then (spec_scEmpty.l1 k2 l0 (wrap64 (x1_2 + 1)) x4_1) else (if x1_2 = (l0.length : Int) then (some (x4_1, x1_2, true)) else (if (rd l0 x1_2) = 10 then (spec_scEmpty.l0 k2 l0 (wrap64 (x1_2 + 1)) (wrap64 (x4_1 + 1))) else (some (x4_1, x1_2, true))))) = some (r1, r2, r3) := H
                have A7 := Aside0.mk A70
                clear A70
                by_cases c8 : t128 = true
                · subst c8
                  have H1 : (spec_scEmpty.l1 k2 l0 (wrap64 (x1_2 + 1)) x4_1) = some (r1, r2, r3) := by rw [if_pos rfl] at H; exact H
                  clear H
                  have H := H1
                  clear H1
                  have H' := Aside0.mk H
                  clear H
                  have p127 : 0 ≤ (x1_2 : Int) := of_decide_eq_true (by first | (with_reducible assumption) | assumption)
                  have q127 : x1_2 < (l0.length : Int) := of_decide_eq_true (by first | (with_reducible assumption) | assumption)
                  obtain ⟨ad127, e127, hx127_0⟩ := Kd.at_int HR0.out x1_2 p127 q127
                  cases e127
                  replace p127 := eq_true p127
                  replace q127 := eq_true q127
                  go_wp2_with (first | (go_at_call 17; (with_reducible refine (spec_scWhite.calls (rd l0 x1_2) true _ A7.out).mono ?_); rintro e w' ⟨rfl, ⟨nd, rfl⟩⟩))
                  go_roundg k2
                  case measure => have := HK1.out; have := HK2.out; omega
                  case rel => exact ⟨(wrap64 (x1_2 + 1)), (by first | rfl | (simp; done) | (simp [*]; done)), H', ⟨by have := HK1.out; have := HK2.out; omega⟩, by repeat (first | exact Drawn0.refl _ | apply Drawn0.step)⟩
                · replace c8 := Bool.eq_false_iff.mpr c8
                  subst c8
                  have H1 : (if x1_2 = (l0.length : Int) then (some (x4_1, x1_2, true)) else (if (rd l0 x1_2) = 10 then (spec_scEmpty.l0 k2 l0 (wrap64 (x1_2 + 1)) (wrap64 (x4_1 + 1))) else (some (x4_1, x1_2, true)))) = some (r1, r2, r3) := by rw [if_neg (show ¬ (false = true) by decide)] at H; exact H
                  clear H
                  have H := H1
                  clear H1
                  by_cases c9 : x1_2 = (l0.length : Int)
                  · rw [if_pos c9] at H
                    have c9b0 : (x1_2 == (l0.length : Int)) = true := beq_iff_eq.mpr c9
                    have c9b1 : (x1_2 != (l0.length : Int)) = false := bne_eq_false_iff_eq.mpr c9
                    clear c9
                    simp only [Option.some.injEq, Prod.mk.injEq] at H
                    obtain ⟨rfl, rfl, rfl⟩ := H
                    have p127 : 0 ≤ (x1_2 : Int) := of_decide_eq_true (by first | (with_reducible assumption) | assumption)
                    have q127 : x1_2 < (l0.length : Int) := of_decide_eq_true (by first | (with_reducible assumption) | assumption)
                    obtain ⟨ad127, e127, hx127_0⟩ := Kd.at_int HR0.out x1_2 p127 q127
                    cases e127
                    replace p127 := eq_true p127
                    replace q127 := eq_true q127
                    go_wp2_with (first | (go_at_call 17; (with_reducible refine (spec_scWhite.calls (rd l0 x1_2) false _ A7.out).mono ?_); rintro e w' ⟨rfl, ⟨nd, rfl⟩⟩))
                    go_ret3
                    exact ⟨by first | rfl | (simp; done) | (simp [*]; done), by repeat (first | exact Drawn0.refl _ | apply Drawn0.step)⟩
                  · rw [if_neg c9] at H
                    have c9b0 : (x1_2 == (l0.length : Int)) = false := beq_eq_false_iff_ne.mpr c9
                    have c9b1 : (x1_2 != (l0.length : Int)) = true := bne_iff_ne.mpr c9
                    by_cases c10 : (rd l0 x1_2) = 10
                    · rw [if_pos c10] at H
                      have c10b0 : ((rd l0 x1_2) == 10) = true := beq_iff_eq.mpr c10
                      have c10b1 : ((rd l0 x1_2) != 10) = false := bne_eq_false_iff_eq.mpr c10
                      clear c10
                      have H' := Aside0.mk H
                      clear H
                      have p127 : 0 ≤ (x1_2 : Int) := of_decide_eq_true (by first | (with_reducible assumption) | assumption)
                      have q127 : x1_2 < (l0.length : Int) := of_decide_eq_true (by first | (with_reducible assumption) | assumption)
                      obtain ⟨ad127, e127, hx127_0⟩ := Kd.at_int HR0.out x1_2 p127 q127
                      cases e127
                      replace p127 := eq_true p127
                      replace q127 := eq_true q127
                      go_wp2_with (first | (go_at_call 17; (with_reducible refine (spec_scWhite.calls (rd l0 x1_2) false _ A7.out).mono ?_); rintro e w' ⟨rfl, ⟨nd, rfl⟩⟩; have p129 : 0 ≤ (x1_2 : Int) := of_decide_eq_true (by first | (with_reducible assumption) | assumption); have q129 : x1_2 < (l0.length : Int) := of_decide_eq_true (by first | (with_reducible assumption) | assumption); obtain ⟨ad129, e129, hx129_0⟩ := Kd.at_int HR0.out x1_2 p129 q129; obtain rfl : ad127 = ad129 := (by injection e129); replace p129 := eq_true p129; replace q129 := eq_true q129))
                      go_roundg k2
                      case measure => have := HK1.out; have := HK2.out; omega
                      case rel => exact ⟨(wrap64 (x1_2 + 1)), (wrap64 (x4_1 + 1)), (by first | rfl | (simp; done) | (simp [*]; done)), (by first | rfl | (simp; done) | (simp [*]; done)), H', ⟨by have := HK1.out; have := HK2.out; omega⟩, by repeat (first | exact Drawn0.refl _ | apply Drawn0.step)⟩
                    · rw [if_neg c10] at H
                      have c10b0 : ((rd l0 x1_2) == 10) = false := beq_eq_false_iff_ne.mpr c10
                      have c10b1 : ((rd l0 x1_2) != 10) = true := bne_iff_ne.mpr c10
                      simp only [Option.some.injEq, Prod.mk.injEq] at H
                      obtain ⟨rfl, rfl, rfl⟩ := H
                      have p127 : 0 ≤ (x1_2 : Int) := of_decide_eq_true (by first | (with_reducible assumption) | assumption)
                      have q127 : x1_2 < (l0.length : Int) := of_decide_eq_true (by first | (with_reducible assumption) | assumption)
                      obtain ⟨ad127, e127, hx127_0⟩ := Kd.at_int HR0.out x1_2 p127 q127
                      cases e127
                      replace p127 := eq_true p127
                      replace q127 := eq_true q127
                      go_wp2_with (first | (go_at_call 17; (with_reducible refine (spec_scWhite.calls (rd l0 x1_2) false _ A7.out).mono ?_); rintro e w' ⟨rfl, ⟨nd, rfl⟩⟩; have p129 : 0 ≤ (x1_2 : Int) := of_decide_eq_true (by first | (with_reducible assumption) | assumption); have q129 : x1_2 < (l0.length : Int) := of_decide_eq_true (by first | (with_reducible assumption) | assumption); obtain ⟨ad129, e129, hx129_0⟩ := Kd.at_int HR0.out x1_2 p129 q129; obtain rfl : ad127 = ad129 := (by injection e129); replace p129 := eq_true p129; replace q129 := eq_true q129))
                      go_ret3
                      exact ⟨by first | rfl | (simp; done) | (simp [*]; done), by repeat (first | exact Drawn0.refl _ | apply Drawn0.step)⟩
              · rw [if_neg c6] at H
                exact absurd H (by simp)
            · rw [if_neg c5] at H
              have c5b0 : decide (x1_2 < (l0.length : Int)) = false := decide_eq_false c5
              clear c5
              by_cases c11 : x1_2 = (l0.length : Int)
              · rw [if_pos c11] at H
                have c11b0 : (x1_2 == (l0.length : Int)) = true := beq_iff_eq.mpr c11
                have c11b1 : (x1_2 != (l0.length : Int)) = false := bne_eq_false_iff_eq.mpr c11
                clear c11
                simp only [Option.some.injEq, Prod.mk.injEq] at H
                obtain ⟨rfl, rfl, rfl⟩ := H
                go_wp2
                go_ret3
                exact ⟨by first | rfl | (simp; done) | (simp [*]; done), by repeat (first | exact Drawn0.refl _ | apply Drawn0.step)⟩
              · rw [if_neg c11] at H
                have c11b0 : (x1_2 == (l0.length : Int)) = false := beq_eq_false_iff_ne.mpr c11
                have c11b1 : (x1_2 != (l0.length : Int)) = true := bne_iff_ne.mpr c11
                by_cases c12 : 0 ≤ x1_2
                · rw [if_pos c12] at H
                  exact absurd H (by simp)
                · rw [if_neg c12] at H
                  exact absurd H (by simp)

end Go.Proofs.YtgglhfbjbddjjaaDoor.LEmpty
