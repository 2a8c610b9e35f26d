-- PRINTED BY print.sh 35421559b90ae4d0a3588c463048766b98c2df88dd9212a6774a882060cdf62d: not written by this session
import Derived.Test.YtgglhfbjbddjjaaDoorPFnPartLinesx0
namespace Go.Proofs.YtgglhfbjbddjjaaDoor.PFnPartLines
open Go.RowKit Go.Proofs.YtgglhfbjbddjjaaDoorW.PrintWords Go.Proofs.YtgglhfbjbddjjaaDoorW.PrintLast Go.Proofs.YtgglhfbjbddjjaaDoorW.PrintMore
attribute [local go_sem] max2_int min2_int max_two min_two max_three min_three max_four min_four   -- for this text's walks alone
set_option linter.unusedVariables false
set_option linter.unusedSimpArgs false

/-! ### spec_Has: function 4 -/
mutual
def spec_Has.l0 : Nat → ByteArray → ByteArray → Int → Option (Bool)
  | 0, _, _, _ => none
  | k + 1, x0, x1, x5 => if x5 < (x0.size : Int) then (spec_Has.l1 k x0 x1 x5 0) else (some false)
def spec_Has.l1 : Nat → ByteArray → ByteArray → Int → Int → Option (Bool)
  | 0, _, _, _, _ => none
  | k + 1, x0, x1, x5, x6 => if x6 < (x1.size : Int) then (if 0 ≤ x5 then (if x5 < (x0.size : Int) then (if 0 ≤ x6 then (if (bt x0 x5) = (bt x1 x6) then (some true) else (spec_Has.l1 k x0 x1 x5 (wrap64 (x6 + 1)))) else (none)) else (none)) else (none)) else (spec_Has.l0 k x0 x1 (wrap64 (x5 + 1)))
end
def spec_Has.f (k : Nat) (a0 : ByteArray) (a1 : ByteArray) : Option (Bool) := spec_Has.l0 k a0 a1 0
theorem spec_Has.mono_l : ∀ k, (∀ y0 y1 y2, LeO (spec_Has.l0 k y0 y1 y2) (spec_Has.l0 (k + 1) y0 y1 y2)) ∧ (∀ y0 y1 y2 y3, LeO (spec_Has.l1 k y0 y1 y2 y3) (spec_Has.l1 (k + 1) y0 y1 y2 y3))
  | 0 => ⟨fun _ _ _ r h => by simp [spec_Has.l0] at h, fun _ _ _ _ r h => by simp [spec_Has.l1] at h⟩
  | k + 1 => by
    obtain ⟨ih0, ih1⟩ := spec_Has.mono_l k
    refine ⟨?_, ?_⟩
    · intro y0 y1 y2
      unfold spec_Has.l0
      repeat' first
      | (with_reducible exact ih0 _ _ _)
      | (with_reducible exact ih1 _ _ _ _)
      | (with_reducible exact LeO.refl _)
      | (with_reducible exact LeO.none _)
      | (with_reducible refine LeO.ite ?_ ?_)
      | (with_reducible refine LeO.bind ?_ (fun _ => ?_))
      | exact ih0 _ _ _
      | exact ih1 _ _ _ _
      | exact LeO.none _
      | refine LeO.ite ?_ ?_
      | refine LeO.bind ?_ (fun _ => ?_)
    · intro y0 y1 y2 y3
      unfold spec_Has.l1
      repeat' first
      | (with_reducible exact ih0 _ _ _)
      | (with_reducible exact ih1 _ _ _ _)
      | (with_reducible exact LeO.refl _)
      | (with_reducible exact LeO.none _)
      | (with_reducible refine LeO.ite ?_ ?_)
      | (with_reducible refine LeO.bind ?_ (fun _ => ?_))
      | exact ih0 _ _ _
      | exact ih1 _ _ _ _
      | exact LeO.none _
      | refine LeO.ite ?_ ?_
      | refine LeO.bind ?_ (fun _ => ?_)
theorem spec_Has.mono : ∀ a0 a1 k, LeO (spec_Has.f k a0 a1) (spec_Has.f (k + 1) a0 a1) := by
  intro a0 a1 k
  obtain ⟨ih0, ih1⟩ := spec_Has.mono_l k
  unfold spec_Has.f
  repeat' first
      | (with_reducible exact ih0 _ _ _)
      | (with_reducible exact ih1 _ _ _ _)
      | (with_reducible exact LeO.refl _)
      | (with_reducible exact LeO.none _)
      | (with_reducible refine LeO.ite ?_ ?_)
      | (with_reducible refine LeO.bind ?_ (fun _ => ?_))
      | exact ih0 _ _ _
      | exact ih1 _ _ _ _
      | exact LeO.none _
      | refine LeO.ite ?_ ?_
      | refine LeO.bind ?_ (fun _ => ?_)
set_option maxHeartbeats 8000000 in
set_option maxRecDepth 100000 in
theorem spec_Has.calls (k : Nat) (a0 : ByteArray) (a1 : ByteArray) (r : Bool) (w : World) (h : spec_Has.f k a0 a1 = some r) :
    Calls Tryd.prog 4 #[.string a0, .string a1] w fun e w' => e = .returned (.bool r) ∧ Drawn0 w w' := by
  have H : (spec_Has.l0 k a0 a1 0) = some r := h
  clear h
  have H' := Aside0.mk H
  clear H
  go_enter Tryd.func4, Tryd.ntmps4
  go_wp2
  repeat (go_quiet (fail); try go_wp2)
  go_loopg [5] k (fun kq v5 w' => ∃ (x5_1 : Int), v5 = .int .i64 x5_1 ∧ Aside0 (spec_Has.l0 kq a0 a1 x5_1 = some r) ∧ Aside0 (kq ≤ k) ∧ Drawn0 w w')
  case atStart => exact ⟨(0), (by first | rfl | (simp; done) | (simp [*]; done)), H', ⟨Nat.le_refl _⟩, by repeat (first | exact Drawn0.refl _ | apply Drawn0.step)⟩
  case round =>
    clear H'
    try clear p2
    obtain ⟨x5_1, rfl, HA, HK1, ⟨m1, rfl⟩⟩ := hrel
    cases gk with
    | zero => exact absurd HA.out (by simp [spec_Has.l0])
    | succ k1 =>
      have H := HA.out
      clear HA
      simp only [spec_Has.l0] at H
      by_cases c3 : x5_1 < (a0.size : Int)
      · rw [if_pos c3] at H
        have c3b0 : decide (x5_1 < (a0.size : Int)) = true := decide_eq_true c3
        clear c3
        have H' := Aside0.mk H
        clear H
        go_wp2
        repeat (go_quiet (fail); try go_wp2)
        go_loopg [6] k1 (fun kq v6 w' => ∃ (x6_2 : Int), v6 = .int .i64 x6_2 ∧ Aside0 (spec_Has.l1 kq a0 a1 x5_1 x6_2 = some r) ∧ Aside0 (kq ≤ k1) ∧ Drawn0 w w')
        case atStart => exact ⟨(0), (by first | rfl | (simp; done) | (simp [*]; done)), H', ⟨Nat.le_refl _⟩, by repeat (first | exact Drawn0.refl _ | apply Drawn0.step)⟩
        case round =>
          clear H'
          try clear p2
          try clear c3
          try clear c3b0
          try clear p2
          obtain ⟨x6_2, rfl, HA, HK2, ⟨m2, rfl⟩⟩ := hrel
          cases gk with
          | zero => exact absurd HA.out (by simp [spec_Has.l1])
          | succ k2 =>
            have H := HA.out
            clear HA
            simp only [spec_Has.l1] at H
            by_cases c4 : x6_2 < (a1.size : Int)
            · rw [if_pos c4] at H
              have c4b0 : decide (x6_2 < (a1.size : Int)) = true := decide_eq_true c4
              clear c4
              by_cases c5 : 0 ≤ x5_1
              · rw [if_pos c5] at H
                have c5b0 : decide (0 ≤ x5_1) = true := decide_eq_true c5
                clear c5
                by_cases c6 : x5_1 < (a0.size : Int)
                · rw [if_pos c6] at H
                  have c6b0 : decide (x5_1 < (a0.size : Int)) = true := decide_eq_true c6
                  clear c6
                  by_cases c8 : 0 ≤ x6_2
                  · rw [if_pos c8] at H
                    have c8b0 : decide (0 ≤ x6_2) = true := decide_eq_true c8
                    clear c8
                    by_cases c10 : (bt a0 x5_1) = (bt a1 x6_2)
                    · rw [if_pos c10] at H
                      have c10b0 : ((bt a0 x5_1) == (bt a1 x6_2)) = true := beq_iff_eq.mpr c10
                      have c10b1 : ((bt a0 x5_1) != (bt a1 x6_2)) = false := bne_eq_false_iff_eq.mpr c10
                      clear c10
                      obtain rfl := Option.some.inj H
                      have p7 : 0 ≤ (x5_1 : Int) := of_decide_eq_true (by first | (with_reducible assumption) | assumption)
                      have q7 : x5_1 < (a0.size : Int) := of_decide_eq_true (by first | (with_reducible assumption) | assumption)
                      have hx7 := bt_at a0 x5_1
                      replace p7 := eq_true p7
                      replace q7 := eq_true q7
                      have p9 : 0 ≤ (x6_2 : Int) := of_decide_eq_true (by first | (with_reducible assumption) | assumption)
                      have q9 : x6_2 < (a1.size : Int) := of_decide_eq_true (by first | (with_reducible assumption) | assumption)
                      have hx9 := bt_at a1 x6_2
                      replace p9 := eq_true p9
                      replace q9 := eq_true q9
                      go_wp2
                      repeat (go_quiet (fail); try go_wp2)
                      go_ret
                      exact ⟨by first | rfl | (simp; done) | (simp [*]; done), by repeat (first | exact Drawn0.refl _ | apply Drawn0.step)⟩
                    · rw [if_neg c10] at H
                      have c10b0 : ((bt a0 x5_1) == (bt a1 x6_2)) = false := beq_eq_false_iff_ne.mpr c10
                      have c10b1 : ((bt a0 x5_1) != (bt a1 x6_2)) = true := bne_iff_ne.mpr c10
                      have H' := Aside0.mk H
                      clear H
                      have p7 : 0 ≤ (x5_1 : Int) := of_decide_eq_true (by first | (with_reducible assumption) | assumption)
                      have q7 : x5_1 < (a0.size : Int) := of_decide_eq_true (by first | (with_reducible assumption) | assumption)
                      have hx7 := bt_at a0 x5_1
                      replace p7 := eq_true p7
                      replace q7 := eq_true q7
                      have p9 : 0 ≤ (x6_2 : Int) := of_decide_eq_true (by first | (with_reducible assumption) | assumption)
                      have q9 : x6_2 < (a1.size : Int) := of_decide_eq_true (by first | (with_reducible assumption) | assumption)
                      have hx9 := bt_at a1 x6_2
                      replace p9 := eq_true p9
                      replace q9 := eq_true q9
                      go_wp2
                      repeat (go_quiet (fail); try go_wp2)
                      go_roundg k2
                      case measure => have := HK1.out; have := HK2.out; omega
                      case rel => exact ⟨(wrap64 (x6_2 + 1)), (by first | rfl | (simp; done) | (simp [*]; done)), H', ⟨by have := HK1.out; have := HK2.out; omega⟩, by repeat (first | exact Drawn0.refl _ | apply Drawn0.step)⟩
                  · rw [if_neg c8] at H
                    exact absurd H (by simp)
                · rw [if_neg c6] at H
                  exact absurd H (by simp)
              · rw [if_neg c5] at H
                exact absurd H (by simp)
            · rw [if_neg c4] at H
              have c4b0 : decide (x6_2 < (a1.size : Int)) = false := decide_eq_false c4
              clear c4
              have H' := Aside0.mk H
              clear H
              go_wp2
              repeat (go_quiet (fail); try go_wp2)
              go_roundg k2
              case measure => have := HK1.out; have := HK2.out; omega
              case rel => exact ⟨(wrap64 (x5_1 + 1)), (by first | rfl | (simp; done) | (simp [*]; done)), H', ⟨by have := HK1.out; have := HK2.out; omega⟩, by repeat (first | exact Drawn0.refl _ | apply Drawn0.step)⟩
      · rw [if_neg c3] at H
        have c3b0 : decide (x5_1 < (a0.size : Int)) = false := decide_eq_false c3
        clear c3
        obtain rfl := Option.some.inj H
        go_wp2
        repeat (go_quiet (fail); try go_wp2)
        go_ret
        exact ⟨by first | rfl | (simp; done) | (simp [*]; done), by repeat (first | exact Drawn0.refl _ | apply Drawn0.step)⟩

/-! ### spec_Tidy: function 5 -/
mutual
def spec_Tidy.l0 : Nat → ByteArray → Int → Option (Bool)
  | 0, _, _ => none
  | k + 1, x0, x3 => if x3 < (x0.size : Int) then (if x3 > 1 then (if 0 ≤ x3 then (if (bt x0 x3) = 10 then (if 0 ≤ (wrap64 (x3 - 1)) then (if (wrap64 (x3 - 1)) < (x0.size : Int) then (if (bt x0 (wrap64 (x3 - 1))) = 10 then (if 0 ≤ (wrap64 (x3 - 2)) then (if (wrap64 (x3 - 2)) < (x0.size : Int) then (spec_Tidy.j1 k x0 x3 ((bt x0 (wrap64 (x3 - 2))) == 92)) else (none)) else (none)) else (spec_Tidy.j1 k x0 x3 false)) else (none)) else (none)) else (spec_Tidy.j1 k x0 x3 false)) else (none)) else (spec_Tidy.j1 k x0 x3 false)) else (some true)
def spec_Tidy.j1 : Nat → ByteArray → Int → Bool → Option (Bool)
  | 0, _, _, _ => none
  | k + 1, x0, x3, x31 => if x31 = true then (some false) else (if 0 ≤ x3 then (if x3 < (x0.size : Int) then (if (bt x0 x3) = 9 then (some false) else (if (bt x0 x3) = 32 then (if (wrap64 (x3 + 1)) = (x0.size : Int) then (some false) else (if 0 ≤ (wrap64 (x3 + 1)) then (if (wrap64 (x3 + 1)) < (x0.size : Int) then (if (bt x0 (wrap64 (x3 + 1))) = 10 then (some false) else (if x3 > 0 then (if 0 ≤ (wrap64 (x3 - 1)) then (if (wrap64 (x3 - 1)) < (x0.size : Int) then (if (bt x0 (wrap64 (x3 - 1))) = 92 then (some false) else (spec_Tidy.l0 k x0 (wrap64 (x3 + 1)))) else (none)) else (none)) else (spec_Tidy.l0 k x0 (wrap64 (x3 + 1))))) else (none)) else (none))) else (spec_Tidy.l0 k x0 (wrap64 (x3 + 1))))) else (none)) else (none))
end
def spec_Tidy.f (k : Nat) (a0 : ByteArray) : Option (Bool) := spec_Tidy.l0 k a0 0
theorem spec_Tidy.mono_l : ∀ k, (∀ y0 y1, LeO (spec_Tidy.l0 k y0 y1) (spec_Tidy.l0 (k + 1) y0 y1)) ∧ (∀ y0 y1 y2, LeO (spec_Tidy.j1 k y0 y1 y2) (spec_Tidy.j1 (k + 1) y0 y1 y2))
  | 0 => ⟨fun _ _ r h => by simp [spec_Tidy.l0] at h, fun _ _ _ r h => by simp [spec_Tidy.j1] at h⟩
  | k + 1 => by
    obtain ⟨ih0, ih1⟩ := spec_Tidy.mono_l k
    refine ⟨?_, ?_⟩
    · intro y0 y1
      unfold spec_Tidy.l0
      repeat' first
      | (with_reducible exact ih0 _ _)
      | (with_reducible exact ih1 _ _ _)
      | (with_reducible exact LeO.refl _)
      | (with_reducible exact LeO.none _)
      | (with_reducible refine LeO.ite ?_ ?_)
      | (with_reducible refine LeO.bind ?_ (fun _ => ?_))
      | exact ih0 _ _
      | exact ih1 _ _ _
      | exact LeO.none _
      | refine LeO.ite ?_ ?_
      | refine LeO.bind ?_ (fun _ => ?_)
    · intro y0 y1 y2
      unfold spec_Tidy.j1
      repeat' first
      | (with_reducible exact ih0 _ _)
      | (with_reducible exact ih1 _ _ _)
      | (with_reducible exact LeO.refl _)
      | (with_reducible exact LeO.none _)
      | (with_reducible refine LeO.ite ?_ ?_)
      | (with_reducible refine LeO.bind ?_ (fun _ => ?_))
      | exact ih0 _ _
      | exact ih1 _ _ _
      | exact LeO.none _
      | refine LeO.ite ?_ ?_
      | refine LeO.bind ?_ (fun _ => ?_)
theorem spec_Tidy.mono : ∀ a0 k, LeO (spec_Tidy.f k a0) (spec_Tidy.f (k + 1) a0) := by
  intro a0 k
  obtain ⟨ih0, ih1⟩ := spec_Tidy.mono_l k
  unfold spec_Tidy.f
  repeat' first
      | (with_reducible exact ih0 _ _)
      | (with_reducible exact ih1 _ _ _)
      | (with_reducible exact LeO.refl _)
      | (with_reducible exact LeO.none _)
      | (with_reducible refine LeO.ite ?_ ?_)
      | (with_reducible refine LeO.bind ?_ (fun _ => ?_))
      | exact ih0 _ _
      | exact ih1 _ _ _
      | exact LeO.none _
      | refine LeO.ite ?_ ?_
      | refine LeO.bind ?_ (fun _ => ?_)
set_option maxHeartbeats 8000000 in
set_option maxRecDepth 100000 in
theorem spec_Tidy.calls (k : Nat) (a0 : ByteArray) (r : Bool) (w : World) (h : spec_Tidy.f k a0 = some r) :
    Calls Tryd.prog 5 #[.string a0] w fun e w' => e = .returned (.bool r) ∧ Drawn0 w w' := by
  have H : (spec_Tidy.l0 k a0 0) = some r := h
  clear h
  have H' := Aside0.mk H
  clear H
  go_enter Tryd.func5, Tryd.ntmps5
  go_wp2
  go_loopg [3] k (fun kq v3 w' => ∃ (x3_1 : Int), v3 = .int .i64 x3_1 ∧ Aside0 (spec_Tidy.l0 kq a0 x3_1 = some r) ∧ Aside0 (kq ≤ k) ∧ Drawn0 w w')
  case atStart => exact ⟨(0), (by first | rfl | (simp; done) | (simp [*]; done)), H', ⟨Nat.le_refl _⟩, by repeat (first | exact Drawn0.refl _ | apply Drawn0.step)⟩
  case round =>
    clear H'
    obtain ⟨x3_1, rfl, HA, HK1, ⟨m1, rfl⟩⟩ := hrel
    cases gk with
    | zero => exact absurd HA.out (by simp [spec_Tidy.l0])
    | succ k1 =>
      have H := HA.out
      clear HA
      simp only [spec_Tidy.l0] at H
      by_cases c2 : x3_1 < (a0.size : Int)
      · rw [if_pos c2] at H
        have c2b0 : decide (x3_1 < (a0.size : Int)) = true := decide_eq_true c2
        clear c2
        have HC3 := Aside0.mk H
        clear H
        go_upto_region 4 with (fail)
        go_cut [31] (fun v31 wc => ∃ (kq : Nat) (x31_2 : Bool), v31 = .bool x31_2 ∧ Aside0 (spec_Tidy.j1 kq a0 x3_1 x31_2 = some r) ∧ Aside0 (kq ≤ k1) ∧ Drawn0 w wc)
        case first =>
          have H := HC3.out
          clear HC3
          by_cases c4 : x3_1 > 1
          · rw [if_pos c4] at H
            have c4b0 : decide (1 < x3_1) = true := decide_eq_true c4
            clear c4
            (first | rw [c4b0] | (simp only [i64_w, i32_w]; rw [c4b0]) | skip)
            by_cases c5 : 0 ≤ x3_1
            · rw [if_pos c5] at H
              have c5b0 : decide (0 ≤ x3_1) = true := decide_eq_true c5
              clear c5
              by_cases c7 : (bt a0 x3_1) = 10
              · rw [if_pos c7] at H
                have c7b0 : ((bt a0 x3_1) == 10) = true := beq_iff_eq.mpr c7
                have c7b1 : ((bt a0 x3_1) != 10) = false := bne_eq_false_iff_eq.mpr c7
                clear c7
                obtain ⟨ji8, hji8⟩ : ∃ j_ : Int, (wrap64 (x3_1 - 1)) = j_ := ⟨_, rfl⟩
                replace H : (if 0 ≤ (ji8) then (if (ji8) < (a0.size : Int) then (if (bt a0 (ji8)) = 10 then (if 0 ≤ (wrap64 (x3_1 - 2)) then (if (wrap64 (x3_1 - 2)) < (a0.size : Int) then (spec_Tidy.j1 k1 a0 x3_1 ((bt a0 (wrap64 (x3_1 - 2))) == 92)) else (none)) else (none)) else (spec_Tidy.j1 k1 a0 x3_1 false)) else (none)) else (none)) = some r := by first | (rw [hji8] at H; exact H) | (simp only [hji8] at H ⊢; exact H)
                have hji8w : (IntKind.i64.wrap (x3_1 - 1)) = ji8 := (i64_w _).trans hji8
                by_cases c9 : 0 ≤ (ji8)
                · rw [if_pos c9] at H
                  have c9b0 : decide (0 ≤ (ji8)) = true := decide_eq_true c9
                  clear c9
                  by_cases c10 : (ji8) < (a0.size : Int)
                  · rw [if_pos c10] at H
                    have c10b0 : decide ((ji8) < (a0.size : Int)) = true := decide_eq_true c10
                    clear c10
                    by_cases c12 : (bt a0 (ji8)) = 10
                    · rw [if_pos c12] at H
                      have c12b0 : ((bt a0 (ji8)) == 10) = true := beq_iff_eq.mpr c12
                      have c12b1 : ((bt a0 (ji8)) != 10) = false := bne_eq_false_iff_eq.mpr c12
                      clear c12
                      obtain ⟨ji13, hji13⟩ : ∃ j_ : Int, (wrap64 (x3_1 - 2)) = j_ := ⟨_, rfl⟩
                      replace H : (if 0 ≤ (ji13) then (if (ji13) < (a0.size : Int) then (spec_Tidy.j1 k1 a0 x3_1 ((bt a0 (ji13)) == 92)) else (none)) else (none)) = some r := by first | (rw [hji13] at H; exact H) | (simp only [hji13] at H ⊢; exact H)
                      have hji13w : (IntKind.i64.wrap (x3_1 - 2)) = ji13 := (i64_w _).trans hji13
                      by_cases c14 : 0 ≤ (ji13)
                      · rw [if_pos c14] at H
                        have c14b0 : decide (0 ≤ (ji13)) = true := decide_eq_true c14
                        clear c14
                        by_cases c15 : (ji13) < (a0.size : Int)
                        · rw [if_pos c15] at H
                          have c15b0 : decide ((ji13) < (a0.size : Int)) = true := decide_eq_true c15
                          clear c15
                          have H' := Aside0.mk H
                          clear H
                          have p6 : 0 ≤ (x3_1 : Int) := of_decide_eq_true (by first | (with_reducible assumption) | assumption)
                          have q6 : x3_1 < (a0.size : Int) := of_decide_eq_true (by first | (with_reducible assumption) | assumption)
                          have hx6 := bt_at a0 x3_1
                          replace p6 := eq_true p6
                          replace q6 := eq_true q6
                          have p11 : 0 ≤ ((ji8) : Int) := of_decide_eq_true (by first | (with_reducible assumption) | assumption)
                          have q11 : (ji8) < (a0.size : Int) := of_decide_eq_true (by first | (with_reducible assumption) | assumption)
                          have hx11 := bt_at a0 (ji8)
                          replace p11 := eq_true p11
                          replace q11 := eq_true q11
                          have p16 : 0 ≤ ((ji13) : Int) := of_decide_eq_true (by first | (with_reducible assumption) | assumption)
                          have q16 : (ji13) < (a0.size : Int) := of_decide_eq_true (by first | (with_reducible assumption) | assumption)
                          have hx16 := bt_at a0 (ji13)
                          replace p16 := eq_true p16
                          replace q16 := eq_true q16
                          go_wp2
                          go_meet
                          case rel => exact ⟨_, (((bt a0 (ji13)) == 92)), (by first | rfl | (simp; done) | (simp only [← hji13] <;> (first | rfl | simp)) | (simp [*]; done)), H', ⟨by have := HK1.out; first | omega | exact Nat.le_refl _⟩, by repeat (first | exact Drawn0.refl _ | apply Drawn0.step)⟩
                        · rw [if_neg c15] at H
                          exact absurd H (by simp)
                      · rw [if_neg c14] at H
                        exact absurd H (by simp)
                    · rw [if_neg c12] at H
                      have c12b0 : ((bt a0 (ji8)) == 10) = false := beq_eq_false_iff_ne.mpr c12
                      have c12b1 : ((bt a0 (ji8)) != 10) = true := bne_iff_ne.mpr c12
                      have H' := Aside0.mk H
                      clear H
                      have p6 : 0 ≤ (x3_1 : Int) := of_decide_eq_true (by first | (with_reducible assumption) | assumption)
                      have q6 : x3_1 < (a0.size : Int) := of_decide_eq_true (by first | (with_reducible assumption) | assumption)
                      have hx6 := bt_at a0 x3_1
                      replace p6 := eq_true p6
                      replace q6 := eq_true q6
                      have p11 : 0 ≤ ((ji8) : Int) := of_decide_eq_true (by first | (with_reducible assumption) | assumption)
                      have q11 : (ji8) < (a0.size : Int) := of_decide_eq_true (by first | (with_reducible assumption) | assumption)
                      have hx11 := bt_at a0 (ji8)
                      replace p11 := eq_true p11
                      replace q11 := eq_true q11
                      go_wp2
                      go_meet
                      case rel => exact ⟨_, (false), (by first | rfl | (simp; done) | (simp [*]; done)), H', ⟨by have := HK1.out; first | omega | exact Nat.le_refl _⟩, by repeat (first | exact Drawn0.refl _ | apply Drawn0.step)⟩
                  · rw [if_neg c10] at H
                    exact absurd H (by simp)
                · rw [if_neg c9] at H
                  exact absurd H (by simp)
              · rw [if_neg c7] at H
                have c7b0 : ((bt a0 x3_1) == 10) = false := beq_eq_false_iff_ne.mpr c7
                have c7b1 : ((bt a0 x3_1) != 10) = true := bne_iff_ne.mpr c7
                have H' := Aside0.mk H
                clear H
                have p6 : 0 ≤ (x3_1 : Int) := of_decide_eq_true (by first | (with_reducible assumption) | assumption)
                have q6 : x3_1 < (a0.size : Int) := of_decide_eq_true (by first | (with_reducible assumption) | assumption)
                have hx6 := bt_at a0 x3_1
                replace p6 := eq_true p6
                replace q6 := eq_true q6
                go_wp2
                go_meet
                case rel => exact ⟨_, (false), (by first | rfl | (simp; done) | (simp [*]; done)), H', ⟨by have := HK1.out; first | omega | exact Nat.le_refl _⟩, by repeat (first | exact Drawn0.refl _ | apply Drawn0.step)⟩
            · rw [if_neg c5] at H
              exact absurd H (by simp)
          · rw [if_neg c4] at H
            have c4b0 : decide (1 < x3_1) = false := decide_eq_false c4
            clear c4
            (first | rw [c4b0] | (simp only [i64_w, i32_w]; rw [c4b0]) | skip)
            have H' := Aside0.mk H
            clear H
            go_wp2
            go_meet
            case rel => exact ⟨_, (false), (by first | rfl | (simp; done) | (simp [*]; done)), H', ⟨by have := HK1.out; first | omega | exact Nat.le_refl _⟩, by repeat (first | exact Drawn0.refl _ | apply Drawn0.step)⟩
        case rest =>
          clear HC3
          try clear c1
          try clear p1
          try clear q1
          try clear hx1
          try clear c2
          try clear c2b0
          try clear p2
          try clear c4
          try clear c4b0
          try clear c5
          try clear c5b0
          try clear p6
          try clear q6
          try clear hx6
          try clear c7
          try clear c7b0
          try clear c7b1
          try clear c9
          try clear c9b0
          try clear c10
          try clear c10b0
          try clear p11
          try clear q11
          try clear hx11
          try clear c12
          try clear c12b0
          try clear c12b1
          try clear c14
          try clear c14b0
          try clear c15
          try clear c15b0
          try clear p16
          try clear q16
          try clear hx16
          try clear p11
          try clear p16
          try clear p6
          try clear q11
          try clear q16
          try clear q6
          obtain ⟨kq, x31_2, rfl, HA, HJ2, ⟨mc2, rfl⟩⟩ := hcut
          cases kq with
          | zero => exact absurd HA.out (by simp [spec_Tidy.j1])
          | succ kj2 =>
            have H := HA.out
            clear HA
            simp only [spec_Tidy.j1] at H
            by_cases c17 : x31_2 = true
            · subst c17
              have H1 : (some false) = some r := by rw [if_pos rfl] at H; exact H
              clear H
              have H := H1
              clear H1
              obtain rfl := Option.some.inj H
              go_wp2
              go_ret
              exact ⟨by first | rfl | (simp; done) | (simp [*]; done), by repeat (first | exact Drawn0.refl _ | apply Drawn0.step)⟩
            · replace c17 := Bool.eq_false_iff.mpr c17
              subst c17
              have H1 : (if 0 ≤ x3_1 then (if x3_1 < (a0.size : Int) then (if (bt a0 x3_1) = 9 then (some false) else (if (bt a0 x3_1) = 32 then (if (wrap64 (x3_1 + 1)) = (a0.size : Int) then (some false) else (if 0 ≤ (wrap64 (x3_1 + 1)) then (if (wrap64 (x3_1 + 1)) < (a0.size : Int) then (if (bt a0 (wrap64 (x3_1 + 1))) = 10 then (some false) else (if x3_1 > 0 then (if 0 ≤ (wrap64 (x3_1 - 1)) then (if (wrap64 (x3_1 - 1)) < (a0.size : Int) then (if (bt a0 (wrap64 (x3_1 - 1))) = 92 then (some false) else (spec_Tidy.l0 kj2 a0 (wrap64 (x3_1 + 1)))) else (none)) else (none)) else (spec_Tidy.l0 kj2 a0 (wrap64 (x3_1 + 1))))) else (none)) else (none))) else (spec_Tidy.l0 kj2 a0 (wrap64 (x3_1 + 1))))) else (none)) else (none)) = some r := by rw [if_neg (show ¬ (false = true) by decide)] at H; exact H
              clear H
              have H := H1
              clear H1
              by_cases c18 : 0 ≤ x3_1
              · rw [if_pos c18] at H
                have c18b0 : decide (0 ≤ x3_1) = true := decide_eq_true c18
                clear c18
                by_cases c19 : x3_1 < (a0.size : Int)
                · rw [if_pos c19] at H
                  have c19b0 : decide (x3_1 < (a0.size : Int)) = true := decide_eq_true c19
                  clear c19
                  by_cases c21 : (bt a0 x3_1) = 9
                  · rw [if_pos c21] at H
                    have c21b0 : ((bt a0 x3_1) == 9) = true := beq_iff_eq.mpr c21
                    have c21b1 : ((bt a0 x3_1) != 9) = false := bne_eq_false_iff_eq.mpr c21
                    clear c21
                    obtain rfl := Option.some.inj H
                    have p20 : 0 ≤ (x3_1 : Int) := of_decide_eq_true (by first | (with_reducible assumption) | assumption)
                    have q20 : x3_1 < (a0.size : Int) := of_decide_eq_true (by first | (with_reducible assumption) | assumption)
                    have hx20 := bt_at a0 x3_1
                    replace p20 := eq_true p20
                    replace q20 := eq_true q20
                    go_wp2
                    go_ret
                    exact ⟨by first | rfl | (simp; done) | (simp [*]; done), by repeat (first | exact Drawn0.refl _ | apply Drawn0.step)⟩
                  · rw [if_neg c21] at H
                    have c21b0 : ((bt a0 x3_1) == 9) = false := beq_eq_false_iff_ne.mpr c21
                    have c21b1 : ((bt a0 x3_1) != 9) = true := bne_iff_ne.mpr c21
                    by_cases c23 : (bt a0 x3_1) = 32
                    · rw [if_pos c23] at H
                      have c23b0 : ((bt a0 x3_1) == 32) = true := beq_iff_eq.mpr c23
                      have c23b1 : ((bt a0 x3_1) != 32) = false := bne_eq_false_iff_eq.mpr c23
                      clear c23
                      by_cases c24 : (wrap64 (x3_1 + 1)) = (a0.size : Int)
                      · rw [if_pos c24] at H
                        have c24b0 : ((wrap64 (x3_1 + 1)) == (a0.size : Int)) = true := beq_iff_eq.mpr c24
                        have c24b1 : ((wrap64 (x3_1 + 1)) != (a0.size : Int)) = false := bne_eq_false_iff_eq.mpr c24
                        clear c24
                        obtain rfl := Option.some.inj H
                        have p20 : 0 ≤ (x3_1 : Int) := of_decide_eq_true (by first | (with_reducible assumption) | assumption)
                        have q20 : x3_1 < (a0.size : Int) := of_decide_eq_true (by first | (with_reducible assumption) | assumption)
                        have hx20 := bt_at a0 x3_1
                        replace p20 := eq_true p20
                        replace q20 := eq_true q20
                        have p22 : 0 ≤ (x3_1 : Int) := of_decide_eq_true (by first | (with_reducible assumption) | assumption)
                        have q22 : x3_1 < (a0.size : Int) := of_decide_eq_true (by first | (with_reducible assumption) | assumption)
                        have hx22 := bt_at a0 x3_1
                        replace p22 := eq_true p22
                        replace q22 := eq_true q22
                        go_wp2
                        go_ret
                        exact ⟨by first | rfl | (simp; done) | (simp [*]; done), by repeat (first | exact Drawn0.refl _ | apply Drawn0.step)⟩
                      · rw [if_neg c24] at H
                        have c24b0 : ((wrap64 (x3_1 + 1)) == (a0.size : Int)) = false := beq_eq_false_iff_ne.mpr c24
                        have c24b1 : ((wrap64 (x3_1 + 1)) != (a0.size : Int)) = true := bne_iff_ne.mpr c24
                        obtain ⟨ji25, hji25⟩ : ∃ j_ : Int, (wrap64 (x3_1 + 1)) = j_ := ⟨_, rfl⟩
                        replace H : (if 0 ≤ (ji25) then (if (ji25) < (a0.size : Int) then (if (bt a0 (ji25)) = 10 then (some false) else (if x3_1 > 0 then (if 0 ≤ (wrap64 (x3_1 - 1)) then (if (wrap64 (x3_1 - 1)) < (a0.size : Int) then (if (bt a0 (wrap64 (x3_1 - 1))) = 92 then (some false) else (spec_Tidy.l0 kj2 a0 ji25)) else (none)) else (none)) else (spec_Tidy.l0 kj2 a0 ji25))) else (none)) else (none)) = some r := by first | (rw [hji25] at H; exact H) | (simp only [hji25] at H ⊢; exact H)
                        (try rw [hji25] at c24b0)
                        (try rw [hji25] at c24b1)
                        have hji25w : (IntKind.i64.wrap (x3_1 + 1)) = ji25 := (i64_w _).trans hji25
                        by_cases c26 : 0 ≤ (ji25)
                        · rw [if_pos c26] at H
                          have c26b0 : decide (0 ≤ (ji25)) = true := decide_eq_true c26
                          clear c26
                          by_cases c27 : (ji25) < (a0.size : Int)
                          · rw [if_pos c27] at H
                            have c27b0 : decide ((ji25) < (a0.size : Int)) = true := decide_eq_true c27
                            clear c27
                            by_cases c29 : (bt a0 (ji25)) = 10
                            · rw [if_pos c29] at H
                              have c29b0 : ((bt a0 (ji25)) == 10) = true := beq_iff_eq.mpr c29
                              have c29b1 : ((bt a0 (ji25)) != 10) = false := bne_eq_false_iff_eq.mpr c29
                              clear c29
                              obtain rfl := Option.some.inj H
                              have p20 : 0 ≤ (x3_1 : Int) := of_decide_eq_true (by first | (with_reducible assumption) | assumption)
                              have q20 : x3_1 < (a0.size : Int) := of_decide_eq_true (by first | (with_reducible assumption) | assumption)
                              have hx20 := bt_at a0 x3_1
                              replace p20 := eq_true p20
                              replace q20 := eq_true q20
                              have p22 : 0 ≤ (x3_1 : Int) := of_decide_eq_true (by first | (with_reducible assumption) | assumption)
                              have q22 : x3_1 < (a0.size : Int) := of_decide_eq_true (by first | (with_reducible assumption) | assumption)
                              have hx22 := bt_at a0 x3_1
                              replace p22 := eq_true p22
                              replace q22 := eq_true q22
                              have p28 : 0 ≤ ((ji25) : Int) := of_decide_eq_true (by first | (with_reducible assumption) | assumption)
                              have q28 : (ji25) < (a0.size : Int) := of_decide_eq_true (by first | (with_reducible assumption) | assumption)
                              have hx28 := bt_at a0 (ji25)
                              replace p28 := eq_true p28
                              replace q28 := eq_true q28
                              go_wp2
                              go_ret
                              exact ⟨by first | rfl | (simp; done) | (simp only [← hji25] <;> (first | rfl | simp)) | (simp [*]; done), by repeat (first | exact Drawn0.refl _ | apply Drawn0.step)⟩
                            · rw [if_neg c29] at H
                              have c29b0 : ((bt a0 (ji25)) == 10) = false := beq_eq_false_iff_ne.mpr c29
                              have c29b1 : ((bt a0 (ji25)) != 10) = true := bne_iff_ne.mpr c29
                              by_cases c30 : x3_1 > 0
                              · rw [if_pos c30] at H
                                have c30b0 : decide (0 < x3_1) = true := decide_eq_true c30
                                clear c30
                                obtain ⟨ji31, hji31⟩ : ∃ j_ : Int, (wrap64 (x3_1 - 1)) = j_ := ⟨_, rfl⟩
                                replace H : (if 0 ≤ (ji31) then (if (ji31) < (a0.size : Int) then (if (bt a0 (ji31)) = 92 then (some false) else (spec_Tidy.l0 kj2 a0 ji25)) else (none)) else (none)) = some r := by first | (rw [hji31] at H; exact H) | (simp only [hji31] at H ⊢; exact H)
                                have hji31w : (IntKind.i64.wrap (x3_1 - 1)) = ji31 := (i64_w _).trans hji31
                                by_cases c32 : 0 ≤ (ji31)
                                · rw [if_pos c32] at H
                                  have c32b0 : decide (0 ≤ (ji31)) = true := decide_eq_true c32
                                  clear c32
                                  by_cases c33 : (ji31) < (a0.size : Int)
                                  · rw [if_pos c33] at H
                                    have c33b0 : decide ((ji31) < (a0.size : Int)) = true := decide_eq_true c33
                                    clear c33
                                    by_cases c35 : (bt a0 (ji31)) = 92
                                    · rw [if_pos c35] at H
                                      have c35b0 : ((bt a0 (ji31)) == 92) = true := beq_iff_eq.mpr c35
                                      have c35b1 : ((bt a0 (ji31)) != 92) = false := bne_eq_false_iff_eq.mpr c35
                                      clear c35
                                      obtain rfl := Option.some.inj H
                                      have p20 : 0 ≤ (x3_1 : Int) := of_decide_eq_true (by first | (with_reducible assumption) | assumption)
                                      have q20 : x3_1 < (a0.size : Int) := of_decide_eq_true (by first | (with_reducible assumption) | assumption)
                                      have hx20 := bt_at a0 x3_1
                                      replace p20 := eq_true p20
                                      replace q20 := eq_true q20
                                      have p22 : 0 ≤ (x3_1 : Int) := of_decide_eq_true (by first | (with_reducible assumption) | assumption)
                                      have q22 : x3_1 < (a0.size : Int) := of_decide_eq_true (by first | (with_reducible assumption) | assumption)
                                      have hx22 := bt_at a0 x3_1
                                      replace p22 := eq_true p22
                                      replace q22 := eq_true q22
                                      have p28 : 0 ≤ ((ji25) : Int) := of_decide_eq_true (by first | (with_reducible assumption) | assumption)
                                      have q28 : (ji25) < (a0.size : Int) := of_decide_eq_true (by first | (with_reducible assumption) | assumption)
                                      have hx28 := bt_at a0 (ji25)
                                      replace p28 := eq_true p28
                                      replace q28 := eq_true q28
                                      have p34 : 0 ≤ ((ji31) : Int) := of_decide_eq_true (by first | (with_reducible assumption) | assumption)
                                      have q34 : (ji31) < (a0.size : Int) := of_decide_eq_true (by first | (with_reducible assumption) | assumption)
                                      have hx34 := bt_at a0 (ji31)
                                      replace p34 := eq_true p34
                                      replace q34 := eq_true q34
                                      go_wp2
                                      go_ret
                                      exact ⟨by first | rfl | (simp; done) | (simp only [← hji25, ← hji31] <;> (first | rfl | simp)) | (simp [*]; done), by repeat (first | exact Drawn0.refl _ | apply Drawn0.step)⟩
                                    · rw [if_neg c35] at H
                                      have c35b0 : ((bt a0 (ji31)) == 92) = false := beq_eq_false_iff_ne.mpr c35
                                      have c35b1 : ((bt a0 (ji31)) != 92) = true := bne_iff_ne.mpr c35
                                      have H' := Aside0.mk H
                                      clear H
                                      have p20 : 0 ≤ (x3_1 : Int) := of_decide_eq_true (by first | (with_reducible assumption) | assumption)
                                      have q20 : x3_1 < (a0.size : Int) := of_decide_eq_true (by first | (with_reducible assumption) | assumption)
                                      have hx20 := bt_at a0 x3_1
                                      replace p20 := eq_true p20
                                      replace q20 := eq_true q20
                                      have p22 : 0 ≤ (x3_1 : Int) := of_decide_eq_true (by first | (with_reducible assumption) | assumption)
                                      have q22 : x3_1 < (a0.size : Int) := of_decide_eq_true (by first | (with_reducible assumption) | assumption)
                                      have hx22 := bt_at a0 x3_1
                                      replace p22 := eq_true p22
                                      replace q22 := eq_true q22
                                      have p28 : 0 ≤ ((ji25) : Int) := of_decide_eq_true (by first | (with_reducible assumption) | assumption)
                                      have q28 : (ji25) < (a0.size : Int) := of_decide_eq_true (by first | (with_reducible assumption) | assumption)
                                      have hx28 := bt_at a0 (ji25)
                                      replace p28 := eq_true p28
                                      replace q28 := eq_true q28
                                      have p34 : 0 ≤ ((ji31) : Int) := of_decide_eq_true (by first | (with_reducible assumption) | assumption)
                                      have q34 : (ji31) < (a0.size : Int) := of_decide_eq_true (by first | (with_reducible assumption) | assumption)
                                      have hx34 := bt_at a0 (ji31)
                                      replace p34 := eq_true p34
                                      replace q34 := eq_true q34
                                      go_wp2
                                      go_roundg kj2
                                      case measure => have := HK1.out; have := HJ2.out; omega
                                      case rel => exact ⟨(ji25), (by first | rfl | (simp; done) | (simp only [← hji25] <;> (first | rfl | simp)) | (simp [*]; done)), H', ⟨by have := HK1.out; have := HJ2.out; omega⟩, by repeat (first | exact Drawn0.refl _ | apply Drawn0.step)⟩
                                  · rw [if_neg c33] at H
                                    exact absurd H (by simp)
                                · rw [if_neg c32] at H
                                  exact absurd H (by simp)
                              · rw [if_neg c30] at H
                                have c30b0 : decide (0 < x3_1) = false := decide_eq_false c30
                                clear c30
                                have H' := Aside0.mk H
                                clear H
                                have p20 : 0 ≤ (x3_1 : Int) := of_decide_eq_true (by first | (with_reducible assumption) | assumption)
                                have q20 : x3_1 < (a0.size : Int) := of_decide_eq_true (by first | (with_reducible assumption) | assumption)
                                have hx20 := bt_at a0 x3_1
                                replace p20 := eq_true p20
                                replace q20 := eq_true q20
                                have p22 : 0 ≤ (x3_1 : Int) := of_decide_eq_true (by first | (with_reducible assumption) | assumption)
                                have q22 : x3_1 < (a0.size : Int) := of_decide_eq_true (by first | (with_reducible assumption) | assumption)
                                have hx22 := bt_at a0 x3_1
                                replace p22 := eq_true p22
                                replace q22 := eq_true q22
                                have p28 : 0 ≤ ((ji25) : Int) := of_decide_eq_true (by first | (with_reducible assumption) | assumption)
                                have q28 : (ji25) < (a0.size : Int) := of_decide_eq_true (by first | (with_reducible assumption) | assumption)
                                have hx28 := bt_at a0 (ji25)
                                replace p28 := eq_true p28
                                replace q28 := eq_true q28
                                go_wp2
                                go_roundg kj2
                                case measure => have := HK1.out; have := HJ2.out; omega
                                case rel => exact ⟨(ji25), (by first | rfl | (simp; done) | (simp only [← hji25] <;> (first | rfl | simp)) | (simp [*]; done)), H', ⟨by have := HK1.out; have := HJ2.out; omega⟩, by repeat (first | exact Drawn0.refl _ | apply Drawn0.step)⟩
                          · rw [if_neg c27] at H
                            exact absurd H (by simp)
                        · rw [if_neg c26] at H
                          exact absurd H (by simp)
                    · rw [if_neg c23] at H
                      have c23b0 : ((bt a0 x3_1) == 32) = false := beq_eq_false_iff_ne.mpr c23
                      have c23b1 : ((bt a0 x3_1) != 32) = true := bne_iff_ne.mpr c23
                      have H' := Aside0.mk H
                      clear H
                      have p20 : 0 ≤ (x3_1 : Int) := of_decide_eq_true (by first | (with_reducible assumption) | assumption)
                      have q20 : x3_1 < (a0.size : Int) := of_decide_eq_true (by first | (with_reducible assumption) | assumption)
                      have hx20 := bt_at a0 x3_1
                      replace p20 := eq_true p20
                      replace q20 := eq_true q20
                      have p22 : 0 ≤ (x3_1 : Int) := of_decide_eq_true (by first | (with_reducible assumption) | assumption)
                      have q22 : x3_1 < (a0.size : Int) := of_decide_eq_true (by first | (with_reducible assumption) | assumption)
                      have hx22 := bt_at a0 x3_1
                      replace p22 := eq_true p22
                      replace q22 := eq_true q22
                      go_wp2
                      go_roundg kj2
                      case measure => have := HK1.out; have := HJ2.out; omega
                      case rel => exact ⟨(wrap64 (x3_1 + 1)), (by first | rfl | (simp; done) | (simp [*]; done)), H', ⟨by have := HK1.out; have := HJ2.out; omega⟩, by repeat (first | exact Drawn0.refl _ | apply Drawn0.step)⟩
                · rw [if_neg c19] at H
                  exact absurd H (by simp)
              · rw [if_neg c18] at H
                exact absurd H (by simp)
      · rw [if_neg c2] at H
        have c2b0 : decide (x3_1 < (a0.size : Int)) = false := decide_eq_false c2
        clear c2
        obtain rfl := Option.some.inj H
        go_wp2
        go_ret
        exact ⟨by first | rfl | (simp; done) | (simp [*]; done), by repeat (first | exact Drawn0.refl _ | apply Drawn0.step)⟩

end Go.Proofs.YtgglhfbjbddjjaaDoor.PFnPartLines
