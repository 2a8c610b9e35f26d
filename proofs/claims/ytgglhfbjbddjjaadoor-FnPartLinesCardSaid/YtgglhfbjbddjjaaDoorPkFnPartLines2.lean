/- Parts of the proof of FnPartLines, one behind the other: LKnown. Each part says ahead of itself what it proves. -/
import Derived.Test.YtgglhfbjbddjjaaDoorPFnPartLinesx1
import Derived.Test.YtgglhfbjbddjjaaDoorPFnPartLinesx2

/- functions as print.sh prints them, cut out of its texts. -/
namespace Go.Proofs.YtgglhfbjbddjjaaDoor.LKnown
open Go.RowKit Go.Proofs.YtgglhfbjbddjjaaDoorW.PrintWords Go.Proofs.YtgglhfbjbddjjaaDoorW.PrintLast Go.Proofs.YtgglhfbjbddjjaaDoorW.PrintMore Go.Proofs.YtgglhfbjbddjjaaDoor.PFnPartLines
attribute [local go_sem] max2_int min2_int max_two min_two max_three min_three max_four min_four   -- for this text's walks alone
set_option linter.unusedVariables false
set_option linter.unusedSimpArgs false



/-! ### spec_scAll: function 12 -/
def spec_scAll.l0 : Nat → Bool → List Int → Int → Int → Option (Bool)
  | 0, _, _, _, _ => none
  | k + 1, x1, x7, x8, x9 => if x9 < x8 then (if 0 ≤ x9 then (if x9 < (x7.length : Int) then ((spec_scContent.f k (rd x7 x9)).bind fun t110 => (if t110 = true then (spec_scAll.l0 k x1 x7 x8 (wrap64 (x9 + 1))) else (if x1 = true then (if ((rd x7 x9) = 10) then (spec_scAll.l0 k x1 x7 x8 (wrap64 (x9 + 1))) else (some false)) else (some false)))) else (none)) else (none)) else (some true)
def spec_scAll.f (k : Nat) (l0 : List Int) (a1 : Bool) : Option (Bool) := spec_scAll.l0 k a1 l0 (l0.length : Int) 0
theorem spec_scAll.mono_l : ∀ k, (∀ y0 y1 y2 y3, LeO (spec_scAll.l0 k y0 y1 y2 y3) (spec_scAll.l0 (k + 1) y0 y1 y2 y3))
  | 0 => fun _ _ _ _ r h => by simp [spec_scAll.l0] at h
  | k + 1 => by
    have ih0 := spec_scAll.mono_l k
    · intro y0 y1 y2 y3
      unfold spec_scAll.l0
      repeat' first
      | (with_reducible exact ih0 _ _ _ _)
      | (with_reducible exact spec_scContent.mono _ _)
      | (with_reducible exact LeO.refl _)
      | (with_reducible exact LeO.none _)
      | (with_reducible refine LeO.ite ?_ ?_)
      | (with_reducible refine LeO.bind ?_ (fun _ => ?_))
      | exact ih0 _ _ _ _
      | exact spec_scContent.mono _ _
      | exact LeO.none _
      | refine LeO.ite ?_ ?_
      | refine LeO.bind ?_ (fun _ => ?_)
theorem spec_scAll.mono : ∀ a0 a1 k, LeO (spec_scAll.f k a0 a1) (spec_scAll.f (k + 1) a0 a1) := by
  intro a0 a1 k
  have ih0 := spec_scAll.mono_l k
  unfold spec_scAll.f
  repeat' first
      | (with_reducible exact ih0 _ _ _ _)
      | (with_reducible exact spec_scContent.mono _ _)
      | (with_reducible exact LeO.refl _)
      | (with_reducible exact LeO.none _)
      | (with_reducible refine LeO.ite ?_ ?_)
      | (with_reducible refine LeO.bind ?_ (fun _ => ?_))
      | exact ih0 _ _ _ _
      | exact spec_scContent.mono _ _
      | exact LeO.none _
      | refine LeO.ite ?_ ?_
      | refine LeO.bind ?_ (fun _ => ?_)
set_option maxHeartbeats 8000000 in
set_option maxRecDepth 100000 in
theorem spec_scAll.calls (k : Nat) (A0 : Option Addr) (c0 : Nat) (l0 : List Int) (a1 : Bool) (r : Bool) (w : World) (hr0 : Kd.C (Kd.int .i32) w A0 l0.length l0) (hc0 : l0.length ≤ c0) (h : spec_scAll.f k l0 a1 = some r) :
    Calls Tryd.prog 12 #[.slice A0 l0.length c0, .bool a1] w fun e w' => e = .returned (.bool r) ∧ Drawn0 w w' := by
  have HR0 := Aside0.mk hr0
  have HC0 := Aside0.mk hc0
  clear hr0 hc0
  have H : (spec_scAll.l0 k a1 l0 (l0.length : Int) 0) = some r := h
  clear h
  have H' := Aside0.mk H
  clear H
  go_enter Tryd.func12, Tryd.ntmps12
  go_wp2
  go_loopg [9] k (fun kq v9 w' => ∃ (x9_1 : Int), v9 = .int .i64 x9_1 ∧ Aside0 (spec_scAll.l0 kq a1 l0 (l0.length : Int) x9_1 = some r) ∧ Aside0 (kq ≤ k) ∧ Drawn0 w w')
  case atStart => exact ⟨(0), (by first | rfl | (simp; done) | (simp [*]; done)), H', ⟨Nat.le_refl _⟩, by repeat (first | exact Drawn0.refl _ | apply Drawn0.step)⟩
  case round =>
    clear H'
    try clear c1
    try clear p2
    obtain ⟨x9_1, rfl, HA, HK1, ⟨m1, rfl⟩⟩ := hrel
    cases gk with
    | zero => exact absurd HA.out (by simp [spec_scAll.l0])
    | succ k1 =>
      have H := HA.out
      clear HA
      simp only [spec_scAll.l0] at H
      by_cases c3 : x9_1 < (l0.length : Int)
      · rw [if_pos c3] at H
        have c3b0 : decide (x9_1 < (l0.length : Int)) = true := decide_eq_true c3
        clear c3
        by_cases c4 : 0 ≤ x9_1
        · rw [if_pos c4] at H
          have c4b0 : decide (0 ≤ x9_1) = true := decide_eq_true c4
          clear c4
          by_cases c5 : x9_1 < (l0.length : Int)
          · rw [if_pos c5] at H
            have c5b0 : decide (x9_1 < (l0.length : Int)) = true := decide_eq_true c5
            clear c5
            replace H := Option.bind_eq_some_iff.mp H
            obtain ⟨t110, A60, H⟩ := H
            replace H : (if t110 = true then (spec_scAll.l0 k1 a1 l0 (l0.length : Int) (wrap64 (x9_1 + 1))) else (if a1 = true then (if ((rd l0 x9_1) = 10) then (spec_scAll.l0 k1 a1 l0 (l0.length : Int) (wrap64 (x9_1 + 1))) else (some false)) else (some false))) = some r := H
            have A6 := Aside0.mk A60
            clear A60
            by_cases c7 : t110 = true
            · subst c7
              have H1 : (spec_scAll.l0 k1 a1 l0 (l0.length : Int) (wrap64 (x9_1 + 1))) = some r := by rw [if_pos rfl] at H; exact H
              clear H
              have H := H1
              clear H1
              have H' := Aside0.mk H
              clear H
              have p109 : 0 ≤ (x9_1 : Int) := of_decide_eq_true (by first | (with_reducible assumption) | assumption)
              have q109 : x9_1 < (l0.length : Int) := of_decide_eq_true (by first | (with_reducible assumption) | assumption)
              obtain ⟨ad109, e109, hx109_0⟩ := Kd.at_int HR0.out x9_1 p109 q109
              cases e109
              replace p109 := eq_true p109
              replace q109 := eq_true q109
              go_wp2_with (first | ((with_reducible refine gate_callee (f := 21) rfl ?_); refine goesL_ (some 14) rfl rfl Tryd.func21 (by kernel_rfl) rfl #[.int .i32 (rd l0 x9_1)] rfl (by (try simp only [List.map_toArray, List.map_cons, List.map_nil]); first | done | rfl | (simp only [List.length_drop, List.length_take]; rfl)) ?_; (with_reducible refine (spec_scContent.calls k1 (rd l0 x9_1) true _ A6.out).mono ?_); rintro e w' ⟨rfl, ⟨nd, rfl⟩⟩; refine ⟨_, rfl, ?_⟩))
              go_roundg k1
              case measure => have := HK1.out; omega
              case rel => exact ⟨(wrap64 (x9_1 + 1)), (by first | rfl | (simp; done) | (simp [*]; done)), H', ⟨by have := HK1.out; omega⟩, by repeat (first | exact Drawn0.refl _ | apply Drawn0.step)⟩
            · replace c7 := Bool.eq_false_iff.mpr c7
              subst c7
              have H1 : (if a1 = true then (if ((rd l0 x9_1) = 10) then (spec_scAll.l0 k1 a1 l0 (l0.length : Int) (wrap64 (x9_1 + 1))) else (some false)) else (some false)) = some r := by rw [if_neg (show ¬ (false = true) by decide)] at H; exact H
              clear H
              have H := H1
              clear H1
              by_cases c8 : a1 = true
              · subst c8
                have H1 : (if ((rd l0 x9_1) = 10) then (spec_scAll.l0 k1 true l0 (l0.length : Int) (wrap64 (x9_1 + 1))) else (some false)) = some r := by rw [if_pos rfl] at H; exact H
                clear H
                have H := H1
                clear H1
                by_cases c9 : ((rd l0 x9_1) = 10)
                · rw [if_pos c9] at H
                  have c9b0 : ((rd l0 x9_1) == 10) = true := beq_iff_eq.mpr c9
                  have c9b1 : ((rd l0 x9_1) != 10) = false := bne_eq_false_iff_eq.mpr c9
                  clear c9
                  have H' := Aside0.mk H
                  clear H
                  have p109 : 0 ≤ (x9_1 : Int) := of_decide_eq_true (by first | (with_reducible assumption) | assumption)
                  have q109 : x9_1 < (l0.length : Int) := of_decide_eq_true (by first | (with_reducible assumption) | assumption)
                  obtain ⟨ad109, e109, hx109_0⟩ := Kd.at_int HR0.out x9_1 p109 q109
                  cases e109
                  replace p109 := eq_true p109
                  replace q109 := eq_true q109
                  go_wp2_with (first | ((with_reducible refine gate_callee (f := 21) rfl ?_); refine goesL_ (some 14) rfl rfl Tryd.func21 (by kernel_rfl) rfl #[.int .i32 (rd l0 x9_1)] rfl (by (try simp only [List.map_toArray, List.map_cons, List.map_nil]); first | done | rfl | (simp only [List.length_drop, List.length_take]; rfl)) ?_; (with_reducible refine (spec_scContent.calls k1 (rd l0 x9_1) false _ A6.out).mono ?_); rintro e w' ⟨rfl, ⟨nd, rfl⟩⟩; refine ⟨_, rfl, ?_⟩))
                  go_roundg k1
                  case measure => have := HK1.out; omega
                  case rel => exact ⟨(wrap64 (x9_1 + 1)), (by first | rfl | (simp; done) | (simp [*]; done)), H', ⟨by have := HK1.out; omega⟩, by repeat (first | exact Drawn0.refl _ | apply Drawn0.step)⟩
                · rw [if_neg c9] at H
                  have c9b0 : ((rd l0 x9_1) == 10) = false := beq_eq_false_iff_ne.mpr c9
                  have c9b1 : ((rd l0 x9_1) != 10) = true := bne_iff_ne.mpr c9
                  obtain rfl := Option.some.inj H
                  have p109 : 0 ≤ (x9_1 : Int) := of_decide_eq_true (by first | (with_reducible assumption) | assumption)
                  have q109 : x9_1 < (l0.length : Int) := of_decide_eq_true (by first | (with_reducible assumption) | assumption)
                  obtain ⟨ad109, e109, hx109_0⟩ := Kd.at_int HR0.out x9_1 p109 q109
                  cases e109
                  replace p109 := eq_true p109
                  replace q109 := eq_true q109
                  go_wp2_with (first | ((with_reducible refine gate_callee (f := 21) rfl ?_); refine goesL_ (some 14) rfl rfl Tryd.func21 (by kernel_rfl) rfl #[.int .i32 (rd l0 x9_1)] rfl (by (try simp only [List.map_toArray, List.map_cons, List.map_nil]); first | done | rfl | (simp only [List.length_drop, List.length_take]; rfl)) ?_; (with_reducible refine (spec_scContent.calls k1 (rd l0 x9_1) false _ A6.out).mono ?_); rintro e w' ⟨rfl, ⟨nd, rfl⟩⟩; refine ⟨_, rfl, ?_⟩))
                  go_ret
                  exact ⟨by first | rfl | (simp; done) | (simp [*]; done), by repeat (first | exact Drawn0.refl _ | apply Drawn0.step)⟩
              · replace c8 := Bool.eq_false_iff.mpr c8
                subst c8
                have H1 : (some false) = some r := by rw [if_neg (show ¬ (false = true) by decide)] at H; exact H
                clear H
                have H := H1
                clear H1
                obtain rfl := Option.some.inj H
                have p109 : 0 ≤ (x9_1 : Int) := of_decide_eq_true (by first | (with_reducible assumption) | assumption)
                have q109 : x9_1 < (l0.length : Int) := of_decide_eq_true (by first | (with_reducible assumption) | assumption)
                obtain ⟨ad109, e109, hx109_0⟩ := Kd.at_int HR0.out x9_1 p109 q109
                cases e109
                replace p109 := eq_true p109
                replace q109 := eq_true q109
                go_wp2_with (first | ((with_reducible refine gate_callee (f := 21) rfl ?_); refine goesL_ (some 14) rfl rfl Tryd.func21 (by kernel_rfl) rfl #[.int .i32 (rd l0 x9_1)] rfl (by (try simp only [List.map_toArray, List.map_cons, List.map_nil]); first | done | rfl | (simp only [List.length_drop, List.length_take]; rfl)) ?_; (with_reducible refine (spec_scContent.calls k1 (rd l0 x9_1) false _ A6.out).mono ?_); rintro e w' ⟨rfl, ⟨nd, rfl⟩⟩; refine ⟨_, rfl, ?_⟩))
                go_ret
                exact ⟨by first | rfl | (simp; done) | (simp [*]; done), by repeat (first | exact Drawn0.refl _ | apply Drawn0.step)⟩
          · rw [if_neg c5] at H
            exact absurd H (by simp)
        · rw [if_neg c4] at H
          exact absurd H (by simp)
      · rw [if_neg c3] at H
        have c3b0 : decide (x9_1 < (l0.length : Int)) = false := decide_eq_false c3
        clear c3
        obtain rfl := Option.some.inj H
        go_wp2
        go_ret
        exact ⟨by first | rfl | (simp; done) | (simp [*]; done), by repeat (first | exact Drawn0.refl _ | apply Drawn0.step)⟩

/-! ### spec_scWhite: function 17 -/
def spec_scWhite.f (a0 : Int) : Option (Bool) := if a0 = 32 then (some true) else (some (a0 == 9))
set_option maxHeartbeats 8000000 in
set_option maxRecDepth 100000 in
theorem spec_scWhite.calls (a0 : Int) (r : Bool) (w : World) (h : spec_scWhite.f a0 = some r) :
    Calls Tryd.prog 17 #[.int .i32 a0] w fun e w' => e = .returned (.bool r) ∧ Drawn0 w w' := by
  have H : (if a0 = 32 then (some true) else (some (a0 == 9))) = some r := h
  clear h
  by_cases c2 : a0 = 32
  · rw [if_pos c2] at H
    have c2b0 : (a0 == 32) = true := beq_iff_eq.mpr c2
    have c2b1 : (a0 != 32) = false := bne_eq_false_iff_eq.mpr c2
    clear c2
    obtain rfl := Option.some.inj H
    go_enter Tryd.func17, Tryd.ntmps17
    go_wp2
    go_ret
    exact ⟨by first | rfl | (simp; done) | (simp [*]; done), by repeat (first | exact Drawn0.refl _ | apply Drawn0.step)⟩
  · rw [if_neg c2] at H
    have c2b0 : (a0 == 32) = false := beq_eq_false_iff_ne.mpr c2
    have c2b1 : (a0 != 32) = true := bne_iff_ne.mpr c2
    obtain rfl := Option.some.inj H
    go_enter Tryd.func17, Tryd.ntmps17
    go_wp2
    go_ret
    exact ⟨by first | rfl | (simp; done) | (simp [*]; done), by repeat (first | exact Drawn0.refl _ | apply Drawn0.step)⟩

/-! ### spec_scMarker: function 33 -/
def spec_scMarker.f (l0 : List Int) : Option (Bool) := if (l0.length : Int) ≥ 3 then (if 0 < (l0.length : Int) then (if (rd l0 0) = 45 then (if 1 < (l0.length : Int) then (if (rd l0 1) = (rd l0 0) then (if 2 < (l0.length : Int) then (some ((rd l0 2) == (rd l0 0))) else (none)) else (some false)) else (none)) else (if (rd l0 0) = 46 then (if 1 < (l0.length : Int) then (if (rd l0 1) = (rd l0 0) then (if 2 < (l0.length : Int) then (some ((rd l0 2) == (rd l0 0))) else (none)) else (some false)) else (none)) else (some false))) else (none)) else (some false)
set_option maxHeartbeats 8000000 in
set_option maxRecDepth 100000 in
theorem spec_scMarker.calls (A0 : Option Addr) (c0 : Nat) (l0 : List Int) (r : Bool) (w : World) (hr0 : Kd.C (Kd.int .i32) w A0 l0.length l0) (hc0 : l0.length ≤ c0) (h : spec_scMarker.f l0 = some r) :
    Calls Tryd.prog 33 #[.slice A0 l0.length c0] w fun e w' => e = .returned (.bool r) ∧ Drawn0 w w' := by
  have HR0 := Aside0.mk hr0
  have HC0 := Aside0.mk hc0
  clear hr0 hc0
  have H : (if (l0.length : Int) ≥ 3 then (if 0 < (l0.length : Int) then (if (rd l0 0) = 45 then (if 1 < (l0.length : Int) then (if (rd l0 1) = (rd l0 0) then (if 2 < (l0.length : Int) then (some ((rd l0 2) == (rd l0 0))) else (none)) else (some false)) else (none)) else (if (rd l0 0) = 46 then (if 1 < (l0.length : Int) then (if (rd l0 1) = (rd l0 0) then (if 2 < (l0.length : Int) then (some ((rd l0 2) == (rd l0 0))) else (none)) else (some false)) else (none)) else (some false))) else (none)) else (some false)) = some r := h
  clear h
  by_cases c2 : (l0.length : Int) ≥ 3
  · rw [if_pos c2] at H
    have c2b0 : decide (3 ≤ (l0.length : Int)) = true := decide_eq_true c2
    have c2b1 : decide (3 ≤ l0.length) = true := decide_eq_true (by omega)
    clear c2
    by_cases c3 : 0 < (l0.length : Int)
    · rw [if_pos c3] at H
      have c3b0 : decide (0 < (l0.length : Int)) = true := decide_eq_true c3
      have c3b1 : decide (0 < l0.length) = true := decide_eq_true (by omega)
      clear c3
      by_cases c4 : (rd l0 0) = 45
      · rw [if_pos c4] at H
        have c4b0 : ((rd l0 0) == 45) = true := beq_iff_eq.mpr c4
        have c4b1 : ((rd l0 0) != 45) = false := bne_eq_false_iff_eq.mpr c4
        clear c4
        by_cases c5 : 1 < (l0.length : Int)
        · rw [if_pos c5] at H
          have c5b0 : decide (1 < (l0.length : Int)) = true := decide_eq_true c5
          have c5b1 : decide (1 < l0.length) = true := decide_eq_true (by omega)
          clear c5
          by_cases c6 : (rd l0 1) = (rd l0 0)
          · rw [if_pos c6] at H
            have c6b0 : ((rd l0 1) == (rd l0 0)) = true := beq_iff_eq.mpr c6
            have c6b1 : ((rd l0 1) != (rd l0 0)) = false := bne_eq_false_iff_eq.mpr c6
            clear c6
            by_cases c7 : 2 < (l0.length : Int)
            · rw [if_pos c7] at H
              have c7b0 : decide (2 < (l0.length : Int)) = true := decide_eq_true c7
              have c7b1 : decide (2 < l0.length) = true := decide_eq_true (by omega)
              clear c7
              obtain rfl := Option.some.inj H
              have p111 : 0 ≤ (0 : Int) := (by omega)
              have q111 : 0 < (l0.length : Int) := of_decide_eq_true (by first | (with_reducible assumption) | assumption)
              obtain ⟨ad111, e111, hx111_0⟩ := Kd.at_int HR0.out 0 p111 q111
              cases e111
              have qi111 : (0 < l0.length) = True := eq_true (by omega)
              (try rw [show ((0 : Int)).toNat = 0 from rfl] at hx111_0)
              (try rw [Addr.add_zero'] at hx111_0)
              replace p111 := eq_true p111
              replace q111 := eq_true q111
              have p112 : 0 ≤ (1 : Int) := (by omega)
              have q112 : 1 < (l0.length : Int) := of_decide_eq_true (by first | (with_reducible assumption) | assumption)
              obtain ⟨ad112, e112, hx112_0⟩ := Kd.at_int HR0.out 1 p112 q112
              obtain rfl : ad111 = ad112 := (by injection e112)
              (try simp only [show (1 : Int).toNat = 1 from rfl, Nat.reduceMul, Nat.reduceEqDiff, Go.Addr.add, ↓reduceIte] at hx112_0)
              have qi112 : (1 < l0.length) = True := eq_true (by omega)
              (try rw [show ((1 : Int)).toNat = 1 from rfl] at hx112_0)
              replace p112 := eq_true p112
              replace q112 := eq_true q112
              have p113 : 0 ≤ (0 : Int) := (by omega)
              have q113 : 0 < (l0.length : Int) := of_decide_eq_true (by first | (with_reducible assumption) | assumption)
              obtain ⟨ad113, e113, hx113_0⟩ := Kd.at_int HR0.out 0 p113 q113
              obtain rfl : ad111 = ad113 := (by injection e113)
              have qi113 : (0 < l0.length) = True := eq_true (by omega)
              (try rw [show ((0 : Int)).toNat = 0 from rfl] at hx113_0)
              (try rw [Addr.add_zero'] at hx113_0)
              replace p113 := eq_true p113
              replace q113 := eq_true q113
              have p114 : 0 ≤ (2 : Int) := (by omega)
              have q114 : 2 < (l0.length : Int) := of_decide_eq_true (by first | (with_reducible assumption) | assumption)
              obtain ⟨ad114, e114, hx114_0⟩ := Kd.at_int HR0.out 2 p114 q114
              obtain rfl : ad111 = ad114 := (by injection e114)
              (try simp only [show (2 : Int).toNat = 2 from rfl, Nat.reduceMul, Nat.reduceEqDiff, Go.Addr.add, ↓reduceIte] at hx114_0)
              have qi114 : (2 < l0.length) = True := eq_true (by omega)
              (try rw [show ((2 : Int)).toNat = 2 from rfl] at hx114_0)
              replace p114 := eq_true p114
              replace q114 := eq_true q114
              have p115 : 0 ≤ (0 : Int) := (by omega)
              have q115 : 0 < (l0.length : Int) := of_decide_eq_true (by first | (with_reducible assumption) | assumption)
              obtain ⟨ad115, e115, hx115_0⟩ := Kd.at_int HR0.out 0 p115 q115
              obtain rfl : ad111 = ad115 := (by injection e115)
              have qi115 : (0 < l0.length) = True := eq_true (by omega)
              (try rw [show ((0 : Int)).toNat = 0 from rfl] at hx115_0)
              (try rw [Addr.add_zero'] at hx115_0)
              replace p115 := eq_true p115
              replace q115 := eq_true q115
              go_enter Tryd.func33, Tryd.ntmps33
              go_wp2
              repeat (go_quiet (fail); try go_wp2)
              go_ret
              exact ⟨by first | rfl | (simp; done) | (simp [*]; done), by repeat (first | exact Drawn0.refl _ | apply Drawn0.step)⟩
            · rw [if_neg c7] at H
              exact absurd H (by simp)
          · rw [if_neg c6] at H
            have c6b0 : ((rd l0 1) == (rd l0 0)) = false := beq_eq_false_iff_ne.mpr c6
            have c6b1 : ((rd l0 1) != (rd l0 0)) = true := bne_iff_ne.mpr c6
            obtain rfl := Option.some.inj H
            have p111 : 0 ≤ (0 : Int) := (by omega)
            have q111 : 0 < (l0.length : Int) := of_decide_eq_true (by first | (with_reducible assumption) | assumption)
            obtain ⟨ad111, e111, hx111_0⟩ := Kd.at_int HR0.out 0 p111 q111
            cases e111
            have qi111 : (0 < l0.length) = True := eq_true (by omega)
            (try rw [show ((0 : Int)).toNat = 0 from rfl] at hx111_0)
            (try rw [Addr.add_zero'] at hx111_0)
            replace p111 := eq_true p111
            replace q111 := eq_true q111
            have p112 : 0 ≤ (1 : Int) := (by omega)
            have q112 : 1 < (l0.length : Int) := of_decide_eq_true (by first | (with_reducible assumption) | assumption)
            obtain ⟨ad112, e112, hx112_0⟩ := Kd.at_int HR0.out 1 p112 q112
            obtain rfl : ad111 = ad112 := (by injection e112)
            (try simp only [show (1 : Int).toNat = 1 from rfl, Nat.reduceMul, Nat.reduceEqDiff, Go.Addr.add, ↓reduceIte] at hx112_0)
            have qi112 : (1 < l0.length) = True := eq_true (by omega)
            (try rw [show ((1 : Int)).toNat = 1 from rfl] at hx112_0)
            replace p112 := eq_true p112
            replace q112 := eq_true q112
            have p113 : 0 ≤ (0 : Int) := (by omega)
            have q113 : 0 < (l0.length : Int) := of_decide_eq_true (by first | (with_reducible assumption) | assumption)
            obtain ⟨ad113, e113, hx113_0⟩ := Kd.at_int HR0.out 0 p113 q113
            obtain rfl : ad111 = ad113 := (by injection e113)
            have qi113 : (0 < l0.length) = True := eq_true (by omega)
            (try rw [show ((0 : Int)).toNat = 0 from rfl] at hx113_0)
            (try rw [Addr.add_zero'] at hx113_0)
            replace p113 := eq_true p113
            replace q113 := eq_true q113
            go_enter Tryd.func33, Tryd.ntmps33
            go_wp2
            repeat (go_quiet (fail); try go_wp2)
            go_ret
            exact ⟨by first | rfl | (simp; done) | (simp [*]; done), by repeat (first | exact Drawn0.refl _ | apply Drawn0.step)⟩
        · rw [if_neg c5] at H
          exact absurd H (by simp)
      · rw [if_neg c4] at H
        have c4b0 : ((rd l0 0) == 45) = false := beq_eq_false_iff_ne.mpr c4
        have c4b1 : ((rd l0 0) != 45) = true := bne_iff_ne.mpr c4
        by_cases c8 : (rd l0 0) = 46
        · rw [if_pos c8] at H
          have c8b0 : ((rd l0 0) == 46) = true := beq_iff_eq.mpr c8
          have c8b1 : ((rd l0 0) != 46) = false := bne_eq_false_iff_eq.mpr c8
          clear c8
          by_cases c9 : 1 < (l0.length : Int)
          · rw [if_pos c9] at H
            have c9b0 : decide (1 < (l0.length : Int)) = true := decide_eq_true c9
            have c9b1 : decide (1 < l0.length) = true := decide_eq_true (by omega)
            clear c9
            by_cases c10 : (rd l0 1) = (rd l0 0)
            · rw [if_pos c10] at H
              have c10b0 : ((rd l0 1) == (rd l0 0)) = true := beq_iff_eq.mpr c10
              have c10b1 : ((rd l0 1) != (rd l0 0)) = false := bne_eq_false_iff_eq.mpr c10
              clear c10
              by_cases c11 : 2 < (l0.length : Int)
              · rw [if_pos c11] at H
                have c11b0 : decide (2 < (l0.length : Int)) = true := decide_eq_true c11
                have c11b1 : decide (2 < l0.length) = true := decide_eq_true (by omega)
                clear c11
                obtain rfl := Option.some.inj H
                have p111 : 0 ≤ (0 : Int) := (by omega)
                have q111 : 0 < (l0.length : Int) := of_decide_eq_true (by first | (with_reducible assumption) | assumption)
                obtain ⟨ad111, e111, hx111_0⟩ := Kd.at_int HR0.out 0 p111 q111
                cases e111
                have qi111 : (0 < l0.length) = True := eq_true (by omega)
                (try rw [show ((0 : Int)).toNat = 0 from rfl] at hx111_0)
                (try rw [Addr.add_zero'] at hx111_0)
                replace p111 := eq_true p111
                replace q111 := eq_true q111
                have p116 : 0 ≤ (0 : Int) := (by omega)
                have q116 : 0 < (l0.length : Int) := of_decide_eq_true (by first | (with_reducible assumption) | assumption)
                obtain ⟨ad116, e116, hx116_0⟩ := Kd.at_int HR0.out 0 p116 q116
                obtain rfl : ad111 = ad116 := (by injection e116)
                have qi116 : (0 < l0.length) = True := eq_true (by omega)
                (try rw [show ((0 : Int)).toNat = 0 from rfl] at hx116_0)
                (try rw [Addr.add_zero'] at hx116_0)
                replace p116 := eq_true p116
                replace q116 := eq_true q116
                have p117 : 0 ≤ (1 : Int) := (by omega)
                have q117 : 1 < (l0.length : Int) := of_decide_eq_true (by first | (with_reducible assumption) | assumption)
                obtain ⟨ad117, e117, hx117_0⟩ := Kd.at_int HR0.out 1 p117 q117
                obtain rfl : ad111 = ad117 := (by injection e117)
                (try simp only [show (1 : Int).toNat = 1 from rfl, Nat.reduceMul, Nat.reduceEqDiff, Go.Addr.add, ↓reduceIte] at hx117_0)
                have qi117 : (1 < l0.length) = True := eq_true (by omega)
                (try rw [show ((1 : Int)).toNat = 1 from rfl] at hx117_0)
                replace p117 := eq_true p117
                replace q117 := eq_true q117
                have p118 : 0 ≤ (0 : Int) := (by omega)
                have q118 : 0 < (l0.length : Int) := of_decide_eq_true (by first | (with_reducible assumption) | assumption)
                obtain ⟨ad118, e118, hx118_0⟩ := Kd.at_int HR0.out 0 p118 q118
                obtain rfl : ad111 = ad118 := (by injection e118)
                have qi118 : (0 < l0.length) = True := eq_true (by omega)
                (try rw [show ((0 : Int)).toNat = 0 from rfl] at hx118_0)
                (try rw [Addr.add_zero'] at hx118_0)
                replace p118 := eq_true p118
                replace q118 := eq_true q118
                have p119 : 0 ≤ (2 : Int) := (by omega)
                have q119 : 2 < (l0.length : Int) := of_decide_eq_true (by first | (with_reducible assumption) | assumption)
                obtain ⟨ad119, e119, hx119_0⟩ := Kd.at_int HR0.out 2 p119 q119
                obtain rfl : ad111 = ad119 := (by injection e119)
                (try simp only [show (2 : Int).toNat = 2 from rfl, Nat.reduceMul, Nat.reduceEqDiff, Go.Addr.add, ↓reduceIte] at hx119_0)
                have qi119 : (2 < l0.length) = True := eq_true (by omega)
                (try rw [show ((2 : Int)).toNat = 2 from rfl] at hx119_0)
                replace p119 := eq_true p119
                replace q119 := eq_true q119
                have p120 : 0 ≤ (0 : Int) := (by omega)
                have q120 : 0 < (l0.length : Int) := of_decide_eq_true (by first | (with_reducible assumption) | assumption)
                obtain ⟨ad120, e120, hx120_0⟩ := Kd.at_int HR0.out 0 p120 q120
                obtain rfl : ad111 = ad120 := (by injection e120)
                have qi120 : (0 < l0.length) = True := eq_true (by omega)
                (try rw [show ((0 : Int)).toNat = 0 from rfl] at hx120_0)
                (try rw [Addr.add_zero'] at hx120_0)
                replace p120 := eq_true p120
                replace q120 := eq_true q120
                go_enter Tryd.func33, Tryd.ntmps33
                go_wp2
                repeat (go_quiet (fail); try go_wp2)
                go_ret
                exact ⟨by first | rfl | (simp; done) | (simp [*]; done), by repeat (first | exact Drawn0.refl _ | apply Drawn0.step)⟩
              · rw [if_neg c11] at H
                exact absurd H (by simp)
            · rw [if_neg c10] at H
              have c10b0 : ((rd l0 1) == (rd l0 0)) = false := beq_eq_false_iff_ne.mpr c10
              have c10b1 : ((rd l0 1) != (rd l0 0)) = true := bne_iff_ne.mpr c10
              obtain rfl := Option.some.inj H
              have p111 : 0 ≤ (0 : Int) := (by omega)
              have q111 : 0 < (l0.length : Int) := of_decide_eq_true (by first | (with_reducible assumption) | assumption)
              obtain ⟨ad111, e111, hx111_0⟩ := Kd.at_int HR0.out 0 p111 q111
              cases e111
              have qi111 : (0 < l0.length) = True := eq_true (by omega)
              (try rw [show ((0 : Int)).toNat = 0 from rfl] at hx111_0)
              (try rw [Addr.add_zero'] at hx111_0)
              replace p111 := eq_true p111
              replace q111 := eq_true q111
              have p116 : 0 ≤ (0 : Int) := (by omega)
              have q116 : 0 < (l0.length : Int) := of_decide_eq_true (by first | (with_reducible assumption) | assumption)
              obtain ⟨ad116, e116, hx116_0⟩ := Kd.at_int HR0.out 0 p116 q116
              obtain rfl : ad111 = ad116 := (by injection e116)
              have qi116 : (0 < l0.length) = True := eq_true (by omega)
              (try rw [show ((0 : Int)).toNat = 0 from rfl] at hx116_0)
              (try rw [Addr.add_zero'] at hx116_0)
              replace p116 := eq_true p116
              replace q116 := eq_true q116
              have p117 : 0 ≤ (1 : Int) := (by omega)
              have q117 : 1 < (l0.length : Int) := of_decide_eq_true (by first | (with_reducible assumption) | assumption)
              obtain ⟨ad117, e117, hx117_0⟩ := Kd.at_int HR0.out 1 p117 q117
              obtain rfl : ad111 = ad117 := (by injection e117)
              (try simp only [show (1 : Int).toNat = 1 from rfl, Nat.reduceMul, Nat.reduceEqDiff, Go.Addr.add, ↓reduceIte] at hx117_0)
              have qi117 : (1 < l0.length) = True := eq_true (by omega)
              (try rw [show ((1 : Int)).toNat = 1 from rfl] at hx117_0)
              replace p117 := eq_true p117
              replace q117 := eq_true q117
              have p118 : 0 ≤ (0 : Int) := (by omega)
              have q118 : 0 < (l0.length : Int) := of_decide_eq_true (by first | (with_reducible assumption) | assumption)
              obtain ⟨ad118, e118, hx118_0⟩ := Kd.at_int HR0.out 0 p118 q118
              obtain rfl : ad111 = ad118 := (by injection e118)
              have qi118 : (0 < l0.length) = True := eq_true (by omega)
              (try rw [show ((0 : Int)).toNat = 0 from rfl] at hx118_0)
              (try rw [Addr.add_zero'] at hx118_0)
              replace p118 := eq_true p118
              replace q118 := eq_true q118
              go_enter Tryd.func33, Tryd.ntmps33
              go_wp2
              repeat (go_quiet (fail); try go_wp2)
              go_ret
              exact ⟨by first | rfl | (simp; done) | (simp [*]; done), by repeat (first | exact Drawn0.refl _ | apply Drawn0.step)⟩
          · rw [if_neg c9] at H
            exact absurd H (by simp)
        · rw [if_neg c8] at H
          have c8b0 : ((rd l0 0) == 46) = false := beq_eq_false_iff_ne.mpr c8
          have c8b1 : ((rd l0 0) != 46) = true := bne_iff_ne.mpr c8
          obtain rfl := Option.some.inj H
          have p111 : 0 ≤ (0 : Int) := (by omega)
          have q111 : 0 < (l0.length : Int) := of_decide_eq_true (by first | (with_reducible assumption) | assumption)
          obtain ⟨ad111, e111, hx111_0⟩ := Kd.at_int HR0.out 0 p111 q111
          cases e111
          have qi111 : (0 < l0.length) = True := eq_true (by omega)
          (try rw [show ((0 : Int)).toNat = 0 from rfl] at hx111_0)
          (try rw [Addr.add_zero'] at hx111_0)
          replace p111 := eq_true p111
          replace q111 := eq_true q111
          have p116 : 0 ≤ (0 : Int) := (by omega)
          have q116 : 0 < (l0.length : Int) := of_decide_eq_true (by first | (with_reducible assumption) | assumption)
          obtain ⟨ad116, e116, hx116_0⟩ := Kd.at_int HR0.out 0 p116 q116
          obtain rfl : ad111 = ad116 := (by injection e116)
          have qi116 : (0 < l0.length) = True := eq_true (by omega)
          (try rw [show ((0 : Int)).toNat = 0 from rfl] at hx116_0)
          (try rw [Addr.add_zero'] at hx116_0)
          replace p116 := eq_true p116
          replace q116 := eq_true q116
          go_enter Tryd.func33, Tryd.ntmps33
          go_wp2
          repeat (go_quiet (fail); try go_wp2)
          go_ret
          exact ⟨by first | rfl | (simp; done) | (simp [*]; done), by repeat (first | exact Drawn0.refl _ | apply Drawn0.step)⟩
    · rw [if_neg c3] at H
      exact absurd H (by simp)
  · rw [if_neg c2] at H
    have c2b0 : decide (3 ≤ (l0.length : Int)) = false := decide_eq_false c2
    have c2b1 : decide (3 ≤ l0.length) = false := decide_eq_false (by omega)
    clear c2
    obtain rfl := Option.some.inj H
    go_enter Tryd.func33, Tryd.ntmps33
    go_wp2
    repeat (go_quiet (fail); try go_wp2)
    go_ret
    exact ⟨by first | rfl | (simp; done) | (simp [*]; done), by repeat (first | exact Drawn0.refl _ | apply Drawn0.step)⟩

/-! ### spec_scMarkerAt: function 22 -/
def spec_scMarkerAt.f (l0 : List Int) (a1 : Int) : Option (Bool) := if 0 ≤ a1 then (if a1 ≤ (l0.length : Int) then ((spec_scMarker.f (l0.drop (a1 : Int).toNat)).bind fun t122 => (if t122 = true then (if (wrap64 (a1 + 3)) < (l0.length : Int) then (if 0 ≤ (wrap64 (a1 + 3)) then ((spec_scWhite.f (rd l0 (wrap64 (a1 + 3)))).bind fun t124 => (if t124 = true then (some true) else (some ((rd l0 (wrap64 (a1 + 3))) == 10)))) else (none)) else (some false)) else (some false))) else (none)) else (none)
set_option maxHeartbeats 8000000 in
set_option maxRecDepth 100000 in
theorem spec_scMarkerAt.calls (A0 : Option Addr) (c0 : Nat) (l0 : List Int) (a1 : Int) (r : Bool) (w : World) (hr0 : Kd.C (Kd.int .i32) w A0 l0.length l0) (hc0 : l0.length ≤ c0) (h : spec_scMarkerAt.f l0 a1 = some r) :
    Calls Tryd.prog 22 #[.slice A0 l0.length c0, .int .i64 a1] w fun e w' => e = .returned (.bool r) ∧ Drawn0 w w' := by
  have HR0 := Aside0.mk hr0
  have HC0 := Aside0.mk hc0
  clear hr0 hc0
  have H : (if 0 ≤ a1 then (if a1 ≤ (l0.length : Int) then ((spec_scMarker.f (l0.drop (a1 : Int).toNat)).bind fun t122 => (if t122 = true then (if (wrap64 (a1 + 3)) < (l0.length : Int) then (if 0 ≤ (wrap64 (a1 + 3)) then ((spec_scWhite.f (rd l0 (wrap64 (a1 + 3)))).bind fun t124 => (if t124 = true then (some true) else (some ((rd l0 (wrap64 (a1 + 3))) == 10)))) else (none)) else (some false)) else (some false))) else (none)) else (none)) = some r := h
  clear h
  by_cases c3 : 0 ≤ a1
  · rw [if_pos c3] at H
    have c3b0 := eq_true c3
    have c3b1 : decide (0 ≤ a1) = true := decide_eq_true c3
    clear c3
    by_cases c4 : a1 ≤ (l0.length : Int)
    · rw [if_pos c4] at H
      have c4b0 := eq_true c4
      have c4b1 : decide (a1 ≤ (l0.length : Int)) = true := decide_eq_true c4
      clear c4
      replace H := Option.bind_eq_some_iff.mp H
      obtain ⟨t122, A50, H⟩ := H
      replace H : (if t122 = true then (if (wrap64 (a1 + 3)) < (l0.length : Int) then (if 0 ≤ (wrap64 (a1 + 3)) then ((spec_scWhite.f (rd l0 (wrap64 (a1 + 3)))).bind fun t124 => (if t124 = true then (some true) else (some ((rd l0 (wrap64 (a1 + 3))) == 10)))) else (none)) else (some false)) else (some false)) = some r := H
      have A5 := Aside0.mk A50
      clear A50
      by_cases c6 : t122 = true
      · subst c6
        have H1 : (if (wrap64 (a1 + 3)) < (l0.length : Int) then (if 0 ≤ (wrap64 (a1 + 3)) then ((spec_scWhite.f (rd l0 (wrap64 (a1 + 3)))).bind fun t124 => (if t124 = true then (some true) else (some ((rd l0 (wrap64 (a1 + 3))) == 10)))) else (none)) else (some false)) = some r := by rw [if_pos rfl] at H; exact H
        clear H
        have H := H1
        clear H1
        by_cases c7 : (wrap64 (a1 + 3)) < (l0.length : Int)
        · rw [if_pos c7] at H
          have c7b0 : decide ((wrap64 (a1 + 3)) < (l0.length : Int)) = true := decide_eq_true c7
          clear c7
          obtain ⟨ji8, hji8⟩ : ∃ j_ : Int, (wrap64 (a1 + 3)) = j_ := ⟨_, rfl⟩
          replace H : (if 0 ≤ (ji8) then ((spec_scWhite.f (rd l0 (ji8))).bind fun t124 => (if t124 = true then (some true) else (some ((rd l0 (ji8)) == 10)))) else (none)) = some r := by first | (rw [hji8] at H; exact H) | (simp only [hji8] at H ⊢; exact H)
          (try rw [hji8] at c7b0)
          (try rw [hji8] at A5)
          have hji8w : (IntKind.i64.wrap (a1 + 3)) = ji8 := (i64_w _).trans hji8
          by_cases c9 : 0 ≤ (ji8)
          · rw [if_pos c9] at H
            have c9b0 : decide (0 ≤ (ji8)) = true := decide_eq_true c9
            clear c9
            replace H := Option.bind_eq_some_iff.mp H
            obtain ⟨t124, A100, H⟩ := H
            replace H : (if t124 = true then (some true) else (some ((rd l0 (ji8)) == 10))) = some r := H
            have A10 := Aside0.mk A100
            clear A100
            by_cases c11 : t124 = true
            · subst c11
              have H1 : (some true) = some r := by rw [if_pos rfl] at H; exact H
              clear H
              have H := H1
              clear H1
              obtain rfl := Option.some.inj H
              obtain ⟨i012, hi012, _, hsz12, _⟩ := info_parts info21
              obtain ⟨A12, hcut12, hA12, hC12⟩ := print_drop_of (P := Tryd.prog) (Value.int .i32) 0 32 21 .i64 Tryd.underlying32 hi012 hsz12 A0 c0 l0 a1 (of_decide_eq_true (by first | (with_reducible assumption) | assumption)) (of_decide_eq_true (by first | (with_reducible assumption) | assumption)) HC0.out
              have HR121 := Aside0.mk (Kd.C_of_reads (h1 := fun _ => rfl) (hA12 _ (Kd.reads_of_C HR0.out)))
              have HC121 := Aside0.mk hC12
              clear hA12 hC12 hi012 hsz12
              go_enter Tryd.func22, Tryd.ntmps22
              go_wp2_with (first | ((with_reducible refine gate_callee (f := 33) rfl ?_); refine goesL_ (some 8) rfl rfl Tryd.func33 (by kernel_rfl) rfl #[.slice A12 (l0.drop (a1 : Int).toNat).length (c0 - a1.toNat)] rfl (by (try simp only [List.map_toArray, List.map_cons, List.map_nil]); first | done | (rw [show (l0.drop (a1 : Int).toNat).length = (l0.length - a1.toNat) from List.length_drop] <;> rfl) | rfl | (simp only [List.length_drop, List.length_take]; rfl)) ?_; (with_reducible refine (spec_scMarker.calls _ _ (l0.drop (a1 : Int).toNat) true _ ?side1 ?side2 A5.out).mono ?_); (case side1 => repeat (first | exact HR121.out | (with_reducible refine Kd.C_alloc ?_ _) | (with_reducible refine Kd.C_drewN ?_ _) | (with_reducible refine Kd.C_drew ?_))); (case side2 => exact HC121.out); rintro e w' ⟨rfl, ⟨nd, rfl⟩⟩; refine ⟨_, rfl, ?_⟩; have p123 : 0 ≤ ((ji8) : Int) := of_decide_eq_true (by first | (with_reducible assumption) | assumption); have q123 : (ji8) < (l0.length : Int) := of_decide_eq_true (by first | (with_reducible assumption) | assumption); obtain ⟨ad123, e123, hx123_0⟩ := Kd.at_int HR0.out (ji8) p123 q123; cases e123; replace p123 := eq_true p123; replace q123 := eq_true q123) | (go_at_call 17; (with_reducible refine (spec_scWhite.calls (rd l0 (ji8)) true _ A10.out).mono ?_); rintro e w' ⟨rfl, ⟨nd, rfl⟩⟩))
              go_ret
              exact ⟨by first | rfl | (simp; done) | (simp only [← hji8] <;> (first | rfl | simp)) | (simp [*]; done), by repeat (first | exact Drawn0.refl _ | apply Drawn0.step)⟩
            · replace c11 := Bool.eq_false_iff.mpr c11
              subst c11
              have H1 : (some ((rd l0 (ji8)) == 10)) = some r := by rw [if_neg (show ¬ (false = true) by decide)] at H; exact H
              clear H
              have H := H1
              clear H1
              obtain rfl := Option.some.inj H
              obtain ⟨i013, hi013, _, hsz13, _⟩ := info_parts info21
              obtain ⟨A13, hcut13, hA13, hC13⟩ := print_drop_of (P := Tryd.prog) (Value.int .i32) 0 32 21 .i64 Tryd.underlying32 hi013 hsz13 A0 c0 l0 a1 (of_decide_eq_true (by first | (with_reducible assumption) | assumption)) (of_decide_eq_true (by first | (with_reducible assumption) | assumption)) HC0.out
              have HR121 := Aside0.mk (Kd.C_of_reads (h1 := fun _ => rfl) (hA13 _ (Kd.reads_of_C HR0.out)))
              have HC121 := Aside0.mk hC13
              clear hA13 hC13 hi013 hsz13
              go_enter Tryd.func22, Tryd.ntmps22
              go_wp2_with (first | ((with_reducible refine gate_callee (f := 33) rfl ?_); refine goesL_ (some 8) rfl rfl Tryd.func33 (by kernel_rfl) rfl #[.slice A13 (l0.drop (a1 : Int).toNat).length (c0 - a1.toNat)] rfl (by (try simp only [List.map_toArray, List.map_cons, List.map_nil]); first | done | (rw [show (l0.drop (a1 : Int).toNat).length = (l0.length - a1.toNat) from List.length_drop] <;> rfl) | rfl | (simp only [List.length_drop, List.length_take]; rfl)) ?_; (with_reducible refine (spec_scMarker.calls _ _ (l0.drop (a1 : Int).toNat) true _ ?side1 ?side2 A5.out).mono ?_); (case side1 => repeat (first | exact HR121.out | (with_reducible refine Kd.C_alloc ?_ _) | (with_reducible refine Kd.C_drewN ?_ _) | (with_reducible refine Kd.C_drew ?_))); (case side2 => exact HC121.out); rintro e w' ⟨rfl, ⟨nd, rfl⟩⟩; refine ⟨_, rfl, ?_⟩; have p123 : 0 ≤ ((ji8) : Int) := of_decide_eq_true (by first | (with_reducible assumption) | assumption); have q123 : (ji8) < (l0.length : Int) := of_decide_eq_true (by first | (with_reducible assumption) | assumption); obtain ⟨ad123, e123, hx123_0⟩ := Kd.at_int HR0.out (ji8) p123 q123; cases e123; replace p123 := eq_true p123; replace q123 := eq_true q123) | (go_at_call 17; (with_reducible refine (spec_scWhite.calls (rd l0 (ji8)) false _ A10.out).mono ?_); rintro e w' ⟨rfl, ⟨nd, rfl⟩⟩; have p125 : 0 ≤ ((ji8) : Int) := of_decide_eq_true (by first | (with_reducible assumption) | assumption); have q125 : (ji8) < (l0.length : Int) := of_decide_eq_true (by first | (with_reducible assumption) | assumption); obtain ⟨ad125, e125, hx125_0⟩ := Kd.at_int HR0.out (ji8) p125 q125; obtain rfl : ad123 = ad125 := (by injection e125); replace p125 := eq_true p125; replace q125 := eq_true q125))
              go_ret
              exact ⟨by first | rfl | (simp; done) | (simp only [← hji8] <;> (first | rfl | simp)) | (simp [*]; done), by repeat (first | exact Drawn0.refl _ | apply Drawn0.step)⟩
          · rw [if_neg c9] at H
            exact absurd H (by simp)
        · rw [if_neg c7] at H
          have c7b0 : decide ((wrap64 (a1 + 3)) < (l0.length : Int)) = false := decide_eq_false c7
          clear c7
          obtain rfl := Option.some.inj H
          obtain ⟨i014, hi014, _, hsz14, _⟩ := info_parts info21
          obtain ⟨A14, hcut14, hA14, hC14⟩ := print_drop_of (P := Tryd.prog) (Value.int .i32) 0 32 21 .i64 Tryd.underlying32 hi014 hsz14 A0 c0 l0 a1 (of_decide_eq_true (by first | (with_reducible assumption) | assumption)) (of_decide_eq_true (by first | (with_reducible assumption) | assumption)) HC0.out
          have HR121 := Aside0.mk (Kd.C_of_reads (h1 := fun _ => rfl) (hA14 _ (Kd.reads_of_C HR0.out)))
          have HC121 := Aside0.mk hC14
          clear hA14 hC14 hi014 hsz14
          go_enter Tryd.func22, Tryd.ntmps22
          go_wp2_with (first | ((with_reducible refine gate_callee (f := 33) rfl ?_); refine goesL_ (some 8) rfl rfl Tryd.func33 (by kernel_rfl) rfl #[.slice A14 (l0.drop (a1 : Int).toNat).length (c0 - a1.toNat)] rfl (by (try simp only [List.map_toArray, List.map_cons, List.map_nil]); first | done | (rw [show (l0.drop (a1 : Int).toNat).length = (l0.length - a1.toNat) from List.length_drop] <;> rfl) | rfl | (simp only [List.length_drop, List.length_take]; rfl)) ?_; (with_reducible refine (spec_scMarker.calls _ _ (l0.drop (a1 : Int).toNat) true _ ?side1 ?side2 A5.out).mono ?_); (case side1 => repeat (first | exact HR121.out | (with_reducible refine Kd.C_alloc ?_ _) | (with_reducible refine Kd.C_drewN ?_ _) | (with_reducible refine Kd.C_drew ?_))); (case side2 => exact HC121.out); rintro e w' ⟨rfl, ⟨nd, rfl⟩⟩; refine ⟨_, rfl, ?_⟩))
          go_ret
          exact ⟨by first | rfl | (simp; done) | (simp [*]; done), by repeat (first | exact Drawn0.refl _ | apply Drawn0.step)⟩
      · replace c6 := Bool.eq_false_iff.mpr c6
        subst c6
        have H1 : (some false) = some r := by rw [if_neg (show ¬ (false = true) by decide)] at H; exact H
        clear H
        have H := H1
        clear H1
        obtain rfl := Option.some.inj H
        obtain ⟨i015, hi015, _, hsz15, _⟩ := info_parts info21
        obtain ⟨A15, hcut15, hA15, hC15⟩ := print_drop_of (P := Tryd.prog) (Value.int .i32) 0 32 21 .i64 Tryd.underlying32 hi015 hsz15 A0 c0 l0 a1 (of_decide_eq_true (by first | (with_reducible assumption) | assumption)) (of_decide_eq_true (by first | (with_reducible assumption) | assumption)) HC0.out
        have HR121 := Aside0.mk (Kd.C_of_reads (h1 := fun _ => rfl) (hA15 _ (Kd.reads_of_C HR0.out)))
        have HC121 := Aside0.mk hC15
        clear hA15 hC15 hi015 hsz15
        go_enter Tryd.func22, Tryd.ntmps22
        go_wp2_with (first | ((with_reducible refine gate_callee (f := 33) rfl ?_); refine goesL_ (some 8) rfl rfl Tryd.func33 (by kernel_rfl) rfl #[.slice A15 (l0.drop (a1 : Int).toNat).length (c0 - a1.toNat)] rfl (by (try simp only [List.map_toArray, List.map_cons, List.map_nil]); first | done | (rw [show (l0.drop (a1 : Int).toNat).length = (l0.length - a1.toNat) from List.length_drop] <;> rfl) | rfl | (simp only [List.length_drop, List.length_take]; rfl)) ?_; (with_reducible refine (spec_scMarker.calls _ _ (l0.drop (a1 : Int).toNat) false _ ?side1 ?side2 A5.out).mono ?_); (case side1 => repeat (first | exact HR121.out | (with_reducible refine Kd.C_alloc ?_ _) | (with_reducible refine Kd.C_drewN ?_ _) | (with_reducible refine Kd.C_drew ?_))); (case side2 => exact HC121.out); rintro e w' ⟨rfl, ⟨nd, rfl⟩⟩; refine ⟨_, rfl, ?_⟩))
        go_ret
        exact ⟨by first | rfl | (simp; done) | (simp [*]; done), by repeat (first | exact Drawn0.refl _ | apply Drawn0.step)⟩
    · rw [if_neg c4] at H
      exact absurd H (by simp)
  · rw [if_neg c3] at H
    exact absurd H (by simp)

/-! ### spec_scLong: function 23 -/
def spec_scLong.f (a0 : Int) : Option (Int) := if a0 = 120 then (some 2) else (if a0 = 117 then (some 4) else (if a0 = 85 then (some 8) else (some 0)))
set_option maxHeartbeats 8000000 in
set_option maxRecDepth 100000 in
theorem spec_scLong.calls (a0 : Int) (r : Int) (w : World) (h : spec_scLong.f a0 = some r) :
    Calls Tryd.prog 23 #[.int .i32 a0] w fun e w' => e = .returned (.int .i64 r) ∧ Drawn0 w w' := by
  have H : (if a0 = 120 then (some 2) else (if a0 = 117 then (some 4) else (if a0 = 85 then (some 8) else (some 0)))) = some r := h
  clear h
  by_cases c2 : a0 = 120
  · rw [if_pos c2] at H
    have c2b0 : (a0 == 120) = true := beq_iff_eq.mpr c2
    have c2b1 : (a0 != 120) = false := bne_eq_false_iff_eq.mpr c2
    clear c2
    obtain rfl := Option.some.inj H
    go_enter Tryd.func23, Tryd.ntmps23
    go_wp2
    go_ret
    exact ⟨by first | rfl | (simp; done) | (simp [*]; done), by repeat (first | exact Drawn0.refl _ | apply Drawn0.step)⟩
  · rw [if_neg c2] at H
    have c2b0 : (a0 == 120) = false := beq_eq_false_iff_ne.mpr c2
    have c2b1 : (a0 != 120) = true := bne_iff_ne.mpr c2
    by_cases c3 : a0 = 117
    · rw [if_pos c3] at H
      have c3b0 : (a0 == 117) = true := beq_iff_eq.mpr c3
      have c3b1 : (a0 != 117) = false := bne_eq_false_iff_eq.mpr c3
      clear c3
      obtain rfl := Option.some.inj H
      go_enter Tryd.func23, Tryd.ntmps23
      go_wp2
      go_ret
      exact ⟨by first | rfl | (simp; done) | (simp [*]; done), by repeat (first | exact Drawn0.refl _ | apply Drawn0.step)⟩
    · rw [if_neg c3] at H
      have c3b0 : (a0 == 117) = false := beq_eq_false_iff_ne.mpr c3
      have c3b1 : (a0 != 117) = true := bne_iff_ne.mpr c3
      by_cases c4 : a0 = 85
      · rw [if_pos c4] at H
        have c4b0 : (a0 == 85) = true := beq_iff_eq.mpr c4
        have c4b1 : (a0 != 85) = false := bne_eq_false_iff_eq.mpr c4
        clear c4
        obtain rfl := Option.some.inj H
        go_enter Tryd.func23, Tryd.ntmps23
        go_wp2
        go_ret
        exact ⟨by first | rfl | (simp; done) | (simp [*]; done), by repeat (first | exact Drawn0.refl _ | apply Drawn0.step)⟩
      · rw [if_neg c4] at H
        have c4b0 : (a0 == 85) = false := beq_eq_false_iff_ne.mpr c4
        have c4b1 : (a0 != 85) = true := bne_iff_ne.mpr c4
        obtain rfl := Option.some.inj H
        go_enter Tryd.func23, Tryd.ntmps23
        go_wp2
        go_ret
        exact ⟨by first | rfl | (simp; done) | (simp [*]; done), by repeat (first | exact Drawn0.refl _ | apply Drawn0.step)⟩

/-! ### spec_scNamed: function 24 -/
mutual
def spec_scNamed.j0 : Nat → Int → Int → Bool → Option (Int)
  | 0, _, _, _ => none
  | k + 1, x0, x3, x10 => if x10 = true then (some 9) else (if x3 = 110 then (some 10) else (if x3 = 118 then (some 11) else (if x3 = 102 then (some 12) else (if x3 = 114 then (some 13) else (if x3 = 101 then (some 27) else (if x3 = 32 then (spec_scNamed.j1 k x0 x3 (x3 == 32)) else (if x3 = 34 then (spec_scNamed.j1 k x0 x3 (x3 == 34)) else (spec_scNamed.j1 k x0 x3 (x3 == 92)))))))))
def spec_scNamed.j1 : Nat → Int → Int → Bool → Option (Int)
  | 0, _, _, _ => none
  | k + 1, x0, x3, x23 => if x23 = true then (some x0) else (if x3 = 78 then (some 133) else (if x3 = 95 then (some 160) else (if x3 = 76 then (some 8232) else (if x3 = 80 then (some 8233) else (some (-1))))))
end
def spec_scNamed.f (k : Nat) (a0 : Int) : Option (Int) := if a0 = 48 then (some 0) else (if a0 = 97 then (some 7) else (if a0 = 98 then (some 8) else (if a0 = 116 then (spec_scNamed.j0 k a0 a0 (a0 == 116)) else (spec_scNamed.j0 k a0 a0 (a0 == 9)))))
theorem spec_scNamed.mono_l : ∀ k, (∀ y0 y1 y2, LeO (spec_scNamed.j0 k y0 y1 y2) (spec_scNamed.j0 (k + 1) y0 y1 y2)) ∧ (∀ y0 y1 y2, LeO (spec_scNamed.j1 k y0 y1 y2) (spec_scNamed.j1 (k + 1) y0 y1 y2))
  | 0 => ⟨fun _ _ _ r h => by simp [spec_scNamed.j0] at h, fun _ _ _ r h => by simp [spec_scNamed.j1] at h⟩
  | k + 1 => by
    obtain ⟨ih0, ih1⟩ := spec_scNamed.mono_l k
    refine ⟨?_, ?_⟩
    · intro y0 y1 y2
      unfold spec_scNamed.j0
      repeat' first
      | (with_reducible exact ih0 _ _ _)
      | (with_reducible exact ih1 _ _ _)
      | (with_reducible exact LeO.refl _)
      | (with_reducible exact LeO.none _)
      | (with_reducible refine LeO.ite ?_ ?_)
      | (with_reducible refine LeO.bind ?_ (fun _ => ?_))
      | exact ih0 _ _ _
      | exact ih1 _ _ _
      | exact LeO.none _
      | refine LeO.ite ?_ ?_
      | refine LeO.bind ?_ (fun _ => ?_)
    · intro y0 y1 y2
      unfold spec_scNamed.j1
      repeat' first
      | (with_reducible exact ih0 _ _ _)
      | (with_reducible exact ih1 _ _ _)
      | (with_reducible exact LeO.refl _)
      | (with_reducible exact LeO.none _)
      | (with_reducible refine LeO.ite ?_ ?_)
      | (with_reducible refine LeO.bind ?_ (fun _ => ?_))
      | exact ih0 _ _ _
      | exact ih1 _ _ _
      | exact LeO.none _
      | refine LeO.ite ?_ ?_
      | refine LeO.bind ?_ (fun _ => ?_)
theorem spec_scNamed.mono : ∀ a0 k, LeO (spec_scNamed.f k a0) (spec_scNamed.f (k + 1) a0) := by
  intro a0 k
  obtain ⟨ih0, ih1⟩ := spec_scNamed.mono_l k
  unfold spec_scNamed.f
  repeat' first
      | (with_reducible exact ih0 _ _ _)
      | (with_reducible exact ih1 _ _ _)
      | (with_reducible exact LeO.refl _)
      | (with_reducible exact LeO.none _)
      | (with_reducible refine LeO.ite ?_ ?_)
      | (with_reducible refine LeO.bind ?_ (fun _ => ?_))
      | exact ih0 _ _ _
      | exact ih1 _ _ _
      | exact LeO.none _
      | refine LeO.ite ?_ ?_
      | refine LeO.bind ?_ (fun _ => ?_)
set_option maxHeartbeats 8000000 in
set_option maxRecDepth 100000 in
theorem spec_scNamed.calls (k : Nat) (a0 : Int) (r : Int) (w : World) (h : spec_scNamed.f k a0 = some r) :
    Calls Tryd.prog 24 #[.int .i32 a0] w fun e w' => e = .returned (.int .i32 r) ∧ Drawn0 w w' := by
  have H : (if a0 = 48 then (some 0) else (if a0 = 97 then (some 7) else (if a0 = 98 then (some 8) else (if a0 = 116 then (spec_scNamed.j0 k a0 a0 (a0 == 116)) else (spec_scNamed.j0 k a0 a0 (a0 == 9)))))) = some r := h
  clear h
  by_cases c2 : a0 = 48
  · rw [if_pos c2] at H
    have c2b0 : (a0 == 48) = true := beq_iff_eq.mpr c2
    have c2b1 : (a0 != 48) = false := bne_eq_false_iff_eq.mpr c2
    clear c2
    obtain rfl := Option.some.inj H
    go_enter Tryd.func24, Tryd.ntmps24
    go_wp2
    go_ret
    exact ⟨by first | rfl | (simp; done) | (simp [*]; done), by repeat (first | exact Drawn0.refl _ | apply Drawn0.step)⟩
  · rw [if_neg c2] at H
    have c2b0 : (a0 == 48) = false := beq_eq_false_iff_ne.mpr c2
    have c2b1 : (a0 != 48) = true := bne_iff_ne.mpr c2
    by_cases c3 : a0 = 97
    · rw [if_pos c3] at H
      have c3b0 : (a0 == 97) = true := beq_iff_eq.mpr c3
      have c3b1 : (a0 != 97) = false := bne_eq_false_iff_eq.mpr c3
      clear c3
      obtain rfl := Option.some.inj H
      go_enter Tryd.func24, Tryd.ntmps24
      go_wp2
      go_ret
      exact ⟨by first | rfl | (simp; done) | (simp [*]; done), by repeat (first | exact Drawn0.refl _ | apply Drawn0.step)⟩
    · rw [if_neg c3] at H
      have c3b0 : (a0 == 97) = false := beq_eq_false_iff_ne.mpr c3
      have c3b1 : (a0 != 97) = true := bne_iff_ne.mpr c3
      by_cases c4 : a0 = 98
      · rw [if_pos c4] at H
        have c4b0 : (a0 == 98) = true := beq_iff_eq.mpr c4
        have c4b1 : (a0 != 98) = false := bne_eq_false_iff_eq.mpr c4
        clear c4
        obtain rfl := Option.some.inj H
        go_enter Tryd.func24, Tryd.ntmps24
        go_wp2
        go_ret
        exact ⟨by first | rfl | (simp; done) | (simp [*]; done), by repeat (first | exact Drawn0.refl _ | apply Drawn0.step)⟩
      · rw [if_neg c4] at H
        have c4b0 : (a0 == 98) = false := beq_eq_false_iff_ne.mpr c4
        have c4b1 : (a0 != 98) = true := bne_iff_ne.mpr c4
        have HC5 := Aside0.mk H
        clear H
        go_enter Tryd.func24, Tryd.ntmps24
        go_upto_if 10 with (fail)
        go_cut [10] (fun v10 wc => ∃ (kq : Nat) (x10_4 : Bool), v10 = .bool x10_4 ∧ Aside0 (spec_scNamed.j0 kq a0 a0 x10_4 = some r) ∧ Aside0 (kq ≤ k) ∧ Drawn0 w wc)
        case first =>
          have H := HC5.out
          clear HC5
          by_cases c6 : a0 = 116
          · rw [if_pos c6] at H
            have c6b0 : (a0 == 116) = true := beq_iff_eq.mpr c6
            have c6b1 : (a0 != 116) = false := bne_eq_false_iff_eq.mpr c6
            clear c6
            (first | rw [c6b0] | (simp only [i64_w, i32_w]; rw [c6b0]) | skip)
            have H' := Aside0.mk H
            clear H
            go_wp2
            go_meet
            case rel => exact ⟨_, ((a0 == 116)), (by first | rfl | (simp; done) | (simp [*]; done)), H', ⟨by first | omega | exact Nat.le_refl _⟩, by repeat (first | exact Drawn0.refl _ | apply Drawn0.step)⟩
          · rw [if_neg c6] at H
            have c6b0 : (a0 == 116) = false := beq_eq_false_iff_ne.mpr c6
            have c6b1 : (a0 != 116) = true := bne_iff_ne.mpr c6
            (first | rw [c6b0] | (simp only [i64_w, i32_w]; rw [c6b0]) | skip)
            have H' := Aside0.mk H
            clear H
            go_wp2
            go_meet
            case rel => exact ⟨_, ((a0 == 9)), (by first | rfl | (simp; done) | (simp [*]; done)), H', ⟨by first | omega | exact Nat.le_refl _⟩, by repeat (first | exact Drawn0.refl _ | apply Drawn0.step)⟩
        case rest =>
          clear HC5
          try clear c2
          try clear c2b0
          try clear c2b1
          try clear p2
          try clear c3
          try clear c3b0
          try clear c3b1
          try clear c4
          try clear c4b0
          try clear c4b1
          try clear c6
          try clear c6b0
          try clear c6b1
          obtain ⟨kq, x10_4, rfl, HA, HJ4, ⟨mc4, rfl⟩⟩ := hcut
          cases kq with
          | zero => exact absurd HA.out (by simp [spec_scNamed.j0])
          | succ kj4 =>
            have H := HA.out
            clear HA
            simp only [spec_scNamed.j0] at H
            by_cases c7 : x10_4 = true
            · subst c7
              have H1 : (some 9) = some r := by rw [if_pos rfl] at H; exact H
              clear H
              have H := H1
              clear H1
              obtain rfl := Option.some.inj H
              go_wp2
              go_ret
              exact ⟨by first | rfl | (simp; done) | (simp [*]; done), by repeat (first | exact Drawn0.refl _ | apply Drawn0.step)⟩
            · replace c7 := Bool.eq_false_iff.mpr c7
              subst c7
              have H1 : (if a0 = 110 then (some 10) else (if a0 = 118 then (some 11) else (if a0 = 102 then (some 12) else (if a0 = 114 then (some 13) else (if a0 = 101 then (some 27) else (if a0 = 32 then (spec_scNamed.j1 kj4 a0 a0 (a0 == 32)) else (if a0 = 34 then (spec_scNamed.j1 kj4 a0 a0 (a0 == 34)) else (spec_scNamed.j1 kj4 a0 a0 (a0 == 92))))))))) = some r := by rw [if_neg (show ¬ (false = true) by decide)] at H; exact H
              clear H
              have H := H1
              clear H1
              by_cases c8 : a0 = 110
              · rw [if_pos c8] at H
                have c8b0 : (a0 == 110) = true := beq_iff_eq.mpr c8
                have c8b1 : (a0 != 110) = false := bne_eq_false_iff_eq.mpr c8
                clear c8
                obtain rfl := Option.some.inj H
                go_wp2
                go_ret
                exact ⟨by first | rfl | (simp; done) | (simp [*]; done), by repeat (first | exact Drawn0.refl _ | apply Drawn0.step)⟩
              · rw [if_neg c8] at H
                have c8b0 : (a0 == 110) = false := beq_eq_false_iff_ne.mpr c8
                have c8b1 : (a0 != 110) = true := bne_iff_ne.mpr c8
                by_cases c9 : a0 = 118
                · rw [if_pos c9] at H
                  have c9b0 : (a0 == 118) = true := beq_iff_eq.mpr c9
                  have c9b1 : (a0 != 118) = false := bne_eq_false_iff_eq.mpr c9
                  clear c9
                  obtain rfl := Option.some.inj H
                  go_wp2
                  go_ret
                  exact ⟨by first | rfl | (simp; done) | (simp [*]; done), by repeat (first | exact Drawn0.refl _ | apply Drawn0.step)⟩
                · rw [if_neg c9] at H
                  have c9b0 : (a0 == 118) = false := beq_eq_false_iff_ne.mpr c9
                  have c9b1 : (a0 != 118) = true := bne_iff_ne.mpr c9
                  by_cases c10 : a0 = 102
                  · rw [if_pos c10] at H
                    have c10b0 : (a0 == 102) = true := beq_iff_eq.mpr c10
                    have c10b1 : (a0 != 102) = false := bne_eq_false_iff_eq.mpr c10
                    clear c10
                    obtain rfl := Option.some.inj H
                    go_wp2
                    go_ret
                    exact ⟨by first | rfl | (simp; done) | (simp [*]; done), by repeat (first | exact Drawn0.refl _ | apply Drawn0.step)⟩
                  · rw [if_neg c10] at H
                    have c10b0 : (a0 == 102) = false := beq_eq_false_iff_ne.mpr c10
                    have c10b1 : (a0 != 102) = true := bne_iff_ne.mpr c10
                    by_cases c11 : a0 = 114
                    · rw [if_pos c11] at H
                      have c11b0 : (a0 == 114) = true := beq_iff_eq.mpr c11
                      have c11b1 : (a0 != 114) = false := bne_eq_false_iff_eq.mpr c11
                      clear c11
                      obtain rfl := Option.some.inj H
                      go_wp2
                      go_ret
                      exact ⟨by first | rfl | (simp; done) | (simp [*]; done), by repeat (first | exact Drawn0.refl _ | apply Drawn0.step)⟩
                    · rw [if_neg c11] at H
                      have c11b0 : (a0 == 114) = false := beq_eq_false_iff_ne.mpr c11
                      have c11b1 : (a0 != 114) = true := bne_iff_ne.mpr c11
                      by_cases c12 : a0 = 101
                      · rw [if_pos c12] at H
                        have c12b0 : (a0 == 101) = true := beq_iff_eq.mpr c12
                        have c12b1 : (a0 != 101) = false := bne_eq_false_iff_eq.mpr c12
                        clear c12
                        obtain rfl := Option.some.inj H
                        go_wp2
                        go_ret
                        exact ⟨by first | rfl | (simp; done) | (simp [*]; done), by repeat (first | exact Drawn0.refl _ | apply Drawn0.step)⟩
                      · rw [if_neg c12] at H
                        have c12b0 : (a0 == 101) = false := beq_eq_false_iff_ne.mpr c12
                        have c12b1 : (a0 != 101) = true := bne_iff_ne.mpr c12
                        have HC13 := Aside0.mk H
                        clear H
                        go_upto_if 23 with (fail)
                        go_cut [23] (fun v23 wc => ∃ (kq : Nat) (x23_12 : Bool), v23 = .bool x23_12 ∧ Aside0 (spec_scNamed.j1 kq a0 a0 x23_12 = some r) ∧ Aside0 (kq ≤ kj4) ∧ Drawn0 w wc)
                        case first =>
                          have H := HC13.out
                          clear HC13
                          by_cases c14 : a0 = 32
                          · rw [if_pos c14] at H
                            have c14b0 : (a0 == 32) = true := beq_iff_eq.mpr c14
                            have c14b1 : (a0 != 32) = false := bne_eq_false_iff_eq.mpr c14
                            clear c14
                            (first | rw [c14b0] | (simp only [i64_w, i32_w]; rw [c14b0]) | skip)
                            have H' := Aside0.mk H
                            clear H
                            go_wp2
                            go_meet
                            case rel => exact ⟨_, ((a0 == 32)), (by first | rfl | (simp; done) | (simp [*]; done)), H', ⟨by have := HJ4.out; first | omega | exact Nat.le_refl _⟩, by repeat (first | exact Drawn0.refl _ | apply Drawn0.step)⟩
                          · rw [if_neg c14] at H
                            have c14b0 : (a0 == 32) = false := beq_eq_false_iff_ne.mpr c14
                            have c14b1 : (a0 != 32) = true := bne_iff_ne.mpr c14
                            (first | rw [c14b0] | (simp only [i64_w, i32_w]; rw [c14b0]) | skip)
                            by_cases c15 : a0 = 34
                            · rw [if_pos c15] at H
                              have c15b0 : (a0 == 34) = true := beq_iff_eq.mpr c15
                              have c15b1 : (a0 != 34) = false := bne_eq_false_iff_eq.mpr c15
                              clear c15
                              have H' := Aside0.mk H
                              clear H
                              go_wp2
                              go_meet
                              case rel => exact ⟨_, ((a0 == 34)), (by first | rfl | (simp; done) | (simp [*]; done)), H', ⟨by have := HJ4.out; first | omega | exact Nat.le_refl _⟩, by repeat (first | exact Drawn0.refl _ | apply Drawn0.step)⟩
                            · rw [if_neg c15] at H
                              have c15b0 : (a0 == 34) = false := beq_eq_false_iff_ne.mpr c15
                              have c15b1 : (a0 != 34) = true := bne_iff_ne.mpr c15
                              have H' := Aside0.mk H
                              clear H
                              go_wp2
                              go_meet
                              case rel => exact ⟨_, ((a0 == 92)), (by first | rfl | (simp; done) | (simp [*]; done)), H', ⟨by have := HJ4.out; first | omega | exact Nat.le_refl _⟩, by repeat (first | exact Drawn0.refl _ | apply Drawn0.step)⟩
                        case rest =>
                          clear HC13
                          try clear c1
                          try clear c2
                          try clear c2b0
                          try clear c2b1
                          try clear p2
                          try clear c3
                          try clear c3b0
                          try clear c3b1
                          try clear c4
                          try clear c4b0
                          try clear c4b1
                          try clear c6
                          try clear c6b0
                          try clear c6b1
                          try clear c7
                          try clear c8
                          try clear c8b0
                          try clear c8b1
                          try clear c9
                          try clear c9b0
                          try clear c9b1
                          try clear c10
                          try clear c10b0
                          try clear c10b1
                          try clear c11
                          try clear c11b0
                          try clear c11b1
                          try clear c12
                          try clear c12b0
                          try clear c12b1
                          try clear c14
                          try clear c14b0
                          try clear c14b1
                          try clear c15
                          try clear c15b0
                          try clear c15b1
                          try clear p2
                          obtain ⟨kq, x23_12, rfl, HA, HJ12, ⟨mc12, rfl⟩⟩ := hcut
                          cases kq with
                          | zero => exact absurd HA.out (by simp [spec_scNamed.j1])
                          | succ kj12 =>
                            have H := HA.out
                            clear HA
                            simp only [spec_scNamed.j1] at H
                            by_cases c16 : x23_12 = true
                            · subst c16
                              have H1 : (some a0) = some r := by rw [if_pos rfl] at H; exact H
                              clear H
                              have H := H1
                              clear H1
                              obtain rfl := Option.some.inj H
                              go_wp2
                              go_ret
                              exact ⟨by first | rfl | (simp; done) | (simp [*]; done), by repeat (first | exact Drawn0.refl _ | apply Drawn0.step)⟩
                            · replace c16 := Bool.eq_false_iff.mpr c16
                              subst c16
                              have H1 : (if a0 = 78 then (some 133) else (if a0 = 95 then (some 160) else (if a0 = 76 then (some 8232) else (if a0 = 80 then (some 8233) else (some (-1)))))) = some r := by rw [if_neg (show ¬ (false = true) by decide)] at H; exact H
                              clear H
                              have H := H1
                              clear H1
                              by_cases c17 : a0 = 78
                              · rw [if_pos c17] at H
                                have c17b0 : (a0 == 78) = true := beq_iff_eq.mpr c17
                                have c17b1 : (a0 != 78) = false := bne_eq_false_iff_eq.mpr c17
                                clear c17
                                obtain rfl := Option.some.inj H
                                go_wp2
                                go_ret
                                exact ⟨by first | rfl | (simp; done) | (simp [*]; done), by repeat (first | exact Drawn0.refl _ | apply Drawn0.step)⟩
                              · rw [if_neg c17] at H
                                have c17b0 : (a0 == 78) = false := beq_eq_false_iff_ne.mpr c17
                                have c17b1 : (a0 != 78) = true := bne_iff_ne.mpr c17
                                by_cases c18 : a0 = 95
                                · rw [if_pos c18] at H
                                  have c18b0 : (a0 == 95) = true := beq_iff_eq.mpr c18
                                  have c18b1 : (a0 != 95) = false := bne_eq_false_iff_eq.mpr c18
                                  clear c18
                                  obtain rfl := Option.some.inj H
                                  go_wp2
                                  go_ret
                                  exact ⟨by first | rfl | (simp; done) | (simp [*]; done), by repeat (first | exact Drawn0.refl _ | apply Drawn0.step)⟩
                                · rw [if_neg c18] at H
                                  have c18b0 : (a0 == 95) = false := beq_eq_false_iff_ne.mpr c18
                                  have c18b1 : (a0 != 95) = true := bne_iff_ne.mpr c18
                                  by_cases c19 : a0 = 76
                                  · rw [if_pos c19] at H
                                    have c19b0 : (a0 == 76) = true := beq_iff_eq.mpr c19
                                    have c19b1 : (a0 != 76) = false := bne_eq_false_iff_eq.mpr c19
                                    clear c19
                                    obtain rfl := Option.some.inj H
                                    go_wp2
                                    go_ret
                                    exact ⟨by first | rfl | (simp; done) | (simp [*]; done), by repeat (first | exact Drawn0.refl _ | apply Drawn0.step)⟩
                                  · rw [if_neg c19] at H
                                    have c19b0 : (a0 == 76) = false := beq_eq_false_iff_ne.mpr c19
                                    have c19b1 : (a0 != 76) = true := bne_iff_ne.mpr c19
                                    by_cases c20 : a0 = 80
                                    · rw [if_pos c20] at H
                                      have c20b0 : (a0 == 80) = true := beq_iff_eq.mpr c20
                                      have c20b1 : (a0 != 80) = false := bne_eq_false_iff_eq.mpr c20
                                      clear c20
                                      obtain rfl := Option.some.inj H
                                      go_wp2
                                      go_ret
                                      exact ⟨by first | rfl | (simp; done) | (simp [*]; done), by repeat (first | exact Drawn0.refl _ | apply Drawn0.step)⟩
                                    · rw [if_neg c20] at H
                                      have c20b0 : (a0 == 80) = false := beq_eq_false_iff_ne.mpr c20
                                      have c20b1 : (a0 != 80) = true := bne_iff_ne.mpr c20
                                      obtain rfl := Option.some.inj H
                                      go_wp2
                                      go_ret
                                      exact ⟨by first | rfl | (simp; done) | (simp [*]; done), by repeat (first | exact Drawn0.refl _ | apply Drawn0.step)⟩

/-! ### spec_scHex: function 25 -/
mutual
def spec_scHex.j0 : Nat → Int → Bool → Option (Int)
  | 0, _, _ => none
  | k + 1, x0, x3 => if x3 = true then (some (wrap32 (x0 - 48))) else (if x0 ≥ 97 then (spec_scHex.j1 k x0 (decide (x0 ≤ 102))) else (spec_scHex.j1 k x0 false))
def spec_scHex.j1 : Nat → Int → Bool → Option (Int)
  | 0, _, _ => none
  | k + 1, x0, x12 => if x12 = true then (some (wrap32 ((wrap32 (x0 - 97)) + 10))) else (if x0 ≥ 65 then (if x0 ≤ 70 then (some (wrap32 ((wrap32 (x0 - 65)) + 10))) else (some (-1))) else (some (-1)))
end
def spec_scHex.f (k : Nat) (a0 : Int) : Option (Int) := if a0 ≥ 48 then (spec_scHex.j0 k a0 (decide (a0 ≤ 57))) else (spec_scHex.j0 k a0 false)
theorem spec_scHex.mono_l : ∀ k, (∀ y0 y1, LeO (spec_scHex.j0 k y0 y1) (spec_scHex.j0 (k + 1) y0 y1)) ∧ (∀ y0 y1, LeO (spec_scHex.j1 k y0 y1) (spec_scHex.j1 (k + 1) y0 y1))
  | 0 => ⟨fun _ _ r h => by simp [spec_scHex.j0] at h, fun _ _ r h => by simp [spec_scHex.j1] at h⟩
  | k + 1 => by
    obtain ⟨ih0, ih1⟩ := spec_scHex.mono_l k
    refine ⟨?_, ?_⟩
    · intro y0 y1
      unfold spec_scHex.j0
      repeat' first
      | (with_reducible exact ih0 _ _)
      | (with_reducible exact ih1 _ _)
      | (with_reducible exact LeO.refl _)
      | (with_reducible exact LeO.none _)
      | (with_reducible refine LeO.ite ?_ ?_)
      | (with_reducible refine LeO.bind ?_ (fun _ => ?_))
      | exact ih0 _ _
      | exact ih1 _ _
      | exact LeO.none _
      | refine LeO.ite ?_ ?_
      | refine LeO.bind ?_ (fun _ => ?_)
    · intro y0 y1
      unfold spec_scHex.j1
      repeat' first
      | (with_reducible exact ih0 _ _)
      | (with_reducible exact ih1 _ _)
      | (with_reducible exact LeO.refl _)
      | (with_reducible exact LeO.none _)
      | (with_reducible refine LeO.ite ?_ ?_)
      | (with_reducible refine LeO.bind ?_ (fun _ => ?_))
      | exact ih0 _ _
      | exact ih1 _ _
      | exact LeO.none _
      | refine LeO.ite ?_ ?_
      | refine LeO.bind ?_ (fun _ => ?_)
theorem spec_scHex.mono : ∀ a0 k, LeO (spec_scHex.f k a0) (spec_scHex.f (k + 1) a0) := by
  intro a0 k
  obtain ⟨ih0, ih1⟩ := spec_scHex.mono_l k
  unfold spec_scHex.f
  repeat' first
      | (with_reducible exact ih0 _ _)
      | (with_reducible exact ih1 _ _)
      | (with_reducible exact LeO.refl _)
      | (with_reducible exact LeO.none _)
      | (with_reducible refine LeO.ite ?_ ?_)
      | (with_reducible refine LeO.bind ?_ (fun _ => ?_))
      | exact ih0 _ _
      | exact ih1 _ _
      | exact LeO.none _
      | refine LeO.ite ?_ ?_
      | refine LeO.bind ?_ (fun _ => ?_)
set_option maxHeartbeats 8000000 in
set_option maxRecDepth 100000 in
theorem spec_scHex.calls (k : Nat) (a0 : Int) (r : Int) (w : World) (h : spec_scHex.f k a0 = some r) :
    Calls Tryd.prog 25 #[.int .i32 a0] w fun e w' => e = .returned (.int .i32 r) ∧ Drawn0 w w' := by
  have H : (if a0 ≥ 48 then (spec_scHex.j0 k a0 (decide (a0 ≤ 57))) else (spec_scHex.j0 k a0 false)) = some r := h
  clear h
  have HC2 := Aside0.mk H
  clear H
  go_enter Tryd.func25, Tryd.ntmps25
  go_upto_region 1 with (fail)
  go_cut [3] (fun v3 wc => ∃ (kq : Nat) (x3_1 : Bool), v3 = .bool x3_1 ∧ Aside0 (spec_scHex.j0 kq a0 x3_1 = some r) ∧ Aside0 (kq ≤ k) ∧ Drawn0 w wc)
  case first =>
    have H := HC2.out
    clear HC2
    by_cases c3 : a0 ≥ 48
    · rw [if_pos c3] at H
      have c3b0 : decide (48 ≤ a0) = true := decide_eq_true c3
      clear c3
      (first | rw [c3b0] | (simp only [i64_w, i32_w]; rw [c3b0]) | skip)
      have H' := Aside0.mk H
      clear H
      go_wp2
      go_meet
      case rel => exact ⟨_, (decide (a0 ≤ 57)), (by first | rfl | (simp; done) | (simp [*]; done)), H', ⟨by first | omega | exact Nat.le_refl _⟩, by repeat (first | exact Drawn0.refl _ | apply Drawn0.step)⟩
    · rw [if_neg c3] at H
      have c3b0 : decide (48 ≤ a0) = false := decide_eq_false c3
      clear c3
      (first | rw [c3b0] | (simp only [i64_w, i32_w]; rw [c3b0]) | skip)
      have H' := Aside0.mk H
      clear H
      go_wp2
      go_meet
      case rel => exact ⟨_, (false), (by first | rfl | (simp; done) | (simp [*]; done)), H', ⟨by first | omega | exact Nat.le_refl _⟩, by repeat (first | exact Drawn0.refl _ | apply Drawn0.step)⟩
  case rest =>
    clear HC2
    try clear c2
    try clear p2
    try clear c3
    try clear c3b0
    obtain ⟨kq, x3_1, rfl, HA, HJ1, ⟨mc1, rfl⟩⟩ := hcut
    cases kq with
    | zero => exact absurd HA.out (by simp [spec_scHex.j0])
    | succ kj1 =>
      have H := HA.out
      clear HA
      simp only [spec_scHex.j0] at H
      by_cases c4 : x3_1 = true
      · subst c4
        have H1 : (some (wrap32 (a0 - 48))) = some r := by rw [if_pos rfl] at H; exact H
        clear H
        have H := H1
        clear H1
        obtain rfl := Option.some.inj H
        go_wp2
        go_ret
        exact ⟨by first | rfl | (simp; done) | (simp [*]; done), by repeat (first | exact Drawn0.refl _ | apply Drawn0.step)⟩
      · replace c4 := Bool.eq_false_iff.mpr c4
        subst c4
        have H1 : (if a0 ≥ 97 then (spec_scHex.j1 kj1 a0 (decide (a0 ≤ 102))) else (spec_scHex.j1 kj1 a0 false)) = some r := by rw [if_neg (show ¬ (false = true) by decide)] at H; exact H
        clear H
        have H := H1
        clear H1
        have HC5 := Aside0.mk H
        clear H
        go_upto_region 3 with (fail)
        go_cut [12] (fun v12 wc => ∃ (kq : Nat) (x12_4 : Bool), v12 = .bool x12_4 ∧ Aside0 (spec_scHex.j1 kq a0 x12_4 = some r) ∧ Aside0 (kq ≤ kj1) ∧ Drawn0 w wc)
        case first =>
          have H := HC5.out
          clear HC5
          by_cases c6 : a0 ≥ 97
          · rw [if_pos c6] at H
            have c6b0 : decide (97 ≤ a0) = true := decide_eq_true c6
            clear c6
            (first | rw [c6b0] | (simp only [i64_w, i32_w]; rw [c6b0]) | skip)
            have H' := Aside0.mk H
            clear H
            go_wp2
            go_meet
            case rel => exact ⟨_, (decide (a0 ≤ 102)), (by first | rfl | (simp; done) | (simp [*]; done)), H', ⟨by have := HJ1.out; first | omega | exact Nat.le_refl _⟩, by repeat (first | exact Drawn0.refl _ | apply Drawn0.step)⟩
          · rw [if_neg c6] at H
            have c6b0 : decide (97 ≤ a0) = false := decide_eq_false c6
            clear c6
            (first | rw [c6b0] | (simp only [i64_w, i32_w]; rw [c6b0]) | skip)
            have H' := Aside0.mk H
            clear H
            go_wp2
            go_meet
            case rel => exact ⟨_, (false), (by first | rfl | (simp; done) | (simp [*]; done)), H', ⟨by have := HJ1.out; first | omega | exact Nat.le_refl _⟩, by repeat (first | exact Drawn0.refl _ | apply Drawn0.step)⟩
        case rest =>
          clear HC5
          try clear c1
          try clear c2
          try clear p2
          try clear c3
          try clear c3b0
          try clear p3
          try clear c4
          try clear c6
          try clear c6b0
          try clear p2
          obtain ⟨kq, x12_4, rfl, HA, HJ4, ⟨mc4, rfl⟩⟩ := hcut
          cases kq with
          | zero => exact absurd HA.out (by simp [spec_scHex.j1])
          | succ kj4 =>
            have H := HA.out
            clear HA
            simp only [spec_scHex.j1] at H
            by_cases c7 : x12_4 = true
            · subst c7
              have H1 : (some (wrap32 ((wrap32 (a0 - 97)) + 10))) = some r := by rw [if_pos rfl] at H; exact H
              clear H
              have H := H1
              clear H1
              obtain rfl := Option.some.inj H
              go_wp2
              go_ret
              exact ⟨by first | rfl | (simp; done) | (simp [*]; done), by repeat (first | exact Drawn0.refl _ | apply Drawn0.step)⟩
            · replace c7 := Bool.eq_false_iff.mpr c7
              subst c7
              have H1 : (if a0 ≥ 65 then (if a0 ≤ 70 then (some (wrap32 ((wrap32 (a0 - 65)) + 10))) else (some (-1))) else (some (-1))) = some r := by rw [if_neg (show ¬ (false = true) by decide)] at H; exact H
              clear H
              have H := H1
              clear H1
              by_cases c8 : a0 ≥ 65
              · rw [if_pos c8] at H
                have c8b0 : decide (65 ≤ a0) = true := decide_eq_true c8
                clear c8
                by_cases c9 : a0 ≤ 70
                · rw [if_pos c9] at H
                  have c9b0 : decide (a0 ≤ 70) = true := decide_eq_true c9
                  clear c9
                  obtain rfl := Option.some.inj H
                  go_wp2
                  go_ret
                  exact ⟨by first | rfl | (simp; done) | (simp [*]; done), by repeat (first | exact Drawn0.refl _ | apply Drawn0.step)⟩
                · rw [if_neg c9] at H
                  have c9b0 : decide (a0 ≤ 70) = false := decide_eq_false c9
                  clear c9
                  obtain rfl := Option.some.inj H
                  go_wp2
                  go_ret
                  exact ⟨by first | rfl | (simp; done) | (simp [*]; done), by repeat (first | exact Drawn0.refl _ | apply Drawn0.step)⟩
              · rw [if_neg c8] at H
                have c8b0 : decide (65 ≤ a0) = false := decide_eq_false c8
                clear c8
                obtain rfl := Option.some.inj H
                go_wp2
                go_ret
                exact ⟨by first | rfl | (simp; done) | (simp [*]; done), by repeat (first | exact Drawn0.refl _ | apply Drawn0.step)⟩

end Go.Proofs.YtgglhfbjbddjjaaDoor.LKnown
