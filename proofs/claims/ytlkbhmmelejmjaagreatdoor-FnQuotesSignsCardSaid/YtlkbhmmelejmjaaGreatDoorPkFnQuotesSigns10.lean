/- Parts of the proof of FnQuotesSigns, one behind the other: QKnown. Each part says ahead of itself what it proves. -/
import Derived.Test.YtlkbhmmelejmjaaGreatDoorPkFnQuotesSigns1

/- functions as print.sh prints them, cut out of its texts. -/
namespace Go.Proofs.YtlkbhmmelejmjaaGreatDoor.QKnown
open Go.RowKit Go.Proofs.YtlkbhmmelejmjaaGreatDoorW.PrintWords Go.Proofs.YtlkbhmmelejmjaaGreatDoorW.PrintLast Go.Proofs.YtlkbhmmelejmjaaGreatDoorW.PrintMore Go.Proofs.YtlkbhmmelejmjaaGreatDoor.Base0
attribute [local go_sem] max2_int min2_int max_two min_two max_three min_three max_four min_four   -- for this text's walks alone
set_option linter.unusedVariables false
set_option linter.unusedSimpArgs false



/-! ### spec_scContent: function 80 -/
def spec_scContent.j0 : Nat → Int → Bool → Option (Bool)
  | 0, _, _ => none
  | k + 1, x0, x3 => if x3 = true then (if x0 = 8232 then (some false) else (some (x0 != 8233))) else (if x0 ≥ 57344 then (if x0 ≤ 65533 then (some (x0 != 65279)) else (if x0 ≥ 65536 then (some (decide (x0 ≤ 1114111))) else (some false))) else (if x0 ≥ 65536 then (some (decide (x0 ≤ 1114111))) else (some false)))
def spec_scContent.f (k : Nat) (a0 : Int) : Option (Bool) := if a0 = 9 then (spec_scContent.j0 k a0 (a0 == 9)) else (if a0 ≥ 32 then (if a0 ≤ 126 then (spec_scContent.j0 k a0 (decide (a0 ≤ 126))) else (if a0 ≥ 160 then (spec_scContent.j0 k a0 (decide (a0 ≤ 55295))) else (spec_scContent.j0 k a0 false))) else (if a0 ≥ 160 then (spec_scContent.j0 k a0 (decide (a0 ≤ 55295))) else (spec_scContent.j0 k a0 false)))
theorem spec_scContent.mono_l : ∀ k, (∀ y0 y1, LeO (spec_scContent.j0 k y0 y1) (spec_scContent.j0 (k + 1) y0 y1))
  | 0 => fun _ _ r h => by simp [spec_scContent.j0] at h
  | k + 1 => by
    have ih0 := spec_scContent.mono_l k
    · intro y0 y1
      unfold spec_scContent.j0
      repeat' first
      | (with_reducible exact ih0 _ _)
      | (with_reducible exact LeO.refl _)
      | (with_reducible exact LeO.none _)
      | (with_reducible refine LeO.ite ?_ ?_)
      | (with_reducible refine LeO.bind ?_ (fun _ => ?_))
      | exact ih0 _ _
      | exact LeO.none _
      | refine LeO.ite ?_ ?_
      | refine LeO.bind ?_ (fun _ => ?_)
theorem spec_scContent.mono : ∀ a0 k, LeO (spec_scContent.f k a0) (spec_scContent.f (k + 1) a0) := by
  intro a0 k
  have ih0 := spec_scContent.mono_l k
  unfold spec_scContent.f
  repeat' first
      | (with_reducible exact ih0 _ _)
      | (with_reducible exact LeO.refl _)
      | (with_reducible exact LeO.none _)
      | (with_reducible refine LeO.ite ?_ ?_)
      | (with_reducible refine LeO.bind ?_ (fun _ => ?_))
      | exact ih0 _ _
      | exact LeO.none _
      | refine LeO.ite ?_ ?_
      | refine LeO.bind ?_ (fun _ => ?_)
set_option maxHeartbeats 8000000 in
set_option maxRecDepth 100000 in
theorem spec_scContent.calls (k : Nat) (a0 : Int) (r : Bool) (w : World) (h : spec_scContent.f k a0 = some r) :
    Calls Tryz.prog 80 #[.int .i32 a0] w fun e w' => e = .returned (.bool r) ∧ Drawn0 w w' := by
  have H : (if a0 = 9 then (spec_scContent.j0 k a0 (a0 == 9)) else (if a0 ≥ 32 then (if a0 ≤ 126 then (spec_scContent.j0 k a0 (decide (a0 ≤ 126))) else (if a0 ≥ 160 then (spec_scContent.j0 k a0 (decide (a0 ≤ 55295))) else (spec_scContent.j0 k a0 false))) else (if a0 ≥ 160 then (spec_scContent.j0 k a0 (decide (a0 ≤ 55295))) else (spec_scContent.j0 k a0 false)))) = some r := h
  clear h
  have HC2 := Aside0.mk H
  clear H
  go_enter Tryz.func80, Tryz.ntmps80
  go_upto_if 3 with (fail)
  go_cut [3] (fun v3 wc => ∃ (kq : Nat) (x3_1 : Bool), v3 = .bool x3_1 ∧ Aside0 (spec_scContent.j0 kq a0 x3_1 = some r) ∧ Aside0 (kq ≤ k) ∧ Drawn0 w wc)
  case first =>
    have H := HC2.out
    clear HC2
    by_cases c3 : a0 = 9
    · rw [if_pos c3] at H
      have c3b0 : (a0 == 9) = true := beq_iff_eq.mpr c3
      have c3b1 : (a0 != 9) = false := bne_eq_false_iff_eq.mpr c3
      clear c3
      (first | rw [c3b0] | (simp only [i64_w, i32_w]; rw [c3b0]) | skip)
      have H' := Aside0.mk H
      clear H
      go_wp2
      go_meet
      case rel => exact ⟨_, ((a0 == 9)), (by first | rfl | (simp; done) | (simp [*]; done)), H', ⟨by first | omega | exact Nat.le_refl _⟩, by repeat (first | exact Drawn0.refl _ | apply Drawn0.step)⟩
    · rw [if_neg c3] at H
      have c3b0 : (a0 == 9) = false := beq_eq_false_iff_ne.mpr c3
      have c3b1 : (a0 != 9) = true := bne_iff_ne.mpr c3
      (first | rw [c3b0] | (simp only [i64_w, i32_w]; rw [c3b0]) | skip)
      by_cases c4 : a0 ≥ 32
      · rw [if_pos c4] at H
        have c4b0 : decide (32 ≤ a0) = true := decide_eq_true c4
        clear c4
        by_cases c5 : a0 ≤ 126
        · rw [if_pos c5] at H
          have c5b0 : decide (a0 ≤ 126) = true := decide_eq_true c5
          clear c5
          have H' := Aside0.mk H
          clear H
          go_wp2
          go_meet
          case rel => exact ⟨_, (decide (a0 ≤ 126)), (by first | rfl | (simp; done) | (simp [*]; done)), H', ⟨by first | omega | exact Nat.le_refl _⟩, by repeat (first | exact Drawn0.refl _ | apply Drawn0.step)⟩
        · rw [if_neg c5] at H
          have c5b0 : decide (a0 ≤ 126) = false := decide_eq_false c5
          clear c5
          by_cases c6 : a0 ≥ 160
          · rw [if_pos c6] at H
            have c6b0 : decide (160 ≤ a0) = true := decide_eq_true c6
            clear c6
            have H' := Aside0.mk H
            clear H
            go_wp2
            go_meet
            case rel => exact ⟨_, (decide (a0 ≤ 55295)), (by first | rfl | (simp; done) | (simp [*]; done)), H', ⟨by first | omega | exact Nat.le_refl _⟩, by repeat (first | exact Drawn0.refl _ | apply Drawn0.step)⟩
          · rw [if_neg c6] at H
            have c6b0 : decide (160 ≤ a0) = false := decide_eq_false c6
            clear c6
            have H' := Aside0.mk H
            clear H
            go_wp2
            go_meet
            case rel => exact ⟨_, (false), (by first | rfl | (simp; done) | (simp [*]; done)), H', ⟨by first | omega | exact Nat.le_refl _⟩, by repeat (first | exact Drawn0.refl _ | apply Drawn0.step)⟩
      · rw [if_neg c4] at H
        have c4b0 : decide (32 ≤ a0) = false := decide_eq_false c4
        clear c4
        by_cases c7 : a0 ≥ 160
        · rw [if_pos c7] at H
          have c7b0 : decide (160 ≤ a0) = true := decide_eq_true c7
          clear c7
          have H' := Aside0.mk H
          clear H
          go_wp2
          go_meet
          case rel => exact ⟨_, (decide (a0 ≤ 55295)), (by first | rfl | (simp; done) | (simp [*]; done)), H', ⟨by first | omega | exact Nat.le_refl _⟩, by repeat (first | exact Drawn0.refl _ | apply Drawn0.step)⟩
        · rw [if_neg c7] at H
          have c7b0 : decide (160 ≤ a0) = false := decide_eq_false c7
          clear c7
          have H' := Aside0.mk H
          clear H
          go_wp2
          go_meet
          case rel => exact ⟨_, (false), (by first | rfl | (simp; done) | (simp [*]; done)), H', ⟨by first | omega | exact Nat.le_refl _⟩, by repeat (first | exact Drawn0.refl _ | apply Drawn0.step)⟩
  case rest =>
    clear HC2
    try clear p2
    try clear c3
    try clear c3b0
    try clear c3b1
    try clear c4
    try clear c4b0
    try clear c5
    try clear c5b0
    try clear c6
    try clear c6b0
    try clear c7
    try clear c7b0
    obtain ⟨kq, x3_1, rfl, HA, HJ1, ⟨mc1, rfl⟩⟩ := hcut
    cases kq with
    | zero => exact absurd HA.out (by simp [spec_scContent.j0])
    | succ kj1 =>
      have H := HA.out
      clear HA
      simp only [spec_scContent.j0] at H
      by_cases c8 : x3_1 = true
      · subst c8
        have H1 : (if a0 = 8232 then (some false) else (some (a0 != 8233))) = some r := by rw [if_pos rfl] at H; exact H
        clear H
        have H := H1
        clear H1
        by_cases c9 : a0 = 8232
        · rw [if_pos c9] at H
          have c9b0 : (a0 == 8232) = true := beq_iff_eq.mpr c9
          have c9b1 : (a0 != 8232) = false := bne_eq_false_iff_eq.mpr c9
          clear c9
          obtain rfl := Option.some.inj H
          go_wp2
          go_ret
          exact ⟨by first | rfl | (simp; done) | (simp [*]; done), by repeat (first | exact Drawn0.refl _ | apply Drawn0.step)⟩
        · rw [if_neg c9] at H
          have c9b0 : (a0 == 8232) = false := beq_eq_false_iff_ne.mpr c9
          have c9b1 : (a0 != 8232) = true := bne_iff_ne.mpr c9
          obtain rfl := Option.some.inj H
          go_wp2
          go_ret
          exact ⟨by first | rfl | (simp; done) | (simp [*]; done), by repeat (first | exact Drawn0.refl _ | apply Drawn0.step)⟩
      · replace c8 := Bool.eq_false_iff.mpr c8
        subst c8
        have H1 : (if a0 ≥ 57344 then (if a0 ≤ 65533 then (some (a0 != 65279)) else (if a0 ≥ 65536 then (some (decide (a0 ≤ 1114111))) else (some false))) else (if a0 ≥ 65536 then (some (decide (a0 ≤ 1114111))) else (some false))) = some r := by rw [if_neg (show ¬ (false = true) by decide)] at H; exact H
        clear H
        have H := H1
        clear H1
        by_cases c10 : a0 ≥ 57344
        · rw [if_pos c10] at H
          have c10b0 : decide (57344 ≤ a0) = true := decide_eq_true c10
          clear c10
          by_cases c11 : a0 ≤ 65533
          · rw [if_pos c11] at H
            have c11b0 : decide (a0 ≤ 65533) = true := decide_eq_true c11
            clear c11
            obtain rfl := Option.some.inj H
            go_wp2
            go_ret
            exact ⟨by first | rfl | (simp; done) | (simp [*]; done), by repeat (first | exact Drawn0.refl _ | apply Drawn0.step)⟩
          · rw [if_neg c11] at H
            have c11b0 : decide (a0 ≤ 65533) = false := decide_eq_false c11
            clear c11
            by_cases c12 : a0 ≥ 65536
            · rw [if_pos c12] at H
              have c12b0 : decide (65536 ≤ a0) = true := decide_eq_true c12
              clear c12
              obtain rfl := Option.some.inj H
              go_wp2
              go_ret
              exact ⟨by first | rfl | (simp; done) | (simp [*]; done), by repeat (first | exact Drawn0.refl _ | apply Drawn0.step)⟩
            · rw [if_neg c12] at H
              have c12b0 : decide (65536 ≤ a0) = false := decide_eq_false c12
              clear c12
              obtain rfl := Option.some.inj H
              go_wp2
              go_ret
              exact ⟨by first | rfl | (simp; done) | (simp [*]; done), by repeat (first | exact Drawn0.refl _ | apply Drawn0.step)⟩
        · rw [if_neg c10] at H
          have c10b0 : decide (57344 ≤ a0) = false := decide_eq_false c10
          clear c10
          by_cases c13 : a0 ≥ 65536
          · rw [if_pos c13] at H
            have c13b0 : decide (65536 ≤ a0) = true := decide_eq_true c13
            clear c13
            obtain rfl := Option.some.inj H
            go_wp2
            go_ret
            exact ⟨by first | rfl | (simp; done) | (simp [*]; done), by repeat (first | exact Drawn0.refl _ | apply Drawn0.step)⟩
          · rw [if_neg c13] at H
            have c13b0 : decide (65536 ≤ a0) = false := decide_eq_false c13
            clear c13
            obtain rfl := Option.some.inj H
            go_wp2
            go_ret
            exact ⟨by first | rfl | (simp; done) | (simp [*]; done), by repeat (first | exact Drawn0.refl _ | apply Drawn0.step)⟩

/-! ### spec_scAll: function 34 -/
def spec_scAll.l0 : Nat → Bool → List Int → Int → Int → Option (Bool)
  | 0, _, _, _, _ => none
  | k + 1, x1, x7, x8, x9 => if x9 < x8 then (if 0 ≤ x9 then (if x9 < (x7.length : Int) then ((spec_scContent.f k (rd x7 x9)).bind fun t113 => (if t113 = true then (spec_scAll.l0 k x1 x7 x8 (wrap64 (x9 + 1))) else (if x1 = true then (if ((rd x7 x9) = 10) then (spec_scAll.l0 k x1 x7 x8 (wrap64 (x9 + 1))) else (some false)) else (some false)))) else (none)) else (none)) else (some true)
def spec_scAll.f (k : Nat) (l0 : List Int) (a1 : Bool) : Option (Bool) := spec_scAll.l0 k a1 l0 (l0.length : Int) 0
theorem spec_scAll.mono_l : ∀ k, (∀ y0 y1 y2 y3, LeO (spec_scAll.l0 k y0 y1 y2 y3) (spec_scAll.l0 (k + 1) y0 y1 y2 y3))
  | 0 => fun _ _ _ _ r h => by simp [spec_scAll.l0] at h
  | k + 1 => by
    have ih0 := spec_scAll.mono_l k
    · intro y0 y1 y2 y3
      unfold spec_scAll.l0
      repeat' first
      | (with_reducible exact ih0 _ _ _ _)
      | (with_reducible exact spec_scContent.mono _ _)
      | (with_reducible exact LeO.refl _)
      | (with_reducible exact LeO.none _)
      | (with_reducible refine LeO.ite ?_ ?_)
      | (with_reducible refine LeO.bind ?_ (fun _ => ?_))
      | exact ih0 _ _ _ _
      | exact spec_scContent.mono _ _
      | exact LeO.none _
      | refine LeO.ite ?_ ?_
      | refine LeO.bind ?_ (fun _ => ?_)
theorem spec_scAll.mono : ∀ a0 a1 k, LeO (spec_scAll.f k a0 a1) (spec_scAll.f (k + 1) a0 a1) := by
  intro a0 a1 k
  have ih0 := spec_scAll.mono_l k
  unfold spec_scAll.f
  repeat' first
      | (with_reducible exact ih0 _ _ _ _)
      | (with_reducible exact spec_scContent.mono _ _)
      | (with_reducible exact LeO.refl _)
      | (with_reducible exact LeO.none _)
      | (with_reducible refine LeO.ite ?_ ?_)
      | (with_reducible refine LeO.bind ?_ (fun _ => ?_))
      | exact ih0 _ _ _ _
      | exact spec_scContent.mono _ _
      | exact LeO.none _
      | refine LeO.ite ?_ ?_
      | refine LeO.bind ?_ (fun _ => ?_)
set_option maxHeartbeats 8000000 in
set_option maxRecDepth 100000 in
theorem spec_scAll.calls (k : Nat) (A0 : Option Addr) (c0 : Nat) (l0 : List Int) (a1 : Bool) (r : Bool) (w : World) (hr0 : Kd.C (Kd.int .i32) w A0 l0.length l0) (hc0 : l0.length ≤ c0) (h : spec_scAll.f k l0 a1 = some r) :
    Calls Tryz.prog 34 #[.slice A0 l0.length c0, .bool a1] w fun e w' => e = .returned (.bool r) ∧ Drawn0 w w' := by
  have HR0 := Aside0.mk hr0
  have HC0 := Aside0.mk hc0
  clear hr0 hc0
  have H : (spec_scAll.l0 k a1 l0 (l0.length : Int) 0) = some r := h
  clear h
  have H' := Aside0.mk H
  clear H
  go_enter Tryz.func34, Tryz.ntmps34
  go_wp2
  go_loopg [9] k (fun kq v9 w' => ∃ (x9_1 : Int), v9 = .int .i64 x9_1 ∧ Aside0 (spec_scAll.l0 kq a1 l0 (l0.length : Int) x9_1 = some r) ∧ Aside0 (kq ≤ k) ∧ Drawn0 w w')
  case atStart => exact ⟨(0), (by first | rfl | (simp; done) | (simp [*]; done)), H', ⟨Nat.le_refl _⟩, by repeat (first | exact Drawn0.refl _ | apply Drawn0.step)⟩
  case round =>
    clear H'
    try clear p2
    obtain ⟨x9_1, rfl, HA, HK1, ⟨m1, rfl⟩⟩ := hrel
    cases gk with
    | zero => exact absurd HA.out (by simp [spec_scAll.l0])
    | succ k1 =>
      have H := HA.out
      clear HA
      simp only [spec_scAll.l0] at H
      by_cases c3 : x9_1 < (l0.length : Int)
      · rw [if_pos c3] at H
        have c3b0 : decide (x9_1 < (l0.length : Int)) = true := decide_eq_true c3
        clear c3
        by_cases c4 : 0 ≤ x9_1
        · rw [if_pos c4] at H
          have c4b0 : decide (0 ≤ x9_1) = true := decide_eq_true c4
          clear c4
          by_cases c5 : x9_1 < (l0.length : Int)
          · rw [if_pos c5] at H
            have c5b0 : decide (x9_1 < (l0.length : Int)) = true := decide_eq_true c5
            clear c5
            replace H := Option.bind_eq_some_iff.mp H
            obtain ⟨t113, A60, H⟩ := H
            replace H : (if t113 = true then (spec_scAll.l0 k1 a1 l0 (l0.length : Int) (wrap64 (x9_1 + 1))) else (if a1 = true then (if ((rd l0 x9_1) = 10) then (spec_scAll.l0 k1 a1 l0 (l0.length : Int) (wrap64 (x9_1 + 1))) else (some false)) else (some false))) = some r := H
            have A6 := Aside0.mk A60
            clear A60
            by_cases c7 : t113 = true
            · subst c7
              have H1 : (spec_scAll.l0 k1 a1 l0 (l0.length : Int) (wrap64 (x9_1 + 1))) = some r := by rw [if_pos rfl] at H; exact H
              clear H
              have H := H1
              clear H1
              have H' := Aside0.mk H
              clear H
              have p112 : 0 ≤ (x9_1 : Int) := of_decide_eq_true (by first | (with_reducible assumption) | assumption)
              have q112 : x9_1 < (l0.length : Int) := of_decide_eq_true (by first | (with_reducible assumption) | assumption)
              obtain ⟨ad112, e112, hx112_0⟩ := Kd.at_int HR0.out x9_1 p112 q112
              cases e112
              replace p112 := eq_true p112
              replace q112 := eq_true q112
              go_wp2_with (first | ((with_reducible refine gate_callee (f := 80) rfl ?_); refine goesL_ (some 14) rfl rfl Tryz.func80 (by kernel_rfl) rfl #[.int .i32 (rd l0 x9_1)] rfl (by (try simp only [List.map_toArray, List.map_cons, List.map_nil]); first | done | rfl | (simp only [List.length_drop, List.length_take]; rfl)) ?_; (with_reducible refine (spec_scContent.calls k1 (rd l0 x9_1) true _ A6.out).mono ?_); rintro e w' ⟨rfl, ⟨nd, rfl⟩⟩; refine ⟨_, rfl, ?_⟩))
              go_roundg k1
              case measure => have := HK1.out; omega
              case rel => exact ⟨(wrap64 (x9_1 + 1)), (by first | rfl | (simp; done) | (simp [*]; done)), H', ⟨by have := HK1.out; omega⟩, by repeat (first | exact Drawn0.refl _ | apply Drawn0.step)⟩
            · replace c7 := Bool.eq_false_iff.mpr c7
              subst c7
              have H1 : (if a1 = true then (if ((rd l0 x9_1) = 10) then (spec_scAll.l0 k1 a1 l0 (l0.length : Int) (wrap64 (x9_1 + 1))) else (some false)) else (some false)) = some r := by rw [if_neg (show ¬ (false = true) by decide)] at H; exact H
              clear H
              have H := H1
              clear H1
              by_cases c8 : a1 = true
              · subst c8
                have H1 : (if ((rd l0 x9_1) = 10) then (spec_scAll.l0 k1 true l0 (l0.length : Int) (wrap64 (x9_1 + 1))) else (some false)) = some r := by rw [if_pos rfl] at H; exact H
                clear H
                have H := H1
                clear H1
                by_cases c9 : ((rd l0 x9_1) = 10)
                · rw [if_pos c9] at H
                  have c9b0 : ((rd l0 x9_1) == 10) = true := beq_iff_eq.mpr c9
                  have c9b1 : ((rd l0 x9_1) != 10) = false := bne_eq_false_iff_eq.mpr c9
                  clear c9
                  have H' := Aside0.mk H
                  clear H
                  have p112 : 0 ≤ (x9_1 : Int) := of_decide_eq_true (by first | (with_reducible assumption) | assumption)
                  have q112 : x9_1 < (l0.length : Int) := of_decide_eq_true (by first | (with_reducible assumption) | assumption)
                  obtain ⟨ad112, e112, hx112_0⟩ := Kd.at_int HR0.out x9_1 p112 q112
                  cases e112
                  replace p112 := eq_true p112
                  replace q112 := eq_true q112
                  go_wp2_with (first | ((with_reducible refine gate_callee (f := 80) rfl ?_); refine goesL_ (some 14) rfl rfl Tryz.func80 (by kernel_rfl) rfl #[.int .i32 (rd l0 x9_1)] rfl (by (try simp only [List.map_toArray, List.map_cons, List.map_nil]); first | done | rfl | (simp only [List.length_drop, List.length_take]; rfl)) ?_; (with_reducible refine (spec_scContent.calls k1 (rd l0 x9_1) false _ A6.out).mono ?_); rintro e w' ⟨rfl, ⟨nd, rfl⟩⟩; refine ⟨_, rfl, ?_⟩))
                  go_roundg k1
                  case measure => have := HK1.out; omega
                  case rel => exact ⟨(wrap64 (x9_1 + 1)), (by first | rfl | (simp; done) | (simp [*]; done)), H', ⟨by have := HK1.out; omega⟩, by repeat (first | exact Drawn0.refl _ | apply Drawn0.step)⟩
                · rw [if_neg c9] at H
                  have c9b0 : ((rd l0 x9_1) == 10) = false := beq_eq_false_iff_ne.mpr c9
                  have c9b1 : ((rd l0 x9_1) != 10) = true := bne_iff_ne.mpr c9
                  obtain rfl := Option.some.inj H
                  have p112 : 0 ≤ (x9_1 : Int) := of_decide_eq_true (by first | (with_reducible assumption) | assumption)
                  have q112 : x9_1 < (l0.length : Int) := of_decide_eq_true (by first | (with_reducible assumption) | assumption)
                  obtain ⟨ad112, e112, hx112_0⟩ := Kd.at_int HR0.out x9_1 p112 q112
                  cases e112
                  replace p112 := eq_true p112
                  replace q112 := eq_true q112
                  go_wp2_with (first | ((with_reducible refine gate_callee (f := 80) rfl ?_); refine goesL_ (some 14) rfl rfl Tryz.func80 (by kernel_rfl) rfl #[.int .i32 (rd l0 x9_1)] rfl (by (try simp only [List.map_toArray, List.map_cons, List.map_nil]); first | done | rfl | (simp only [List.length_drop, List.length_take]; rfl)) ?_; (with_reducible refine (spec_scContent.calls k1 (rd l0 x9_1) false _ A6.out).mono ?_); rintro e w' ⟨rfl, ⟨nd, rfl⟩⟩; refine ⟨_, rfl, ?_⟩))
                  go_ret
                  exact ⟨by first | rfl | (simp; done) | (simp [*]; done), by repeat (first | exact Drawn0.refl _ | apply Drawn0.step)⟩
              · replace c8 := Bool.eq_false_iff.mpr c8
                subst c8
                have H1 : (some false) = some r := by rw [if_neg (show ¬ (false = true) by decide)] at H; exact H
                clear H
                have H := H1
                clear H1
                obtain rfl := Option.some.inj H
                have p112 : 0 ≤ (x9_1 : Int) := of_decide_eq_true (by first | (with_reducible assumption) | assumption)
                have q112 : x9_1 < (l0.length : Int) := of_decide_eq_true (by first | (with_reducible assumption) | assumption)
                obtain ⟨ad112, e112, hx112_0⟩ := Kd.at_int HR0.out x9_1 p112 q112
                cases e112
                replace p112 := eq_true p112
                replace q112 := eq_true q112
                go_wp2_with (first | ((with_reducible refine gate_callee (f := 80) rfl ?_); refine goesL_ (some 14) rfl rfl Tryz.func80 (by kernel_rfl) rfl #[.int .i32 (rd l0 x9_1)] rfl (by (try simp only [List.map_toArray, List.map_cons, List.map_nil]); first | done | rfl | (simp only [List.length_drop, List.length_take]; rfl)) ?_; (with_reducible refine (spec_scContent.calls k1 (rd l0 x9_1) false _ A6.out).mono ?_); rintro e w' ⟨rfl, ⟨nd, rfl⟩⟩; refine ⟨_, rfl, ?_⟩))
                go_ret
                exact ⟨by first | rfl | (simp; done) | (simp [*]; done), by repeat (first | exact Drawn0.refl _ | apply Drawn0.step)⟩
          · rw [if_neg c5] at H
            exact absurd H (by simp)
        · rw [if_neg c4] at H
          exact absurd H (by simp)
      · rw [if_neg c3] at H
        have c3b0 : decide (x9_1 < (l0.length : Int)) = false := decide_eq_false c3
        clear c3
        obtain rfl := Option.some.inj H
        go_wp2
        go_ret
        exact ⟨by first | rfl | (simp; done) | (simp [*]; done), by repeat (first | exact Drawn0.refl _ | apply Drawn0.step)⟩

-- NOT PRINTED: function 30 (spec_Row)

/-! ### spec_Has: function 31 -/
mutual
def spec_Has.l0 : Nat → ByteArray → ByteArray → Int → Option (Bool)
  | 0, _, _, _ => none
  | k + 1, x0, x1, x5 => if x5 < (x0.size : Int) then (spec_Has.l1 k x0 x1 x5 0) else (some false)
def spec_Has.l1 : Nat → ByteArray → ByteArray → Int → Int → Option (Bool)
  | 0, _, _, _, _ => none
  | k + 1, x0, x1, x5, x6 => if x6 < (x1.size : Int) then (if 0 ≤ x5 then (if x5 < (x0.size : Int) then (if 0 ≤ x6 then (if (bt x0 x5) = (bt x1 x6) then (some true) else (spec_Has.l1 k x0 x1 x5 (wrap64 (x6 + 1)))) else (none)) else (none)) else (none)) else (spec_Has.l0 k x0 x1 (wrap64 (x5 + 1)))
end
def spec_Has.f (k : Nat) (a0 : ByteArray) (a1 : ByteArray) : Option (Bool) := spec_Has.l0 k a0 a1 0
theorem spec_Has.mono_l : ∀ k, (∀ y0 y1 y2, LeO (spec_Has.l0 k y0 y1 y2) (spec_Has.l0 (k + 1) y0 y1 y2)) ∧ (∀ y0 y1 y2 y3, LeO (spec_Has.l1 k y0 y1 y2 y3) (spec_Has.l1 (k + 1) y0 y1 y2 y3))
  | 0 => ⟨fun _ _ _ r h => by simp [spec_Has.l0] at h, fun _ _ _ _ r h => by simp [spec_Has.l1] at h⟩
  | k + 1 => by
    obtain ⟨ih0, ih1⟩ := spec_Has.mono_l k
    refine ⟨?_, ?_⟩
    · intro y0 y1 y2
      unfold spec_Has.l0
      repeat' first
      | (with_reducible exact ih0 _ _ _)
      | (with_reducible exact ih1 _ _ _ _)
      | (with_reducible exact LeO.refl _)
      | (with_reducible exact LeO.none _)
      | (with_reducible refine LeO.ite ?_ ?_)
      | (with_reducible refine LeO.bind ?_ (fun _ => ?_))
      | exact ih0 _ _ _
      | exact ih1 _ _ _ _
      | exact LeO.none _
      | refine LeO.ite ?_ ?_
      | refine LeO.bind ?_ (fun _ => ?_)
    · intro y0 y1 y2 y3
      unfold spec_Has.l1
      repeat' first
      | (with_reducible exact ih0 _ _ _)
      | (with_reducible exact ih1 _ _ _ _)
      | (with_reducible exact LeO.refl _)
      | (with_reducible exact LeO.none _)
      | (with_reducible refine LeO.ite ?_ ?_)
      | (with_reducible refine LeO.bind ?_ (fun _ => ?_))
      | exact ih0 _ _ _
      | exact ih1 _ _ _ _
      | exact LeO.none _
      | refine LeO.ite ?_ ?_
      | refine LeO.bind ?_ (fun _ => ?_)
theorem spec_Has.mono : ∀ a0 a1 k, LeO (spec_Has.f k a0 a1) (spec_Has.f (k + 1) a0 a1) := by
  intro a0 a1 k
  obtain ⟨ih0, ih1⟩ := spec_Has.mono_l k
  unfold spec_Has.f
  repeat' first
      | (with_reducible exact ih0 _ _ _)
      | (with_reducible exact ih1 _ _ _ _)
      | (with_reducible exact LeO.refl _)
      | (with_reducible exact LeO.none _)
      | (with_reducible refine LeO.ite ?_ ?_)
      | (with_reducible refine LeO.bind ?_ (fun _ => ?_))
      | exact ih0 _ _ _
      | exact ih1 _ _ _ _
      | exact LeO.none _
      | refine LeO.ite ?_ ?_
      | refine LeO.bind ?_ (fun _ => ?_)
set_option maxHeartbeats 8000000 in
set_option maxRecDepth 100000 in
theorem spec_Has.calls (k : Nat) (a0 : ByteArray) (a1 : ByteArray) (r : Bool) (w : World) (h : spec_Has.f k a0 a1 = some r) :
    Calls Tryz.prog 31 #[.string a0, .string a1] w fun e w' => e = .returned (.bool r) ∧ Drawn0 w w' := by
  have H : (spec_Has.l0 k a0 a1 0) = some r := h
  clear h
  have H' := Aside0.mk H
  clear H
  go_enter Tryz.func31, Tryz.ntmps31
  go_wp2
  repeat (go_quiet (fail); try go_wp2)
  go_loopg [5] k (fun kq v5 w' => ∃ (x5_1 : Int), v5 = .int .i64 x5_1 ∧ Aside0 (spec_Has.l0 kq a0 a1 x5_1 = some r) ∧ Aside0 (kq ≤ k) ∧ Drawn0 w w')
  case atStart => exact ⟨(0), (by first | rfl | (simp; done) | (simp [*]; done)), H', ⟨Nat.le_refl _⟩, by repeat (first | exact Drawn0.refl _ | apply Drawn0.step)⟩
  case round =>
    clear H'
    try clear p2
    obtain ⟨x5_1, rfl, HA, HK1, ⟨m1, rfl⟩⟩ := hrel
    cases gk with
    | zero => exact absurd HA.out (by simp [spec_Has.l0])
    | succ k1 =>
      have H := HA.out
      clear HA
      simp only [spec_Has.l0] at H
      by_cases c3 : x5_1 < (a0.size : Int)
      · rw [if_pos c3] at H
        have c3b0 : decide (x5_1 < (a0.size : Int)) = true := decide_eq_true c3
        clear c3
        have H' := Aside0.mk H
        clear H
        go_wp2
        repeat (go_quiet (fail); try go_wp2)
        go_loopg [6] k1 (fun kq v6 w' => ∃ (x6_2 : Int), v6 = .int .i64 x6_2 ∧ Aside0 (spec_Has.l1 kq a0 a1 x5_1 x6_2 = some r) ∧ Aside0 (kq ≤ k1) ∧ Drawn0 w w')
        case atStart => exact ⟨(0), (by first | rfl | (simp; done) | (simp [*]; done)), H', ⟨Nat.le_refl _⟩, by repeat (first | exact Drawn0.refl _ | apply Drawn0.step)⟩
        case round =>
          clear H'
          try clear p2
          try clear c3
          try clear c3b0
          try clear p2
          obtain ⟨x6_2, rfl, HA, HK2, ⟨m2, rfl⟩⟩ := hrel
          cases gk with
          | zero => exact absurd HA.out (by simp [spec_Has.l1])
          | succ k2 =>
            have H := HA.out
            clear HA
            simp only [spec_Has.l1] at H
            by_cases c4 : x6_2 < (a1.size : Int)
            · rw [if_pos c4] at H
              have c4b0 : decide (x6_2 < (a1.size : Int)) = true := decide_eq_true c4
              clear c4
              by_cases c5 : 0 ≤ x5_1
              · rw [if_pos c5] at H
                have c5b0 : decide (0 ≤ x5_1) = true := decide_eq_true c5
                clear c5
                by_cases c6 : x5_1 < (a0.size : Int)
                · rw [if_pos c6] at H
                  have c6b0 : decide (x5_1 < (a0.size : Int)) = true := decide_eq_true c6
                  clear c6
                  by_cases c8 : 0 ≤ x6_2
                  · rw [if_pos c8] at H
                    have c8b0 : decide (0 ≤ x6_2) = true := decide_eq_true c8
                    clear c8
                    by_cases c10 : (bt a0 x5_1) = (bt a1 x6_2)
                    · rw [if_pos c10] at H
                      have c10b0 : ((bt a0 x5_1) == (bt a1 x6_2)) = true := beq_iff_eq.mpr c10
                      have c10b1 : ((bt a0 x5_1) != (bt a1 x6_2)) = false := bne_eq_false_iff_eq.mpr c10
                      clear c10
                      obtain rfl := Option.some.inj H
                      have p7 : 0 ≤ (x5_1 : Int) := of_decide_eq_true (by first | (with_reducible assumption) | assumption)
                      have q7 : x5_1 < (a0.size : Int) := of_decide_eq_true (by first | (with_reducible assumption) | assumption)
                      have hx7 := bt_at a0 x5_1
                      replace p7 := eq_true p7
                      replace q7 := eq_true q7
                      have p9 : 0 ≤ (x6_2 : Int) := of_decide_eq_true (by first | (with_reducible assumption) | assumption)
                      have q9 : x6_2 < (a1.size : Int) := of_decide_eq_true (by first | (with_reducible assumption) | assumption)
                      have hx9 := bt_at a1 x6_2
                      replace p9 := eq_true p9
                      replace q9 := eq_true q9
                      go_wp2
                      repeat (go_quiet (fail); try go_wp2)
                      go_ret
                      exact ⟨by first | rfl | (simp; done) | (simp [*]; done), by repeat (first | exact Drawn0.refl _ | apply Drawn0.step)⟩
                    · rw [if_neg c10] at H
                      have c10b0 : ((bt a0 x5_1) == (bt a1 x6_2)) = false := beq_eq_false_iff_ne.mpr c10
                      have c10b1 : ((bt a0 x5_1) != (bt a1 x6_2)) = true := bne_iff_ne.mpr c10
                      have H' := Aside0.mk H
                      clear H
                      have p7 : 0 ≤ (x5_1 : Int) := of_decide_eq_true (by first | (with_reducible assumption) | assumption)
                      have q7 : x5_1 < (a0.size : Int) := of_decide_eq_true (by first | (with_reducible assumption) | assumption)
                      have hx7 := bt_at a0 x5_1
                      replace p7 := eq_true p7
                      replace q7 := eq_true q7
                      have p9 : 0 ≤ (x6_2 : Int) := of_decide_eq_true (by first | (with_reducible assumption) | assumption)
                      have q9 : x6_2 < (a1.size : Int) := of_decide_eq_true (by first | (with_reducible assumption) | assumption)
                      have hx9 := bt_at a1 x6_2
                      replace p9 := eq_true p9
                      replace q9 := eq_true q9
                      go_wp2
                      repeat (go_quiet (fail); try go_wp2)
                      go_roundg k2
                      case measure => have := HK1.out; have := HK2.out; omega
                      case rel => exact ⟨(wrap64 (x6_2 + 1)), (by first | rfl | (simp; done) | (simp [*]; done)), H', ⟨by have := HK1.out; have := HK2.out; omega⟩, by repeat (first | exact Drawn0.refl _ | apply Drawn0.step)⟩
                  · rw [if_neg c8] at H
                    exact absurd H (by simp)
                · rw [if_neg c6] at H
                  exact absurd H (by simp)
              · rw [if_neg c5] at H
                exact absurd H (by simp)
            · rw [if_neg c4] at H
              have c4b0 : decide (x6_2 < (a1.size : Int)) = false := decide_eq_false c4
              clear c4
              have H' := Aside0.mk H
              clear H
              go_wp2
              repeat (go_quiet (fail); try go_wp2)
              go_roundg k2
              case measure => have := HK1.out; have := HK2.out; omega
              case rel => exact ⟨(wrap64 (x5_1 + 1)), (by first | rfl | (simp; done) | (simp [*]; done)), H', ⟨by have := HK1.out; have := HK2.out; omega⟩, by repeat (first | exact Drawn0.refl _ | apply Drawn0.step)⟩
      · rw [if_neg c3] at H
        have c3b0 : decide (x5_1 < (a0.size : Int)) = false := decide_eq_false c3
        clear c3
        obtain rfl := Option.some.inj H
        go_wp2
        repeat (go_quiet (fail); try go_wp2)
        go_ret
        exact ⟨by first | rfl | (simp; done) | (simp [*]; done), by repeat (first | exact Drawn0.refl _ | apply Drawn0.step)⟩

/-! ### spec_Begins: function 32 -/
def spec_Begins.f (a0 : ByteArray) (a1 : ByteArray) : Option (Bool) := if (a0.size : Int) ≥ (a1.size : Int) then (if 0 ≤ (a1.size : Int) then (if (a1.size : Int) ≤ (a0.size : Int) then (some ((a0.extract 0 ((a1.size : Int) : Int).toNat).toList == a1.toList)) else (none)) else (none)) else (some false)
set_option maxHeartbeats 8000000 in
set_option maxRecDepth 100000 in
theorem spec_Begins.calls (a0 : ByteArray) (a1 : ByteArray) (r : Bool) (w : World) (h : spec_Begins.f a0 a1 = some r) :
    Calls Tryz.prog 32 #[.string a0, .string a1] w fun e w' => e = .returned (.bool r) ∧ Drawn0 w w' := by
  have H : (if (a0.size : Int) ≥ (a1.size : Int) then (if 0 ≤ (a1.size : Int) then (if (a1.size : Int) ≤ (a0.size : Int) then (some ((a0.extract 0 ((a1.size : Int) : Int).toNat).toList == a1.toList)) else (none)) else (none)) else (some false)) = some r := h
  clear h
  by_cases c3 : (a0.size : Int) ≥ (a1.size : Int)
  · rw [if_pos c3] at H
    have c3b0 : decide ((a1.size : Int) ≤ (a0.size : Int)) = true := decide_eq_true c3
    have c3b1 : decide (a1.size ≤ a0.size) = true := decide_eq_true (Int.ofNat_le.mp c3)
    clear c3
    by_cases c4 : 0 ≤ (a1.size : Int)
    · rw [if_pos c4] at H
      have c4b0 := eq_true c4
      have c4b1 : decide (0 ≤ (a1.size : Int)) = true := decide_eq_true c4
      clear c4
      by_cases c5 : (a1.size : Int) ≤ (a0.size : Int)
      · rw [if_pos c5] at H
        have c5b0 := eq_true c5
        have c5b1 : decide ((a1.size : Int) ≤ (a0.size : Int)) = true := decide_eq_true c5
        clear c5
        obtain rfl := Option.some.inj H
        go_enter Tryz.func32, Tryz.ntmps32
        go_wp2
        go_ret
        exact ⟨by first | rfl | (simp; done) | (simp [*]; done), by repeat (first | exact Drawn0.refl _ | apply Drawn0.step)⟩
      · rw [if_neg c5] at H
        exact absurd H (by simp)
    · rw [if_neg c4] at H
      exact absurd H (by simp)
  · rw [if_neg c3] at H
    have c3b0 : decide ((a1.size : Int) ≤ (a0.size : Int)) = false := decide_eq_false c3
    have c3b1 : decide (a1.size ≤ a0.size) = false := decide_eq_false (fun h => c3 (Int.ofNat_le.mpr h))
    clear c3
    obtain rfl := Option.some.inj H
    go_enter Tryz.func32, Tryz.ntmps32
    go_wp2
    go_ret
    exact ⟨by first | rfl | (simp; done) | (simp [*]; done), by repeat (first | exact Drawn0.refl _ | apply Drawn0.step)⟩

-- NOT PRINTED: function 16 (laws_nbBare)

/-! ### spec_scKey: function 35 -/
def spec_scKey.f (a0 : Int) : Option (Bool) := if a0 = 2 then (some true) else (some (a0 == 4))
set_option maxHeartbeats 8000000 in
set_option maxRecDepth 100000 in
theorem spec_scKey.calls (a0 : Int) (r : Bool) (w : World) (h : spec_scKey.f a0 = some r) :
    Calls Tryz.prog 35 #[.int .i64 a0] w fun e w' => e = .returned (.bool r) ∧ Drawn0 w w' := by
  have H : (if a0 = 2 then (some true) else (some (a0 == 4))) = some r := h
  clear h
  by_cases c2 : a0 = 2
  · rw [if_pos c2] at H
    have c2b0 : (a0 == 2) = true := beq_iff_eq.mpr c2
    have c2b1 : (a0 != 2) = false := bne_eq_false_iff_eq.mpr c2
    clear c2
    obtain rfl := Option.some.inj H
    go_enter Tryz.func35, Tryz.ntmps35
    go_wp2
    go_ret
    exact ⟨by first | rfl | (simp; done) | (simp [*]; done), by repeat (first | exact Drawn0.refl _ | apply Drawn0.step)⟩
  · rw [if_neg c2] at H
    have c2b0 : (a0 == 2) = false := beq_eq_false_iff_ne.mpr c2
    have c2b1 : (a0 != 2) = true := bne_iff_ne.mpr c2
    obtain rfl := Option.some.inj H
    go_enter Tryz.func35, Tryz.ntmps35
    go_wp2
    go_ret
    exact ⟨by first | rfl | (simp; done) | (simp [*]; done), by repeat (first | exact Drawn0.refl _ | apply Drawn0.step)⟩

/-! ### spec_scWhite: function 37 -/
def spec_scWhite.f (a0 : Int) : Option (Bool) := if a0 = 32 then (some true) else (some (a0 == 9))
set_option maxHeartbeats 8000000 in
set_option maxRecDepth 100000 in
theorem spec_scWhite.calls (a0 : Int) (r : Bool) (w : World) (h : spec_scWhite.f a0 = some r) :
    Calls Tryz.prog 37 #[.int .i32 a0] w fun e w' => e = .returned (.bool r) ∧ Drawn0 w w' := by
  have H : (if a0 = 32 then (some true) else (some (a0 == 9))) = some r := h
  clear h
  by_cases c2 : a0 = 32
  · rw [if_pos c2] at H
    have c2b0 : (a0 == 32) = true := beq_iff_eq.mpr c2
    have c2b1 : (a0 != 32) = false := bne_eq_false_iff_eq.mpr c2
    clear c2
    obtain rfl := Option.some.inj H
    go_enter Tryz.func37, Tryz.ntmps37
    go_wp2
    go_ret
    exact ⟨by first | rfl | (simp; done) | (simp [*]; done), by repeat (first | exact Drawn0.refl _ | apply Drawn0.step)⟩
  · rw [if_neg c2] at H
    have c2b0 : (a0 == 32) = false := beq_eq_false_iff_ne.mpr c2
    have c2b1 : (a0 != 32) = true := bne_iff_ne.mpr c2
    obtain rfl := Option.some.inj H
    go_enter Tryz.func37, Tryz.ntmps37
    go_wp2
    go_ret
    exact ⟨by first | rfl | (simp; done) | (simp [*]; done), by repeat (first | exact Drawn0.refl _ | apply Drawn0.step)⟩

/-! ### spec_scApart: function 36 -/
def spec_scApart.l0 : Nat → List Int → List Int → Int → Int → Option (Bool)
  | 0, _, _, _, _ => none
  | k + 1, x0, x5, x6, x7 => if x7 < x6 then (if 0 ≤ x7 then (if x7 < (x5.length : Int) then (if (rd x5 x7) = 10 then (if x7 > 0 then (if 0 ≤ (wrap64 (x7 - 1)) then (if (wrap64 (x7 - 1)) < (x0.length : Int) then ((spec_scWhite.f (rd x0 (wrap64 (x7 - 1)))).bind fun t117 => (if t117 = true then (some false) else (if (wrap64 (x7 + 1)) < (x0.length : Int) then (if 0 ≤ (wrap64 (x7 + 1)) then ((spec_scWhite.f (rd x0 (wrap64 (x7 + 1)))).bind fun t119 => (if t119 = true then (some false) else (spec_scApart.l0 k x0 x5 x6 (wrap64 (x7 + 1))))) else (none)) else (spec_scApart.l0 k x0 x5 x6 (wrap64 (x7 + 1)))))) else (none)) else (none)) else (if (wrap64 (x7 + 1)) < (x0.length : Int) then (if 0 ≤ (wrap64 (x7 + 1)) then ((spec_scWhite.f (rd x0 (wrap64 (x7 + 1)))).bind fun t121 => (if t121 = true then (some false) else (spec_scApart.l0 k x0 x5 x6 (wrap64 (x7 + 1))))) else (none)) else (spec_scApart.l0 k x0 x5 x6 (wrap64 (x7 + 1))))) else (spec_scApart.l0 k x0 x5 x6 (wrap64 (x7 + 1)))) else (none)) else (none)) else (some true)
def spec_scApart.f (k : Nat) (l0 : List Int) : Option (Bool) := spec_scApart.l0 k l0 l0 (l0.length : Int) 0
theorem spec_scApart.mono_l : ∀ k, (∀ y0 y1 y2 y3, LeO (spec_scApart.l0 k y0 y1 y2 y3) (spec_scApart.l0 (k + 1) y0 y1 y2 y3))
  | 0 => fun _ _ _ _ r h => by simp [spec_scApart.l0] at h
  | k + 1 => by
    have ih0 := spec_scApart.mono_l k
    · intro y0 y1 y2 y3
      unfold spec_scApart.l0
      repeat' first
      | (with_reducible exact ih0 _ _ _ _)
      | (with_reducible exact LeO.refl _)
      | (with_reducible exact LeO.none _)
      | (with_reducible refine LeO.ite ?_ ?_)
      | (with_reducible refine LeO.bind ?_ (fun _ => ?_))
      | exact ih0 _ _ _ _
      | exact LeO.none _
      | refine LeO.ite ?_ ?_
      | refine LeO.bind ?_ (fun _ => ?_)
theorem spec_scApart.mono : ∀ a0 k, LeO (spec_scApart.f k a0) (spec_scApart.f (k + 1) a0) := by
  intro a0 k
  have ih0 := spec_scApart.mono_l k
  unfold spec_scApart.f
  repeat' first
      | (with_reducible exact ih0 _ _ _ _)
      | (with_reducible exact LeO.refl _)
      | (with_reducible exact LeO.none _)
      | (with_reducible refine LeO.ite ?_ ?_)
      | (with_reducible refine LeO.bind ?_ (fun _ => ?_))
      | exact ih0 _ _ _ _
      | exact LeO.none _
      | refine LeO.ite ?_ ?_
      | refine LeO.bind ?_ (fun _ => ?_)
set_option maxHeartbeats 8000000 in
set_option maxRecDepth 100000 in
theorem spec_scApart.calls (k : Nat) (A0 : Option Addr) (c0 : Nat) (l0 : List Int) (r : Bool) (w : World) (hr0 : Kd.C (Kd.int .i32) w A0 l0.length l0) (hc0 : l0.length ≤ c0) (h : spec_scApart.f k l0 = some r) :
    Calls Tryz.prog 36 #[.slice A0 l0.length c0] w fun e w' => e = .returned (.bool r) ∧ Drawn0 w w' := by
  have HR0 := Aside0.mk hr0
  have HC0 := Aside0.mk hc0
  clear hr0 hc0
  have H : (spec_scApart.l0 k l0 l0 (l0.length : Int) 0) = some r := h
  clear h
  have H' := Aside0.mk H
  clear H
  go_enter Tryz.func36, Tryz.ntmps36
  go_wp2
  go_loopg [7] k (fun kq v7 w' => ∃ (x7_1 : Int), v7 = .int .i64 x7_1 ∧ Aside0 (spec_scApart.l0 kq l0 l0 (l0.length : Int) x7_1 = some r) ∧ Aside0 (kq ≤ k) ∧ Drawn0 w w')
  case atStart => exact ⟨(0), (by first | rfl | (simp; done) | (simp [*]; done)), H', ⟨Nat.le_refl _⟩, by repeat (first | exact Drawn0.refl _ | apply Drawn0.step)⟩
  case round =>
    clear H'
    obtain ⟨x7_1, rfl, HA, HK1, ⟨m1, rfl⟩⟩ := hrel
    cases gk with
    | zero => exact absurd HA.out (by simp [spec_scApart.l0])
    | succ k1 =>
      have H := HA.out
      clear HA
      simp only [spec_scApart.l0] at H
      by_cases c2 : x7_1 < (l0.length : Int)
      · rw [if_pos c2] at H
        have c2b0 : decide (x7_1 < (l0.length : Int)) = true := decide_eq_true c2
        clear c2
        by_cases c3 : 0 ≤ x7_1
        · rw [if_pos c3] at H
          have c3b0 : decide (0 ≤ x7_1) = true := decide_eq_true c3
          clear c3
          by_cases c4 : x7_1 < (l0.length : Int)
          · rw [if_pos c4] at H
            have c4b0 : decide (x7_1 < (l0.length : Int)) = true := decide_eq_true c4
            clear c4
            by_cases c5 : (rd l0 x7_1) = 10
            · rw [if_pos c5] at H
              have c5b0 : ((rd l0 x7_1) == 10) = true := beq_iff_eq.mpr c5
              have c5b1 : ((rd l0 x7_1) != 10) = false := bne_eq_false_iff_eq.mpr c5
              clear c5
              by_cases c6 : x7_1 > 0
              · rw [if_pos c6] at H
                have c6b0 : decide (0 < x7_1) = true := decide_eq_true c6
                clear c6
                obtain ⟨ji7, hji7⟩ : ∃ j_ : Int, (wrap64 (x7_1 - 1)) = j_ := ⟨_, rfl⟩
                replace H : (if 0 ≤ (ji7) then (if (ji7) < (l0.length : Int) then ((spec_scWhite.f (rd l0 (ji7))).bind fun t117 => (if t117 = true then (some false) else (if (wrap64 (x7_1 + 1)) < (l0.length : Int) then (if 0 ≤ (wrap64 (x7_1 + 1)) then ((spec_scWhite.f (rd l0 (wrap64 (x7_1 + 1)))).bind fun t119 => (if t119 = true then (some false) else (spec_scApart.l0 k1 l0 l0 (l0.length : Int) (wrap64 (x7_1 + 1))))) else (none)) else (spec_scApart.l0 k1 l0 l0 (l0.length : Int) (wrap64 (x7_1 + 1)))))) else (none)) else (none)) = some r := by first | (rw [hji7] at H; exact H) | (simp only [hji7] at H ⊢; exact H)
                have hji7w : (IntKind.i64.wrap (x7_1 - 1)) = ji7 := (i64_w _).trans hji7
                by_cases c8 : 0 ≤ (ji7)
                · rw [if_pos c8] at H
                  have c8b0 : decide (0 ≤ (ji7)) = true := decide_eq_true c8
                  clear c8
                  by_cases c9 : (ji7) < (l0.length : Int)
                  · rw [if_pos c9] at H
                    have c9b0 : decide ((ji7) < (l0.length : Int)) = true := decide_eq_true c9
                    clear c9
                    replace H := Option.bind_eq_some_iff.mp H
                    obtain ⟨t117, A100, H⟩ := H
                    replace H : (if t117 = true then (some false) else (if (wrap64 (x7_1 + 1)) < (l0.length : Int) then (if 0 ≤ (wrap64 (x7_1 + 1)) then ((spec_scWhite.f (rd l0 (wrap64 (x7_1 + 1)))).bind fun t119 => (if t119 = true then (some false) else (spec_scApart.l0 k1 l0 l0 (l0.length : Int) (wrap64 (x7_1 + 1))))) else (none)) else (spec_scApart.l0 k1 l0 l0 (l0.length : Int) (wrap64 (x7_1 + 1))))) = some r := H
                    have A10 := Aside0.mk A100
                    clear A100
                    by_cases c11 : t117 = true
                    · subst c11
                      have H1 : (some false) = some r := by rw [if_pos rfl] at H; exact H
                      clear H
                      have H := H1
                      clear H1
                      obtain rfl := Option.some.inj H
                      have p115 : 0 ≤ (x7_1 : Int) := of_decide_eq_true (by first | (with_reducible assumption) | assumption)
                      have q115 : x7_1 < (l0.length : Int) := of_decide_eq_true (by first | (with_reducible assumption) | assumption)
                      obtain ⟨ad115, e115, hx115_0⟩ := Kd.at_int HR0.out x7_1 p115 q115
                      cases e115
                      replace p115 := eq_true p115
                      replace q115 := eq_true q115
                      have p116 : 0 ≤ ((ji7) : Int) := of_decide_eq_true (by first | (with_reducible assumption) | assumption)
                      have q116 : (ji7) < (l0.length : Int) := of_decide_eq_true (by first | (with_reducible assumption) | assumption)
                      obtain ⟨ad116, e116, hx116_0⟩ := Kd.at_int HR0.out (ji7) p116 q116
                      obtain rfl : ad115 = ad116 := (by injection e116)
                      replace p116 := eq_true p116
                      replace q116 := eq_true q116
                      go_wp2_with (first | (go_at_call 37; (with_reducible refine (spec_scWhite.calls (rd l0 (ji7)) true _ A10.out).mono ?_); rintro e w' ⟨rfl, ⟨nd, rfl⟩⟩))
                      go_ret
                      exact ⟨by first | rfl | (simp; done) | (simp only [← hji7] <;> (first | rfl | simp)) | (simp [*]; done), by repeat (first | exact Drawn0.refl _ | apply Drawn0.step)⟩
                    · replace c11 := Bool.eq_false_iff.mpr c11
                      subst c11
                      have H1 : (if (wrap64 (x7_1 + 1)) < (l0.length : Int) then (if 0 ≤ (wrap64 (x7_1 + 1)) then ((spec_scWhite.f (rd l0 (wrap64 (x7_1 + 1)))).bind fun t119 => (if t119 = true then (some false) else (spec_scApart.l0 k1 l0 l0 (l0.length : Int) (wrap64 (x7_1 + 1))))) else (none)) else (spec_scApart.l0 k1 l0 l0 (l0.length : Int) (wrap64 (x7_1 + 1)))) = some r := by rw [if_neg (show ¬ (false = true) by decide)] at H; exact H
                      clear H
                      have H := H1
                      clear H1
                      by_cases c12 : (wrap64 (x7_1 + 1)) < (l0.length : Int)
                      · rw [if_pos c12] at H
                        have c12b0 : decide ((wrap64 (x7_1 + 1)) < (l0.length : Int)) = true := decide_eq_true c12
                        clear c12
                        obtain ⟨ji13, hji13⟩ : ∃ j_ : Int, (wrap64 (x7_1 + 1)) = j_ := ⟨_, rfl⟩
                        replace H : (if 0 ≤ (ji13) then ((spec_scWhite.f (rd l0 (ji13))).bind fun t119 => (if t119 = true then (some false) else (spec_scApart.l0 k1 l0 l0 (l0.length : Int) ji13))) else (none)) = some r := by first | (rw [hji13] at H; exact H) | (simp only [hji13] at H ⊢; exact H)
                        (try rw [hji13] at c12b0)
                        (try rw [hji13] at A10)
                        have hji13w : (IntKind.i64.wrap (x7_1 + 1)) = ji13 := (i64_w _).trans hji13
                        by_cases c14 : 0 ≤ (ji13)
                        · rw [if_pos c14] at H
                          have c14b0 : decide (0 ≤ (ji13)) = true := decide_eq_true c14
                          clear c14
                          replace H := Option.bind_eq_some_iff.mp H
                          obtain ⟨t119, A150, H⟩ := H
                          replace H : (if t119 = true then (some false) else (spec_scApart.l0 k1 l0 l0 (l0.length : Int) ji13)) = some r := H
                          have A15 := Aside0.mk A150
                          clear A150
                          by_cases c16 : t119 = true
                          · subst c16
                            have H1 : (some false) = some r := by rw [if_pos rfl] at H; exact H
                            clear H
                            have H := H1
                            clear H1
                            obtain rfl := Option.some.inj H
                            have p115 : 0 ≤ (x7_1 : Int) := of_decide_eq_true (by first | (with_reducible assumption) | assumption)
                            have q115 : x7_1 < (l0.length : Int) := of_decide_eq_true (by first | (with_reducible assumption) | assumption)
                            obtain ⟨ad115, e115, hx115_0⟩ := Kd.at_int HR0.out x7_1 p115 q115
                            cases e115
                            replace p115 := eq_true p115
                            replace q115 := eq_true q115
                            have p116 : 0 ≤ ((ji7) : Int) := of_decide_eq_true (by first | (with_reducible assumption) | assumption)
                            have q116 : (ji7) < (l0.length : Int) := of_decide_eq_true (by first | (with_reducible assumption) | assumption)
                            obtain ⟨ad116, e116, hx116_0⟩ := Kd.at_int HR0.out (ji7) p116 q116
                            obtain rfl : ad115 = ad116 := (by injection e116)
                            replace p116 := eq_true p116
                            replace q116 := eq_true q116
                            go_wp2_with (first | (go_at_call 37; (with_reducible refine (spec_scWhite.calls (rd l0 (ji7)) false _ A10.out).mono ?_); rintro e w' ⟨rfl, ⟨nd, rfl⟩⟩; have p118 : 0 ≤ ((ji13) : Int) := of_decide_eq_true (by first | (with_reducible assumption) | assumption); have q118 : (ji13) < (l0.length : Int) := of_decide_eq_true (by first | (with_reducible assumption) | assumption); obtain ⟨ad118, e118, hx118_0⟩ := Kd.at_int HR0.out (ji13) p118 q118; obtain rfl : ad115 = ad118 := (by injection e118); replace p118 := eq_true p118; replace q118 := eq_true q118) | (go_at_call 37; (with_reducible refine (spec_scWhite.calls (rd l0 (ji13)) true _ A15.out).mono ?_); rintro e w' ⟨rfl, ⟨nd, rfl⟩⟩))
                            go_ret
                            exact ⟨by first | rfl | (simp; done) | (simp only [← hji7, ← hji13] <;> (first | rfl | simp)) | (simp [*]; done), by repeat (first | exact Drawn0.refl _ | apply Drawn0.step)⟩
                          · replace c16 := Bool.eq_false_iff.mpr c16
                            subst c16
                            have H1 : (spec_scApart.l0 k1 l0 l0 (l0.length : Int) ji13) = some r := by rw [if_neg (show ¬ (false = true) by decide)] at H; exact H
                            clear H
                            have H := H1
                            clear H1
                            have H' := Aside0.mk H
                            clear H
                            have p115 : 0 ≤ (x7_1 : Int) := of_decide_eq_true (by first | (with_reducible assumption) | assumption)
                            have q115 : x7_1 < (l0.length : Int) := of_decide_eq_true (by first | (with_reducible assumption) | assumption)
                            obtain ⟨ad115, e115, hx115_0⟩ := Kd.at_int HR0.out x7_1 p115 q115
                            cases e115
                            replace p115 := eq_true p115
                            replace q115 := eq_true q115
                            have p116 : 0 ≤ ((ji7) : Int) := of_decide_eq_true (by first | (with_reducible assumption) | assumption)
                            have q116 : (ji7) < (l0.length : Int) := of_decide_eq_true (by first | (with_reducible assumption) | assumption)
                            obtain ⟨ad116, e116, hx116_0⟩ := Kd.at_int HR0.out (ji7) p116 q116
                            obtain rfl : ad115 = ad116 := (by injection e116)
                            replace p116 := eq_true p116
                            replace q116 := eq_true q116
                            go_wp2_with (first | (go_at_call 37; (with_reducible refine (spec_scWhite.calls (rd l0 (ji7)) false _ A10.out).mono ?_); rintro e w' ⟨rfl, ⟨nd, rfl⟩⟩; have p118 : 0 ≤ ((ji13) : Int) := of_decide_eq_true (by first | (with_reducible assumption) | assumption); have q118 : (ji13) < (l0.length : Int) := of_decide_eq_true (by first | (with_reducible assumption) | assumption); obtain ⟨ad118, e118, hx118_0⟩ := Kd.at_int HR0.out (ji13) p118 q118; obtain rfl : ad115 = ad118 := (by injection e118); replace p118 := eq_true p118; replace q118 := eq_true q118) | (go_at_call 37; (with_reducible refine (spec_scWhite.calls (rd l0 (ji13)) false _ A15.out).mono ?_); rintro e w' ⟨rfl, ⟨nd, rfl⟩⟩))
                            go_roundg k1
                            case measure => have := HK1.out; omega
                            case rel => exact ⟨(ji13), (by first | rfl | (simp; done) | (simp only [← hji13] <;> (first | rfl | simp)) | (simp [*]; done)), H', ⟨by have := HK1.out; omega⟩, by repeat (first | exact Drawn0.refl _ | apply Drawn0.step)⟩
                        · rw [if_neg c14] at H
                          exact absurd H (by simp)
                      · rw [if_neg c12] at H
                        have c12b0 : decide ((wrap64 (x7_1 + 1)) < (l0.length : Int)) = false := decide_eq_false c12
                        clear c12
                        have H' := Aside0.mk H
                        clear H
                        have p115 : 0 ≤ (x7_1 : Int) := of_decide_eq_true (by first | (with_reducible assumption) | assumption)
                        have q115 : x7_1 < (l0.length : Int) := of_decide_eq_true (by first | (with_reducible assumption) | assumption)
                        obtain ⟨ad115, e115, hx115_0⟩ := Kd.at_int HR0.out x7_1 p115 q115
                        cases e115
                        replace p115 := eq_true p115
                        replace q115 := eq_true q115
                        have p116 : 0 ≤ ((ji7) : Int) := of_decide_eq_true (by first | (with_reducible assumption) | assumption)
                        have q116 : (ji7) < (l0.length : Int) := of_decide_eq_true (by first | (with_reducible assumption) | assumption)
                        obtain ⟨ad116, e116, hx116_0⟩ := Kd.at_int HR0.out (ji7) p116 q116
                        obtain rfl : ad115 = ad116 := (by injection e116)
                        replace p116 := eq_true p116
                        replace q116 := eq_true q116
                        go_wp2_with (first | (go_at_call 37; (with_reducible refine (spec_scWhite.calls (rd l0 (ji7)) false _ A10.out).mono ?_); rintro e w' ⟨rfl, ⟨nd, rfl⟩⟩))
                        go_roundg k1
                        case measure => have := HK1.out; omega
                        case rel => exact ⟨(wrap64 (x7_1 + 1)), (by first | rfl | (simp; done) | (simp [*]; done)), H', ⟨by have := HK1.out; omega⟩, by repeat (first | exact Drawn0.refl _ | apply Drawn0.step)⟩
                  · rw [if_neg c9] at H
                    exact absurd H (by simp)
                · rw [if_neg c8] at H
                  exact absurd H (by simp)
              · rw [if_neg c6] at H
                have c6b0 : decide (0 < x7_1) = false := decide_eq_false c6
                clear c6
                by_cases c17 : (wrap64 (x7_1 + 1)) < (l0.length : Int)
                · rw [if_pos c17] at H
                  have c17b0 : decide ((wrap64 (x7_1 + 1)) < (l0.length : Int)) = true := decide_eq_true c17
                  clear c17
                  obtain ⟨ji18, hji18⟩ : ∃ j_ : Int, (wrap64 (x7_1 + 1)) = j_ := ⟨_, rfl⟩
                  replace H : (if 0 ≤ (ji18) then ((spec_scWhite.f (rd l0 (ji18))).bind fun t121 => (if t121 = true then (some false) else (spec_scApart.l0 k1 l0 l0 (l0.length : Int) ji18))) else (none)) = some r := by first | (rw [hji18] at H; exact H) | (simp only [hji18] at H ⊢; exact H)
                  (try rw [hji18] at c17b0)
                  have hji18w : (IntKind.i64.wrap (x7_1 + 1)) = ji18 := (i64_w _).trans hji18
                  by_cases c19 : 0 ≤ (ji18)
                  · rw [if_pos c19] at H
                    have c19b0 : decide (0 ≤ (ji18)) = true := decide_eq_true c19
                    clear c19
                    replace H := Option.bind_eq_some_iff.mp H
                    obtain ⟨t121, A200, H⟩ := H
                    replace H : (if t121 = true then (some false) else (spec_scApart.l0 k1 l0 l0 (l0.length : Int) ji18)) = some r := H
                    have A20 := Aside0.mk A200
                    clear A200
                    by_cases c21 : t121 = true
                    · subst c21
                      have H1 : (some false) = some r := by rw [if_pos rfl] at H; exact H
                      clear H
                      have H := H1
                      clear H1
                      obtain rfl := Option.some.inj H
                      have p115 : 0 ≤ (x7_1 : Int) := of_decide_eq_true (by first | (with_reducible assumption) | assumption)
                      have q115 : x7_1 < (l0.length : Int) := of_decide_eq_true (by first | (with_reducible assumption) | assumption)
                      obtain ⟨ad115, e115, hx115_0⟩ := Kd.at_int HR0.out x7_1 p115 q115
                      cases e115
                      replace p115 := eq_true p115
                      replace q115 := eq_true q115
                      have p120 : 0 ≤ ((ji18) : Int) := of_decide_eq_true (by first | (with_reducible assumption) | assumption)
                      have q120 : (ji18) < (l0.length : Int) := of_decide_eq_true (by first | (with_reducible assumption) | assumption)
                      obtain ⟨ad120, e120, hx120_0⟩ := Kd.at_int HR0.out (ji18) p120 q120
                      obtain rfl : ad115 = ad120 := (by injection e120)
                      replace p120 := eq_true p120
                      replace q120 := eq_true q120
                      go_wp2_with (first | (go_at_call 37; (with_reducible refine (spec_scWhite.calls (rd l0 (ji18)) true _ A20.out).mono ?_); rintro e w' ⟨rfl, ⟨nd, rfl⟩⟩))
                      go_ret
                      exact ⟨by first | rfl | (simp; done) | (simp only [← hji18] <;> (first | rfl | simp)) | (simp [*]; done), by repeat (first | exact Drawn0.refl _ | apply Drawn0.step)⟩
                    · replace c21 := Bool.eq_false_iff.mpr c21
                      subst c21
                      have H1 : (spec_scApart.l0 k1 l0 l0 (l0.length : Int) ji18) = some r := by rw [if_neg (show ¬ (false = true) by decide)] at H; exact H
                      clear H
                      have H := H1
                      clear H1
                      have H' := Aside0.mk H
                      clear H
                      have p115 : 0 ≤ (x7_1 : Int) := of_decide_eq_true (by first | (with_reducible assumption) | assumption)
                      have q115 : x7_1 < (l0.length : Int) := of_decide_eq_true (by first | (with_reducible assumption) | assumption)
                      obtain ⟨ad115, e115, hx115_0⟩ := Kd.at_int HR0.out x7_1 p115 q115
                      cases e115
                      replace p115 := eq_true p115
                      replace q115 := eq_true q115
                      have p120 : 0 ≤ ((ji18) : Int) := of_decide_eq_true (by first | (with_reducible assumption) | assumption)
                      have q120 : (ji18) < (l0.length : Int) := of_decide_eq_true (by first | (with_reducible assumption) | assumption)
                      obtain ⟨ad120, e120, hx120_0⟩ := Kd.at_int HR0.out (ji18) p120 q120
                      obtain rfl : ad115 = ad120 := (by injection e120)
                      replace p120 := eq_true p120
                      replace q120 := eq_true q120
                      go_wp2_with (first | (go_at_call 37; (with_reducible refine (spec_scWhite.calls (rd l0 (ji18)) false _ A20.out).mono ?_); rintro e w' ⟨rfl, ⟨nd, rfl⟩⟩))
                      go_roundg k1
                      case measure => have := HK1.out; omega
                      case rel => exact ⟨(ji18), (by first | rfl | (simp; done) | (simp only [← hji18] <;> (first | rfl | simp)) | (simp [*]; done)), H', ⟨by have := HK1.out; omega⟩, by repeat (first | exact Drawn0.refl _ | apply Drawn0.step)⟩
                  · rw [if_neg c19] at H
                    exact absurd H (by simp)
                · rw [if_neg c17] at H
                  have c17b0 : decide ((wrap64 (x7_1 + 1)) < (l0.length : Int)) = false := decide_eq_false c17
                  clear c17
                  have H' := Aside0.mk H
                  clear H
                  have p115 : 0 ≤ (x7_1 : Int) := of_decide_eq_true (by first | (with_reducible assumption) | assumption)
                  have q115 : x7_1 < (l0.length : Int) := of_decide_eq_true (by first | (with_reducible assumption) | assumption)
                  obtain ⟨ad115, e115, hx115_0⟩ := Kd.at_int HR0.out x7_1 p115 q115
                  cases e115
                  replace p115 := eq_true p115
                  replace q115 := eq_true q115
                  go_wp2
                  go_roundg k1
                  case measure => have := HK1.out; omega
                  case rel => exact ⟨(wrap64 (x7_1 + 1)), (by first | rfl | (simp; done) | (simp [*]; done)), H', ⟨by have := HK1.out; omega⟩, by repeat (first | exact Drawn0.refl _ | apply Drawn0.step)⟩
            · rw [if_neg c5] at H
              have c5b0 : ((rd l0 x7_1) == 10) = false := beq_eq_false_iff_ne.mpr c5
              have c5b1 : ((rd l0 x7_1) != 10) = true := bne_iff_ne.mpr c5
              have H' := Aside0.mk H
              clear H
              have p115 : 0 ≤ (x7_1 : Int) := of_decide_eq_true (by first | (with_reducible assumption) | assumption)
              have q115 : x7_1 < (l0.length : Int) := of_decide_eq_true (by first | (with_reducible assumption) | assumption)
              obtain ⟨ad115, e115, hx115_0⟩ := Kd.at_int HR0.out x7_1 p115 q115
              cases e115
              replace p115 := eq_true p115
              replace q115 := eq_true q115
              go_wp2
              go_roundg k1
              case measure => have := HK1.out; omega
              case rel => exact ⟨(wrap64 (x7_1 + 1)), (by first | rfl | (simp; done) | (simp [*]; done)), H', ⟨by have := HK1.out; omega⟩, by repeat (first | exact Drawn0.refl _ | apply Drawn0.step)⟩
          · rw [if_neg c4] at H
            exact absurd H (by simp)
        · rw [if_neg c3] at H
          exact absurd H (by simp)
      · rw [if_neg c2] at H
        have c2b0 : decide (x7_1 < (l0.length : Int)) = false := decide_eq_false c2
        clear c2
        obtain rfl := Option.some.inj H
        go_wp2
        go_ret
        exact ⟨by first | rfl | (simp; done) | (simp [*]; done), by repeat (first | exact Drawn0.refl _ | apply Drawn0.step)⟩

/-! ### spec_scFlowSign: function 81 -/
def spec_scFlowSign.f (a0 : Int) : Option (Bool) := if a0 = 44 then (some true) else (if a0 = 91 then (some true) else (if a0 = 93 then (some true) else (if a0 = 123 then (some true) else (some (a0 == 125)))))
set_option maxHeartbeats 8000000 in
set_option maxRecDepth 100000 in
theorem spec_scFlowSign.calls (a0 : Int) (r : Bool) (w : World) (h : spec_scFlowSign.f a0 = some r) :
    Calls Tryz.prog 81 #[.int .i32 a0] w fun e w' => e = .returned (.bool r) ∧ Drawn0 w w' := by
  have H : (if a0 = 44 then (some true) else (if a0 = 91 then (some true) else (if a0 = 93 then (some true) else (if a0 = 123 then (some true) else (some (a0 == 125)))))) = some r := h
  clear h
  by_cases c2 : a0 = 44
  · rw [if_pos c2] at H
    have c2b0 : (a0 == 44) = true := beq_iff_eq.mpr c2
    have c2b1 : (a0 != 44) = false := bne_eq_false_iff_eq.mpr c2
    clear c2
    obtain rfl := Option.some.inj H
    go_enter Tryz.func81, Tryz.ntmps81
    go_wp2
    go_ret
    exact ⟨by first | rfl | (simp; done) | (simp [*]; done), by repeat (first | exact Drawn0.refl _ | apply Drawn0.step)⟩
  · rw [if_neg c2] at H
    have c2b0 : (a0 == 44) = false := beq_eq_false_iff_ne.mpr c2
    have c2b1 : (a0 != 44) = true := bne_iff_ne.mpr c2
    by_cases c3 : a0 = 91
    · rw [if_pos c3] at H
      have c3b0 : (a0 == 91) = true := beq_iff_eq.mpr c3
      have c3b1 : (a0 != 91) = false := bne_eq_false_iff_eq.mpr c3
      clear c3
      obtain rfl := Option.some.inj H
      go_enter Tryz.func81, Tryz.ntmps81
      go_wp2
      go_ret
      exact ⟨by first | rfl | (simp; done) | (simp [*]; done), by repeat (first | exact Drawn0.refl _ | apply Drawn0.step)⟩
    · rw [if_neg c3] at H
      have c3b0 : (a0 == 91) = false := beq_eq_false_iff_ne.mpr c3
      have c3b1 : (a0 != 91) = true := bne_iff_ne.mpr c3
      by_cases c4 : a0 = 93
      · rw [if_pos c4] at H
        have c4b0 : (a0 == 93) = true := beq_iff_eq.mpr c4
        have c4b1 : (a0 != 93) = false := bne_eq_false_iff_eq.mpr c4
        clear c4
        obtain rfl := Option.some.inj H
        go_enter Tryz.func81, Tryz.ntmps81
        go_wp2
        go_ret
        exact ⟨by first | rfl | (simp; done) | (simp [*]; done), by repeat (first | exact Drawn0.refl _ | apply Drawn0.step)⟩
      · rw [if_neg c4] at H
        have c4b0 : (a0 == 93) = false := beq_eq_false_iff_ne.mpr c4
        have c4b1 : (a0 != 93) = true := bne_iff_ne.mpr c4
        by_cases c5 : a0 = 123
        · rw [if_pos c5] at H
          have c5b0 : (a0 == 123) = true := beq_iff_eq.mpr c5
          have c5b1 : (a0 != 123) = false := bne_eq_false_iff_eq.mpr c5
          clear c5
          obtain rfl := Option.some.inj H
          go_enter Tryz.func81, Tryz.ntmps81
          go_wp2
          go_ret
          exact ⟨by first | rfl | (simp; done) | (simp [*]; done), by repeat (first | exact Drawn0.refl _ | apply Drawn0.step)⟩
        · rw [if_neg c5] at H
          have c5b0 : (a0 == 123) = false := beq_eq_false_iff_ne.mpr c5
          have c5b1 : (a0 != 123) = true := bne_iff_ne.mpr c5
          obtain rfl := Option.some.inj H
          go_enter Tryz.func81, Tryz.ntmps81
          go_wp2
          go_ret
          exact ⟨by first | rfl | (simp; done) | (simp [*]; done), by repeat (first | exact Drawn0.refl _ | apply Drawn0.step)⟩

/-! ### spec_scIndicator: function 39 -/
def spec_scIndicator.f (a0 : Int) : Option (Bool) := if a0 = 45 then (some true) else (if a0 = 63 then (some true) else (if a0 = 58 then (some true) else (if a0 = 35 then (some true) else (if a0 = 38 then (some true) else (if a0 = 42 then (some true) else (if a0 = 33 then (some true) else (if a0 = 124 then (some true) else (if a0 = 62 then (some true) else (if a0 = 39 then (some true) else (if a0 = 34 then (some true) else (if a0 = 37 then (some true) else (if a0 = 64 then (some true) else (if a0 = 96 then (some true) else ((spec_scFlowSign.f a0).bind fun t132 => (some t132)))))))))))))))
set_option maxHeartbeats 8000000 in
set_option maxRecDepth 100000 in
theorem spec_scIndicator.calls (a0 : Int) (r : Bool) (w : World) (h : spec_scIndicator.f a0 = some r) :
    Calls Tryz.prog 39 #[.int .i32 a0] w fun e w' => e = .returned (.bool r) ∧ Drawn0 w w' := by
  have H : (if a0 = 45 then (some true) else (if a0 = 63 then (some true) else (if a0 = 58 then (some true) else (if a0 = 35 then (some true) else (if a0 = 38 then (some true) else (if a0 = 42 then (some true) else (if a0 = 33 then (some true) else (if a0 = 124 then (some true) else (if a0 = 62 then (some true) else (if a0 = 39 then (some true) else (if a0 = 34 then (some true) else (if a0 = 37 then (some true) else (if a0 = 64 then (some true) else (if a0 = 96 then (some true) else ((spec_scFlowSign.f a0).bind fun t132 => (some t132)))))))))))))))) = some r := h
  clear h
  by_cases c2 : a0 = 45
  · rw [if_pos c2] at H
    have c2b0 : (a0 == 45) = true := beq_iff_eq.mpr c2
    have c2b1 : (a0 != 45) = false := bne_eq_false_iff_eq.mpr c2
    clear c2
    obtain rfl := Option.some.inj H
    go_enter Tryz.func39, Tryz.ntmps39
    go_wp2
    go_ret
    exact ⟨by first | rfl | (simp; done) | (simp [*]; done), by repeat (first | exact Drawn0.refl _ | apply Drawn0.step)⟩
  · rw [if_neg c2] at H
    have c2b0 : (a0 == 45) = false := beq_eq_false_iff_ne.mpr c2
    have c2b1 : (a0 != 45) = true := bne_iff_ne.mpr c2
    by_cases c3 : a0 = 63
    · rw [if_pos c3] at H
      have c3b0 : (a0 == 63) = true := beq_iff_eq.mpr c3
      have c3b1 : (a0 != 63) = false := bne_eq_false_iff_eq.mpr c3
      clear c3
      obtain rfl := Option.some.inj H
      go_enter Tryz.func39, Tryz.ntmps39
      go_wp2
      go_ret
      exact ⟨by first | rfl | (simp; done) | (simp [*]; done), by repeat (first | exact Drawn0.refl _ | apply Drawn0.step)⟩
    · rw [if_neg c3] at H
      have c3b0 : (a0 == 63) = false := beq_eq_false_iff_ne.mpr c3
      have c3b1 : (a0 != 63) = true := bne_iff_ne.mpr c3
      by_cases c4 : a0 = 58
      · rw [if_pos c4] at H
        have c4b0 : (a0 == 58) = true := beq_iff_eq.mpr c4
        have c4b1 : (a0 != 58) = false := bne_eq_false_iff_eq.mpr c4
        clear c4
        obtain rfl := Option.some.inj H
        go_enter Tryz.func39, Tryz.ntmps39
        go_wp2
        go_ret
        exact ⟨by first | rfl | (simp; done) | (simp [*]; done), by repeat (first | exact Drawn0.refl _ | apply Drawn0.step)⟩
      · rw [if_neg c4] at H
        have c4b0 : (a0 == 58) = false := beq_eq_false_iff_ne.mpr c4
        have c4b1 : (a0 != 58) = true := bne_iff_ne.mpr c4
        by_cases c5 : a0 = 35
        · rw [if_pos c5] at H
          have c5b0 : (a0 == 35) = true := beq_iff_eq.mpr c5
          have c5b1 : (a0 != 35) = false := bne_eq_false_iff_eq.mpr c5
          clear c5
          obtain rfl := Option.some.inj H
          go_enter Tryz.func39, Tryz.ntmps39
          go_wp2
          go_ret
          exact ⟨by first | rfl | (simp; done) | (simp [*]; done), by repeat (first | exact Drawn0.refl _ | apply Drawn0.step)⟩
        · rw [if_neg c5] at H
          have c5b0 : (a0 == 35) = false := beq_eq_false_iff_ne.mpr c5
          have c5b1 : (a0 != 35) = true := bne_iff_ne.mpr c5
          by_cases c6 : a0 = 38
          · rw [if_pos c6] at H
            have c6b0 : (a0 == 38) = true := beq_iff_eq.mpr c6
            have c6b1 : (a0 != 38) = false := bne_eq_false_iff_eq.mpr c6
            clear c6
            obtain rfl := Option.some.inj H
            go_enter Tryz.func39, Tryz.ntmps39
            go_wp2
            go_ret
            exact ⟨by first | rfl | (simp; done) | (simp [*]; done), by repeat (first | exact Drawn0.refl _ | apply Drawn0.step)⟩
          · rw [if_neg c6] at H
            have c6b0 : (a0 == 38) = false := beq_eq_false_iff_ne.mpr c6
            have c6b1 : (a0 != 38) = true := bne_iff_ne.mpr c6
            by_cases c7 : a0 = 42
            · rw [if_pos c7] at H
              have c7b0 : (a0 == 42) = true := beq_iff_eq.mpr c7
              have c7b1 : (a0 != 42) = false := bne_eq_false_iff_eq.mpr c7
              clear c7
              obtain rfl := Option.some.inj H
              go_enter Tryz.func39, Tryz.ntmps39
              go_wp2
              go_ret
              exact ⟨by first | rfl | (simp; done) | (simp [*]; done), by repeat (first | exact Drawn0.refl _ | apply Drawn0.step)⟩
            · rw [if_neg c7] at H
              have c7b0 : (a0 == 42) = false := beq_eq_false_iff_ne.mpr c7
              have c7b1 : (a0 != 42) = true := bne_iff_ne.mpr c7
              by_cases c8 : a0 = 33
              · rw [if_pos c8] at H
                have c8b0 : (a0 == 33) = true := beq_iff_eq.mpr c8
                have c8b1 : (a0 != 33) = false := bne_eq_false_iff_eq.mpr c8
                clear c8
                obtain rfl := Option.some.inj H
                go_enter Tryz.func39, Tryz.ntmps39
                go_wp2
                go_ret
                exact ⟨by first | rfl | (simp; done) | (simp [*]; done), by repeat (first | exact Drawn0.refl _ | apply Drawn0.step)⟩
              · rw [if_neg c8] at H
                have c8b0 : (a0 == 33) = false := beq_eq_false_iff_ne.mpr c8
                have c8b1 : (a0 != 33) = true := bne_iff_ne.mpr c8
                by_cases c9 : a0 = 124
                · rw [if_pos c9] at H
                  have c9b0 : (a0 == 124) = true := beq_iff_eq.mpr c9
                  have c9b1 : (a0 != 124) = false := bne_eq_false_iff_eq.mpr c9
                  clear c9
                  obtain rfl := Option.some.inj H
                  go_enter Tryz.func39, Tryz.ntmps39
                  go_wp2
                  go_ret
                  exact ⟨by first | rfl | (simp; done) | (simp [*]; done), by repeat (first | exact Drawn0.refl _ | apply Drawn0.step)⟩
                · rw [if_neg c9] at H
                  have c9b0 : (a0 == 124) = false := beq_eq_false_iff_ne.mpr c9
                  have c9b1 : (a0 != 124) = true := bne_iff_ne.mpr c9
                  by_cases c10 : a0 = 62
                  · rw [if_pos c10] at H
                    have c10b0 : (a0 == 62) = true := beq_iff_eq.mpr c10
                    have c10b1 : (a0 != 62) = false := bne_eq_false_iff_eq.mpr c10
                    clear c10
                    obtain rfl := Option.some.inj H
                    go_enter Tryz.func39, Tryz.ntmps39
                    go_wp2
                    go_ret
                    exact ⟨by first | rfl | (simp; done) | (simp [*]; done), by repeat (first | exact Drawn0.refl _ | apply Drawn0.step)⟩
                  · rw [if_neg c10] at H
                    have c10b0 : (a0 == 62) = false := beq_eq_false_iff_ne.mpr c10
                    have c10b1 : (a0 != 62) = true := bne_iff_ne.mpr c10
                    by_cases c11 : a0 = 39
                    · rw [if_pos c11] at H
                      have c11b0 : (a0 == 39) = true := beq_iff_eq.mpr c11
                      have c11b1 : (a0 != 39) = false := bne_eq_false_iff_eq.mpr c11
                      clear c11
                      obtain rfl := Option.some.inj H
                      go_enter Tryz.func39, Tryz.ntmps39
                      go_wp2
                      go_ret
                      exact ⟨by first | rfl | (simp; done) | (simp [*]; done), by repeat (first | exact Drawn0.refl _ | apply Drawn0.step)⟩
                    · rw [if_neg c11] at H
                      have c11b0 : (a0 == 39) = false := beq_eq_false_iff_ne.mpr c11
                      have c11b1 : (a0 != 39) = true := bne_iff_ne.mpr c11
                      by_cases c12 : a0 = 34
                      · rw [if_pos c12] at H
                        have c12b0 : (a0 == 34) = true := beq_iff_eq.mpr c12
                        have c12b1 : (a0 != 34) = false := bne_eq_false_iff_eq.mpr c12
                        clear c12
                        obtain rfl := Option.some.inj H
                        go_enter Tryz.func39, Tryz.ntmps39
                        go_wp2
                        go_ret
                        exact ⟨by first | rfl | (simp; done) | (simp [*]; done), by repeat (first | exact Drawn0.refl _ | apply Drawn0.step)⟩
                      · rw [if_neg c12] at H
                        have c12b0 : (a0 == 34) = false := beq_eq_false_iff_ne.mpr c12
                        have c12b1 : (a0 != 34) = true := bne_iff_ne.mpr c12
                        by_cases c13 : a0 = 37
                        · rw [if_pos c13] at H
                          have c13b0 : (a0 == 37) = true := beq_iff_eq.mpr c13
                          have c13b1 : (a0 != 37) = false := bne_eq_false_iff_eq.mpr c13
                          clear c13
                          obtain rfl := Option.some.inj H
                          go_enter Tryz.func39, Tryz.ntmps39
                          go_wp2
                          go_ret
                          exact ⟨by first | rfl | (simp; done) | (simp [*]; done), by repeat (first | exact Drawn0.refl _ | apply Drawn0.step)⟩
                        · rw [if_neg c13] at H
                          have c13b0 : (a0 == 37) = false := beq_eq_false_iff_ne.mpr c13
                          have c13b1 : (a0 != 37) = true := bne_iff_ne.mpr c13
                          by_cases c14 : a0 = 64
                          · rw [if_pos c14] at H
                            have c14b0 : (a0 == 64) = true := beq_iff_eq.mpr c14
                            have c14b1 : (a0 != 64) = false := bne_eq_false_iff_eq.mpr c14
                            clear c14
                            obtain rfl := Option.some.inj H
                            go_enter Tryz.func39, Tryz.ntmps39
                            go_wp2
                            go_ret
                            exact ⟨by first | rfl | (simp; done) | (simp [*]; done), by repeat (first | exact Drawn0.refl _ | apply Drawn0.step)⟩
                          · rw [if_neg c14] at H
                            have c14b0 : (a0 == 64) = false := beq_eq_false_iff_ne.mpr c14
                            have c14b1 : (a0 != 64) = true := bne_iff_ne.mpr c14
                            by_cases c15 : a0 = 96
                            · rw [if_pos c15] at H
                              have c15b0 : (a0 == 96) = true := beq_iff_eq.mpr c15
                              have c15b1 : (a0 != 96) = false := bne_eq_false_iff_eq.mpr c15
                              clear c15
                              obtain rfl := Option.some.inj H
                              go_enter Tryz.func39, Tryz.ntmps39
                              go_wp2
                              go_ret
                              exact ⟨by first | rfl | (simp; done) | (simp [*]; done), by repeat (first | exact Drawn0.refl _ | apply Drawn0.step)⟩
                            · rw [if_neg c15] at H
                              have c15b0 : (a0 == 96) = false := beq_eq_false_iff_ne.mpr c15
                              have c15b1 : (a0 != 96) = true := bne_iff_ne.mpr c15
                              replace H := Option.bind_eq_some_iff.mp H
                              obtain ⟨t132, A160, H⟩ := H
                              replace H : (some t132) = some r := H
                              have A16 := Aside0.mk A160
                              clear A160
                              obtain rfl := Option.some.inj H
                              go_enter Tryz.func39, Tryz.ntmps39
                              go_wp2_with (first | ((with_reducible refine gate_callee (f := 81) rfl ?_); refine goesL_ (some 20) rfl rfl Tryz.func81 (by kernel_rfl) rfl #[.int .i32 a0] rfl (by (try simp only [List.map_toArray, List.map_cons, List.map_nil]); first | done | rfl | (simp only [List.length_drop, List.length_take]; rfl)) ?_; (with_reducible refine (spec_scFlowSign.calls a0 t132 _ A16.out).mono ?_); rintro e w' ⟨rfl, ⟨nd, rfl⟩⟩; refine ⟨_, rfl, ?_⟩))
                              go_ret
                              exact ⟨by first | rfl | (simp; done) | (simp [*]; done), by repeat (first | exact Drawn0.refl _ | apply Drawn0.step)⟩

/-! ### spec_scFlow: function 40 -/
def spec_scFlow.f (a0 : Int) : Option (Bool) := if a0 = 3 then (some true) else (some (a0 == 4))
set_option maxHeartbeats 8000000 in
set_option maxRecDepth 100000 in
theorem spec_scFlow.calls (a0 : Int) (r : Bool) (w : World) (h : spec_scFlow.f a0 = some r) :
    Calls Tryz.prog 40 #[.int .i64 a0] w fun e w' => e = .returned (.bool r) ∧ Drawn0 w w' := by
  have H : (if a0 = 3 then (some true) else (some (a0 == 4))) = some r := h
  clear h
  by_cases c2 : a0 = 3
  · rw [if_pos c2] at H
    have c2b0 : (a0 == 3) = true := beq_iff_eq.mpr c2
    have c2b1 : (a0 != 3) = false := bne_eq_false_iff_eq.mpr c2
    clear c2
    obtain rfl := Option.some.inj H
    go_enter Tryz.func40, Tryz.ntmps40
    go_wp2
    go_ret
    exact ⟨by first | rfl | (simp; done) | (simp [*]; done), by repeat (first | exact Drawn0.refl _ | apply Drawn0.step)⟩
  · rw [if_neg c2] at H
    have c2b0 : (a0 == 3) = false := beq_eq_false_iff_ne.mpr c2
    have c2b1 : (a0 != 3) = true := bne_iff_ne.mpr c2
    obtain rfl := Option.some.inj H
    go_enter Tryz.func40, Tryz.ntmps40
    go_wp2
    go_ret
    exact ⟨by first | rfl | (simp; done) | (simp [*]; done), by repeat (first | exact Drawn0.refl _ | apply Drawn0.step)⟩

/-! ### spec_scLetter: function 41 -/
def spec_scLetter.f (a0 : Int) : Option (Bool) := if a0 ≥ 97 then (if a0 ≤ 122 then (some true) else (if a0 ≥ 65 then (if a0 ≤ 90 then (some true) else (if a0 ≥ 48 then (some (decide (a0 ≤ 57))) else (some false))) else (if a0 ≥ 48 then (some (decide (a0 ≤ 57))) else (some false)))) else (if a0 ≥ 65 then (if a0 ≤ 90 then (some true) else (if a0 ≥ 48 then (some (decide (a0 ≤ 57))) else (some false))) else (if a0 ≥ 48 then (some (decide (a0 ≤ 57))) else (some false)))
set_option maxHeartbeats 8000000 in
set_option maxRecDepth 100000 in
theorem spec_scLetter.calls (a0 : Int) (r : Bool) (w : World) (h : spec_scLetter.f a0 = some r) :
    Calls Tryz.prog 41 #[.int .i32 a0] w fun e w' => e = .returned (.bool r) ∧ Drawn0 w w' := by
  have H : (if a0 ≥ 97 then (if a0 ≤ 122 then (some true) else (if a0 ≥ 65 then (if a0 ≤ 90 then (some true) else (if a0 ≥ 48 then (some (decide (a0 ≤ 57))) else (some false))) else (if a0 ≥ 48 then (some (decide (a0 ≤ 57))) else (some false)))) else (if a0 ≥ 65 then (if a0 ≤ 90 then (some true) else (if a0 ≥ 48 then (some (decide (a0 ≤ 57))) else (some false))) else (if a0 ≥ 48 then (some (decide (a0 ≤ 57))) else (some false)))) = some r := h
  clear h
  by_cases c2 : a0 ≥ 97
  · rw [if_pos c2] at H
    have c2b0 : decide (97 ≤ a0) = true := decide_eq_true c2
    clear c2
    by_cases c3 : a0 ≤ 122
    · rw [if_pos c3] at H
      have c3b0 : decide (a0 ≤ 122) = true := decide_eq_true c3
      clear c3
      obtain rfl := Option.some.inj H
      go_enter Tryz.func41, Tryz.ntmps41
      go_wp2
      go_ret
      exact ⟨by first | rfl | (simp; done) | (simp [*]; done), by repeat (first | exact Drawn0.refl _ | apply Drawn0.step)⟩
    · rw [if_neg c3] at H
      have c3b0 : decide (a0 ≤ 122) = false := decide_eq_false c3
      clear c3
      by_cases c4 : a0 ≥ 65
      · rw [if_pos c4] at H
        have c4b0 : decide (65 ≤ a0) = true := decide_eq_true c4
        clear c4
        by_cases c5 : a0 ≤ 90
        · rw [if_pos c5] at H
          have c5b0 : decide (a0 ≤ 90) = true := decide_eq_true c5
          clear c5
          obtain rfl := Option.some.inj H
          go_enter Tryz.func41, Tryz.ntmps41
          go_wp2
          go_ret
          exact ⟨by first | rfl | (simp; done) | (simp [*]; done), by repeat (first | exact Drawn0.refl _ | apply Drawn0.step)⟩
        · rw [if_neg c5] at H
          have c5b0 : decide (a0 ≤ 90) = false := decide_eq_false c5
          clear c5
          by_cases c6 : a0 ≥ 48
          · rw [if_pos c6] at H
            have c6b0 : decide (48 ≤ a0) = true := decide_eq_true c6
            clear c6
            obtain rfl := Option.some.inj H
            go_enter Tryz.func41, Tryz.ntmps41
            go_wp2
            go_ret
            exact ⟨by first | rfl | (simp; done) | (simp [*]; done), by repeat (first | exact Drawn0.refl _ | apply Drawn0.step)⟩
          · rw [if_neg c6] at H
            have c6b0 : decide (48 ≤ a0) = false := decide_eq_false c6
            clear c6
            obtain rfl := Option.some.inj H
            go_enter Tryz.func41, Tryz.ntmps41
            go_wp2
            go_ret
            exact ⟨by first | rfl | (simp; done) | (simp [*]; done), by repeat (first | exact Drawn0.refl _ | apply Drawn0.step)⟩
      · rw [if_neg c4] at H
        have c4b0 : decide (65 ≤ a0) = false := decide_eq_false c4
        clear c4
        by_cases c7 : a0 ≥ 48
        · rw [if_pos c7] at H
          have c7b0 : decide (48 ≤ a0) = true := decide_eq_true c7
          clear c7
          obtain rfl := Option.some.inj H
          go_enter Tryz.func41, Tryz.ntmps41
          go_wp2
          go_ret
          exact ⟨by first | rfl | (simp; done) | (simp [*]; done), by repeat (first | exact Drawn0.refl _ | apply Drawn0.step)⟩
        · rw [if_neg c7] at H
          have c7b0 : decide (48 ≤ a0) = false := decide_eq_false c7
          clear c7
          obtain rfl := Option.some.inj H
          go_enter Tryz.func41, Tryz.ntmps41
          go_wp2
          go_ret
          exact ⟨by first | rfl | (simp; done) | (simp [*]; done), by repeat (first | exact Drawn0.refl _ | apply Drawn0.step)⟩
  · rw [if_neg c2] at H
    have c2b0 : decide (97 ≤ a0) = false := decide_eq_false c2
    clear c2
    by_cases c8 : a0 ≥ 65
    · rw [if_pos c8] at H
      have c8b0 : decide (65 ≤ a0) = true := decide_eq_true c8
      clear c8
      by_cases c9 : a0 ≤ 90
      · rw [if_pos c9] at H
        have c9b0 : decide (a0 ≤ 90) = true := decide_eq_true c9
        clear c9
        obtain rfl := Option.some.inj H
        go_enter Tryz.func41, Tryz.ntmps41
        go_wp2
        go_ret
        exact ⟨by first | rfl | (simp; done) | (simp [*]; done), by repeat (first | exact Drawn0.refl _ | apply Drawn0.step)⟩
      · rw [if_neg c9] at H
        have c9b0 : decide (a0 ≤ 90) = false := decide_eq_false c9
        clear c9
        by_cases c10 : a0 ≥ 48
        · rw [if_pos c10] at H
          have c10b0 : decide (48 ≤ a0) = true := decide_eq_true c10
          clear c10
          obtain rfl := Option.some.inj H
          go_enter Tryz.func41, Tryz.ntmps41
          go_wp2
          go_ret
          exact ⟨by first | rfl | (simp; done) | (simp [*]; done), by repeat (first | exact Drawn0.refl _ | apply Drawn0.step)⟩
        · rw [if_neg c10] at H
          have c10b0 : decide (48 ≤ a0) = false := decide_eq_false c10
          clear c10
          obtain rfl := Option.some.inj H
          go_enter Tryz.func41, Tryz.ntmps41
          go_wp2
          go_ret
          exact ⟨by first | rfl | (simp; done) | (simp [*]; done), by repeat (first | exact Drawn0.refl _ | apply Drawn0.step)⟩
    · rw [if_neg c8] at H
      have c8b0 : decide (65 ≤ a0) = false := decide_eq_false c8
      clear c8
      by_cases c11 : a0 ≥ 48
      · rw [if_pos c11] at H
        have c11b0 : decide (48 ≤ a0) = true := decide_eq_true c11
        clear c11
        obtain rfl := Option.some.inj H
        go_enter Tryz.func41, Tryz.ntmps41
        go_wp2
        go_ret
        exact ⟨by first | rfl | (simp; done) | (simp [*]; done), by repeat (first | exact Drawn0.refl _ | apply Drawn0.step)⟩
      · rw [if_neg c11] at H
        have c11b0 : decide (48 ≤ a0) = false := decide_eq_false c11
        clear c11
        obtain rfl := Option.some.inj H
        go_enter Tryz.func41, Tryz.ntmps41
        go_wp2
        go_ret
        exact ⟨by first | rfl | (simp; done) | (simp [*]; done), by repeat (first | exact Drawn0.refl _ | apply Drawn0.step)⟩

/-! ### spec_scPlainSign: function 42 -/
mutual
def spec_scPlainSign.j0 : Nat → List Int → Int → Bool → Int → Bool → Option (Bool)
  | 0, _, _, _, _, _ => none
  | k + 1, x0, x1, x2, x7, x8 => if x7 = 35 then (if x1 > 0 then (if 0 ≤ (wrap64 (x1 - 1)) then (if (wrap64 (x1 - 1)) < (x0.length : Int) then ((spec_scWhite.f (rd x0 (wrap64 (x1 - 1)))).bind fun t138 => (if t138 = true then (some false) else (some ((rd x0 (wrap64 (x1 - 1))) != 10)))) else (none)) else (none)) else (some false)) else (if x7 = 58 then (spec_scPlainSign.j1 k x0 x1 x2 x7 x8 x2) else (spec_scPlainSign.j1 k x0 x1 x2 x7 x8 false))
def spec_scPlainSign.j1 : Nat → List Int → Int → Bool → Int → Bool → Bool → Option (Bool)
  | 0, _, _, _, _, _, _ => none
  | k + 1, x0, x1, x2, x7, x8, x56 => if x56 = true then (if x1 > 0 then (if x8 = true then (some false) else (if 0 ≤ (wrap64 (x1 - 1)) then (if (wrap64 (x1 - 1)) < (x0.length : Int) then ((spec_scLetter.f (rd x0 (wrap64 (x1 - 1)))).bind fun t141 => (if t141 = true then (if 0 ≤ (wrap64 (x1 + 1)) then (if (wrap64 (x1 + 1)) < (x0.length : Int) then ((spec_scLetter.f (rd x0 (wrap64 (x1 + 1)))).bind fun t143 => (some t143)) else (none)) else (none)) else (some false))) else (none)) else (none))) else (some false)) else (if x7 = 58 then (some (!x8)) else (if x2 = true then ((spec_scFlowSign.f x7).bind fun t144 => (if t144 = true then (some false) else (some (x7 != 63)))) else (some true)))
end
def spec_scPlainSign.f (k : Nat) (l0 : List Int) (a1 : Int) (a2 : Bool) : Option (Bool) := if 0 ≤ a1 then (if a1 < (l0.length : Int) then (if (wrap64 (a1 + 1)) = (l0.length : Int) then (spec_scPlainSign.j0 k l0 a1 a2 (rd l0 a1) true) else (if 0 ≤ (wrap64 (a1 + 1)) then (if (wrap64 (a1 + 1)) < (l0.length : Int) then ((spec_scWhite.f (rd l0 (wrap64 (a1 + 1)))).bind fun t135 => (if t135 = true then (spec_scPlainSign.j0 k l0 a1 a2 (rd l0 a1) true) else (spec_scPlainSign.j0 k l0 a1 a2 (rd l0 a1) ((rd l0 (wrap64 (a1 + 1))) == 10)))) else (none)) else (none))) else (none)) else (none)
theorem spec_scPlainSign.mono_l : ∀ k, (∀ y0 y1 y2 y3 y4, LeO (spec_scPlainSign.j0 k y0 y1 y2 y3 y4) (spec_scPlainSign.j0 (k + 1) y0 y1 y2 y3 y4)) ∧ (∀ y0 y1 y2 y3 y4 y5, LeO (spec_scPlainSign.j1 k y0 y1 y2 y3 y4 y5) (spec_scPlainSign.j1 (k + 1) y0 y1 y2 y3 y4 y5))
  | 0 => ⟨fun _ _ _ _ _ r h => by simp [spec_scPlainSign.j0] at h, fun _ _ _ _ _ _ r h => by simp [spec_scPlainSign.j1] at h⟩
  | k + 1 => by
    obtain ⟨ih0, ih1⟩ := spec_scPlainSign.mono_l k
    refine ⟨?_, ?_⟩
    · intro y0 y1 y2 y3 y4
      unfold spec_scPlainSign.j0
      repeat' first
      | (with_reducible exact ih0 _ _ _ _ _)
      | (with_reducible exact ih1 _ _ _ _ _ _)
      | (with_reducible exact LeO.refl _)
      | (with_reducible exact LeO.none _)
      | (with_reducible refine LeO.ite ?_ ?_)
      | (with_reducible refine LeO.bind ?_ (fun _ => ?_))
      | exact ih0 _ _ _ _ _
      | exact ih1 _ _ _ _ _ _
      | exact LeO.none _
      | refine LeO.ite ?_ ?_
      | refine LeO.bind ?_ (fun _ => ?_)
    · intro y0 y1 y2 y3 y4 y5
      unfold spec_scPlainSign.j1
      repeat' first
      | (with_reducible exact ih0 _ _ _ _ _)
      | (with_reducible exact ih1 _ _ _ _ _ _)
      | (with_reducible exact LeO.refl _)
      | (with_reducible exact LeO.none _)
      | (with_reducible refine LeO.ite ?_ ?_)
      | (with_reducible refine LeO.bind ?_ (fun _ => ?_))
      | exact ih0 _ _ _ _ _
      | exact ih1 _ _ _ _ _ _
      | exact LeO.none _
      | refine LeO.ite ?_ ?_
      | refine LeO.bind ?_ (fun _ => ?_)
theorem spec_scPlainSign.mono : ∀ a0 a1 a2 k, LeO (spec_scPlainSign.f k a0 a1 a2) (spec_scPlainSign.f (k + 1) a0 a1 a2) := by
  intro a0 a1 a2 k
  obtain ⟨ih0, ih1⟩ := spec_scPlainSign.mono_l k
  unfold spec_scPlainSign.f
  repeat' first
      | (with_reducible exact ih0 _ _ _ _ _)
      | (with_reducible exact ih1 _ _ _ _ _ _)
      | (with_reducible exact LeO.refl _)
      | (with_reducible exact LeO.none _)
      | (with_reducible refine LeO.ite ?_ ?_)
      | (with_reducible refine LeO.bind ?_ (fun _ => ?_))
      | exact ih0 _ _ _ _ _
      | exact ih1 _ _ _ _ _ _
      | exact LeO.none _
      | refine LeO.ite ?_ ?_
      | refine LeO.bind ?_ (fun _ => ?_)
set_option maxHeartbeats 8000000 in
set_option maxRecDepth 100000 in
theorem spec_scPlainSign.calls (k : Nat) (A0 : Option Addr) (c0 : Nat) (l0 : List Int) (a1 : Int) (a2 : Bool) (r : Bool) (w : World) (hr0 : Kd.C (Kd.int .i32) w A0 l0.length l0) (hc0 : l0.length ≤ c0) (h : spec_scPlainSign.f k l0 a1 a2 = some r) :
    Calls Tryz.prog 42 #[.slice A0 l0.length c0, .int .i64 a1, .bool a2] w fun e w' => e = .returned (.bool r) ∧ Drawn0 w w' := by
  have HR0 := Aside0.mk hr0
  have HC0 := Aside0.mk hc0
  clear hr0 hc0
  have H : (if 0 ≤ a1 then (if a1 < (l0.length : Int) then (if (wrap64 (a1 + 1)) = (l0.length : Int) then (spec_scPlainSign.j0 k l0 a1 a2 (rd l0 a1) true) else (if 0 ≤ (wrap64 (a1 + 1)) then (if (wrap64 (a1 + 1)) < (l0.length : Int) then ((spec_scWhite.f (rd l0 (wrap64 (a1 + 1)))).bind fun t135 => (if t135 = true then (spec_scPlainSign.j0 k l0 a1 a2 (rd l0 a1) true) else (spec_scPlainSign.j0 k l0 a1 a2 (rd l0 a1) ((rd l0 (wrap64 (a1 + 1))) == 10)))) else (none)) else (none))) else (none)) else (none)) = some r := h
  clear h
  by_cases c4 : 0 ≤ a1
  · rw [if_pos c4] at H
    have c4b0 : decide (0 ≤ a1) = true := decide_eq_true c4
    clear c4
    by_cases c5 : a1 < (l0.length : Int)
    · rw [if_pos c5] at H
      have c5b0 : decide (a1 < (l0.length : Int)) = true := decide_eq_true c5
      clear c5
      have HC6 := Aside0.mk H
      clear H
      have p133 : 0 ≤ (a1 : Int) := of_decide_eq_true (by first | (with_reducible assumption) | assumption)
      have q133 : a1 < (l0.length : Int) := of_decide_eq_true (by first | (with_reducible assumption) | assumption)
      obtain ⟨ad133, e133, hx133_0⟩ := Kd.at_int HR0.out a1 p133 q133
      cases e133
      replace p133 := eq_true p133
      replace q133 := eq_true q133
      go_enter Tryz.func42, Tryz.ntmps42
      go_upto_region 2 with (fail)
      go_cut [8] (fun v8 wc => ∃ (kq : Nat) (x8_5 : Bool), v8 = .bool x8_5 ∧ Aside0 (spec_scPlainSign.j0 kq l0 a1 a2 (rd l0 a1) x8_5 = some r) ∧ Aside0 (kq ≤ k) ∧ Drawn0 w wc)
      case first =>
        have H := HC6.out
        clear HC6
        by_cases c7 : (wrap64 (a1 + 1)) = (l0.length : Int)
        · rw [if_pos c7] at H
          have c7b0 : ((wrap64 (a1 + 1)) == (l0.length : Int)) = true := beq_iff_eq.mpr c7
          have c7b1 : ((wrap64 (a1 + 1)) != (l0.length : Int)) = false := bne_eq_false_iff_eq.mpr c7
          clear c7
          (first | rw [c7b0] | (simp only [i64_w, i32_w]; rw [c7b0]) | skip)
          have H' := Aside0.mk H
          clear H
          go_wp2
          go_meet
          case rel => exact ⟨_, (true), (by first | rfl | (simp; done) | (simp [*]; done)), H', ⟨by first | omega | exact Nat.le_refl _⟩, by repeat (first | exact Drawn0.refl _ | apply Drawn0.step)⟩
        · rw [if_neg c7] at H
          have c7b0 : ((wrap64 (a1 + 1)) == (l0.length : Int)) = false := beq_eq_false_iff_ne.mpr c7
          have c7b1 : ((wrap64 (a1 + 1)) != (l0.length : Int)) = true := bne_iff_ne.mpr c7
          (first | rw [c7b0] | (simp only [i64_w, i32_w]; rw [c7b0]) | skip)
          obtain ⟨ji8, hji8⟩ : ∃ j_ : Int, (wrap64 (a1 + 1)) = j_ := ⟨_, rfl⟩
          replace H : (if 0 ≤ (ji8) then (if (ji8) < (l0.length : Int) then ((spec_scWhite.f (rd l0 (ji8))).bind fun t135 => (if t135 = true then (spec_scPlainSign.j0 k l0 a1 a2 (rd l0 a1) true) else (spec_scPlainSign.j0 k l0 a1 a2 (rd l0 a1) ((rd l0 (ji8)) == 10)))) else (none)) else (none)) = some r := by first | (rw [hji8] at H; exact H) | (simp only [hji8] at H ⊢; exact H)
          (try rw [hji8] at c7b0)
          (try rw [hji8] at c7b1)
          have hji8w : (IntKind.i64.wrap (a1 + 1)) = ji8 := (i64_w _).trans hji8
          by_cases c9 : 0 ≤ (ji8)
          · rw [if_pos c9] at H
            have c9b0 : decide (0 ≤ (ji8)) = true := decide_eq_true c9
            clear c9
            by_cases c10 : (ji8) < (l0.length : Int)
            · rw [if_pos c10] at H
              have c10b0 : decide ((ji8) < (l0.length : Int)) = true := decide_eq_true c10
              clear c10
              replace H := Option.bind_eq_some_iff.mp H
              obtain ⟨t135, A110, H⟩ := H
              replace H : (if t135 = true then (spec_scPlainSign.j0 k l0 a1 a2 (rd l0 a1) true) else (spec_scPlainSign.j0 k l0 a1 a2 (rd l0 a1) ((rd l0 (ji8)) == 10))) = some r := H
              have A11 := Aside0.mk A110
              clear A110
              by_cases c12 : t135 = true
              · subst c12
                have H1 : (spec_scPlainSign.j0 k l0 a1 a2 (rd l0 a1) true) = some r := by rw [if_pos rfl] at H; exact H
                clear H
                have H := H1
                clear H1
                have H' := Aside0.mk H
                clear H
                have p134 : 0 ≤ ((ji8) : Int) := of_decide_eq_true (by first | (with_reducible assumption) | assumption)
                have q134 : (ji8) < (l0.length : Int) := of_decide_eq_true (by first | (with_reducible assumption) | assumption)
                obtain ⟨ad134, e134, hx134_0⟩ := Kd.at_int HR0.out (ji8) p134 q134
                obtain rfl : ad133 = ad134 := (by injection e134)
                replace p134 := eq_true p134
                replace q134 := eq_true q134
                go_wp2_with (first | (go_at_call 37; (with_reducible refine (spec_scWhite.calls (rd l0 (ji8)) true _ A11.out).mono ?_); rintro e w' ⟨rfl, ⟨nd, rfl⟩⟩))
                go_meet
                case rel => exact ⟨_, (true), (by first | rfl | (simp; done) | (simp [*]; done)), H', ⟨by first | omega | exact Nat.le_refl _⟩, by repeat (first | exact Drawn0.refl _ | apply Drawn0.step)⟩
              · replace c12 := Bool.eq_false_iff.mpr c12
                subst c12
                have H1 : (spec_scPlainSign.j0 k l0 a1 a2 (rd l0 a1) ((rd l0 (ji8)) == 10)) = some r := by rw [if_neg (show ¬ (false = true) by decide)] at H; exact H
                clear H
                have H := H1
                clear H1
                have H' := Aside0.mk H
                clear H
                have p134 : 0 ≤ ((ji8) : Int) := of_decide_eq_true (by first | (with_reducible assumption) | assumption)
                have q134 : (ji8) < (l0.length : Int) := of_decide_eq_true (by first | (with_reducible assumption) | assumption)
                obtain ⟨ad134, e134, hx134_0⟩ := Kd.at_int HR0.out (ji8) p134 q134
                obtain rfl : ad133 = ad134 := (by injection e134)
                replace p134 := eq_true p134
                replace q134 := eq_true q134
                go_wp2_with (first | (go_at_call 37; (with_reducible refine (spec_scWhite.calls (rd l0 (ji8)) false _ A11.out).mono ?_); rintro e w' ⟨rfl, ⟨nd, rfl⟩⟩; have p136 : 0 ≤ ((ji8) : Int) := of_decide_eq_true (by first | (with_reducible assumption) | assumption); have q136 : (ji8) < (l0.length : Int) := of_decide_eq_true (by first | (with_reducible assumption) | assumption); obtain ⟨ad136, e136, hx136_0⟩ := Kd.at_int HR0.out (ji8) p136 q136; obtain rfl : ad133 = ad136 := (by injection e136); replace p136 := eq_true p136; replace q136 := eq_true q136))
                go_meet
                case rel => exact ⟨_, (((rd l0 (ji8)) == 10)), (by first | rfl | (simp; done) | (simp only [← hji8] <;> (first | rfl | simp)) | (simp [*]; done)), H', ⟨by first | omega | exact Nat.le_refl _⟩, by repeat (first | exact Drawn0.refl _ | apply Drawn0.step)⟩
            · rw [if_neg c10] at H
              exact absurd H (by simp)
          · rw [if_neg c9] at H
            exact absurd H (by simp)
      case rest =>
        clear HC6
        try clear c1
        try clear p1
        try clear q1
        try clear hx1
        try clear p2
        try clear c4
        try clear c4b0
        try clear c5
        try clear c5b0
        try clear p6
        try clear c7
        try clear c7b0
        try clear c7b1
        try clear c9
        try clear c9b0
        try clear c10
        try clear c10b0
        try clear c12
        try clear hx133_0
        try clear hx134_0
        try clear hx136_0
        try clear p133
        try clear p134
        try clear p136
        try clear q133
        try clear q134
        try clear q136
        obtain ⟨kq, x8_5, rfl, HA, HJ5, ⟨mc5, rfl⟩⟩ := hcut
        cases kq with
        | zero => exact absurd HA.out (by simp [spec_scPlainSign.j0])
        | succ kj5 =>
          have H := HA.out
          clear HA
          simp only [spec_scPlainSign.j0] at H
          by_cases c13 : (rd l0 a1) = 35
          · rw [if_pos c13] at H
            have c13b0 : ((rd l0 a1) == 35) = true := beq_iff_eq.mpr c13
            have c13b1 : ((rd l0 a1) != 35) = false := bne_eq_false_iff_eq.mpr c13
            clear c13
            by_cases c14 : a1 > 0
            · rw [if_pos c14] at H
              have c14b0 : decide (0 < a1) = true := decide_eq_true c14
              clear c14
              obtain ⟨ji15, hji15⟩ : ∃ j_ : Int, (wrap64 (a1 - 1)) = j_ := ⟨_, rfl⟩
              replace H : (if 0 ≤ (ji15) then (if (ji15) < (l0.length : Int) then ((spec_scWhite.f (rd l0 (ji15))).bind fun t138 => (if t138 = true then (some false) else (some ((rd l0 (ji15)) != 10)))) else (none)) else (none)) = some r := by first | (rw [hji15] at H; exact H) | (simp only [hji15] at H ⊢; exact H)
              have hji15w : (IntKind.i64.wrap (a1 - 1)) = ji15 := (i64_w _).trans hji15
              by_cases c16 : 0 ≤ (ji15)
              · rw [if_pos c16] at H
                have c16b0 : decide (0 ≤ (ji15)) = true := decide_eq_true c16
                clear c16
                by_cases c17 : (ji15) < (l0.length : Int)
                · rw [if_pos c17] at H
                  have c17b0 : decide ((ji15) < (l0.length : Int)) = true := decide_eq_true c17
                  clear c17
                  replace H := Option.bind_eq_some_iff.mp H
                  obtain ⟨t138, A180, H⟩ := H
                  replace H : (if t138 = true then (some false) else (some ((rd l0 (ji15)) != 10))) = some r := H
                  have A18 := Aside0.mk A180
                  clear A180
                  by_cases c19 : t138 = true
                  · subst c19
                    have H1 : (some false) = some r := by rw [if_pos rfl] at H; exact H
                    clear H
                    have H := H1
                    clear H1
                    obtain rfl := Option.some.inj H
                    have p137 : 0 ≤ ((ji15) : Int) := of_decide_eq_true (by first | (with_reducible assumption) | assumption)
                    have q137 : (ji15) < (l0.length : Int) := of_decide_eq_true (by first | (with_reducible assumption) | assumption)
                    obtain ⟨ad137, e137, hx137_0⟩ := Kd.at_int HR0.out (ji15) p137 q137
                    obtain rfl : ad133 = ad137 := (by injection e137)
                    replace p137 := eq_true p137
                    replace q137 := eq_true q137
                    go_wp2_with (first | (go_at_call 37; (with_reducible refine (spec_scWhite.calls (rd l0 (ji15)) true _ A18.out).mono ?_); rintro e w' ⟨rfl, ⟨nd, rfl⟩⟩))
                    go_ret
                    exact ⟨by first | rfl | (simp; done) | (simp only [← hji15] <;> (first | rfl | simp)) | (simp [*]; done), by repeat (first | exact Drawn0.refl _ | apply Drawn0.step)⟩
                  · replace c19 := Bool.eq_false_iff.mpr c19
                    subst c19
                    have H1 : (some ((rd l0 (ji15)) != 10)) = some r := by rw [if_neg (show ¬ (false = true) by decide)] at H; exact H
                    clear H
                    have H := H1
                    clear H1
                    obtain rfl := Option.some.inj H
                    have p137 : 0 ≤ ((ji15) : Int) := of_decide_eq_true (by first | (with_reducible assumption) | assumption)
                    have q137 : (ji15) < (l0.length : Int) := of_decide_eq_true (by first | (with_reducible assumption) | assumption)
                    obtain ⟨ad137, e137, hx137_0⟩ := Kd.at_int HR0.out (ji15) p137 q137
                    obtain rfl : ad133 = ad137 := (by injection e137)
                    replace p137 := eq_true p137
                    replace q137 := eq_true q137
                    go_wp2_with (first | (go_at_call 37; (with_reducible refine (spec_scWhite.calls (rd l0 (ji15)) false _ A18.out).mono ?_); rintro e w' ⟨rfl, ⟨nd, rfl⟩⟩; have p139 : 0 ≤ ((ji15) : Int) := of_decide_eq_true (by first | (with_reducible assumption) | assumption); have q139 : (ji15) < (l0.length : Int) := of_decide_eq_true (by first | (with_reducible assumption) | assumption); obtain ⟨ad139, e139, hx139_0⟩ := Kd.at_int HR0.out (ji15) p139 q139; obtain rfl : ad133 = ad139 := (by injection e139); replace p139 := eq_true p139; replace q139 := eq_true q139))
                    go_ret
                    exact ⟨by first | rfl | (simp; done) | (simp only [← hji15] <;> (first | rfl | simp)) | (simp [*]; done), by repeat (first | exact Drawn0.refl _ | apply Drawn0.step)⟩
                · rw [if_neg c17] at H
                  exact absurd H (by simp)
              · rw [if_neg c16] at H
                exact absurd H (by simp)
            · rw [if_neg c14] at H
              have c14b0 : decide (0 < a1) = false := decide_eq_false c14
              clear c14
              obtain rfl := Option.some.inj H
              go_wp2
              go_ret
              exact ⟨by first | rfl | (simp; done) | (simp [*]; done), by repeat (first | exact Drawn0.refl _ | apply Drawn0.step)⟩
          · rw [if_neg c13] at H
            have c13b0 : ((rd l0 a1) == 35) = false := beq_eq_false_iff_ne.mpr c13
            have c13b1 : ((rd l0 a1) != 35) = true := bne_iff_ne.mpr c13
            have HC20 := Aside0.mk H
            clear H
            go_upto_region 5 with (fail)
            go_cut [56] (fun v56 wc => ∃ (kq : Nat) (x56_19 : Bool), v56 = .bool x56_19 ∧ Aside0 (spec_scPlainSign.j1 kq l0 a1 a2 (rd l0 a1) x8_5 x56_19 = some r) ∧ Aside0 (kq ≤ kj5) ∧ Drawn0 w wc)
            case first =>
              have H := HC20.out
              clear HC20
              by_cases c21 : (rd l0 a1) = 58
              · rw [if_pos c21] at H
                have c21b0 : ((rd l0 a1) == 58) = true := beq_iff_eq.mpr c21
                have c21b1 : ((rd l0 a1) != 58) = false := bne_eq_false_iff_eq.mpr c21
                clear c21
                (first | rw [c21b0] | (simp only [i64_w, i32_w]; rw [c21b0]) | skip)
                have H' := Aside0.mk H
                clear H
                go_wp2
                go_meet
                case rel => exact ⟨_, (a2), (by first | rfl | (simp; done) | (simp [*]; done)), H', ⟨by have := HJ5.out; first | omega | exact Nat.le_refl _⟩, by repeat (first | exact Drawn0.refl _ | apply Drawn0.step)⟩
              · rw [if_neg c21] at H
                have c21b0 : ((rd l0 a1) == 58) = false := beq_eq_false_iff_ne.mpr c21
                have c21b1 : ((rd l0 a1) != 58) = true := bne_iff_ne.mpr c21
                (first | rw [c21b0] | (simp only [i64_w, i32_w]; rw [c21b0]) | skip)
                have H' := Aside0.mk H
                clear H
                go_wp2
                go_meet
                case rel => exact ⟨_, (false), (by first | rfl | (simp; done) | (simp [*]; done)), H', ⟨by have := HJ5.out; first | omega | exact Nat.le_refl _⟩, by repeat (first | exact Drawn0.refl _ | apply Drawn0.step)⟩
            case rest =>
              clear HC20
              try clear c1
              try clear p1
              try clear q1
              try clear hx1
              try clear c2
              try clear p2
              try clear c4
              try clear c4b0
              try clear c5
              try clear c5b0
              try clear p6
              try clear c7
              try clear c7b0
              try clear c7b1
              try clear c9
              try clear c9b0
              try clear c10
              try clear c10b0
              try clear c12
              try clear c13
              try clear c13b0
              try clear c13b1
              try clear p13
              try clear q13
              try clear hx13
              try clear c14
              try clear c14b0
              try clear c16
              try clear c16b0
              try clear c17
              try clear c17b0
              try clear c19
              try clear c21
              try clear c21b0
              try clear c21b1
              try clear hx133_0
              try clear hx134_0
              try clear hx136_0
              try clear hx137_0
              try clear hx139_0
              try clear p1
              try clear p133
              try clear p134
              try clear p136
              try clear p137
              try clear p139
              try clear p2
              try clear p6
              try clear q1
              try clear q133
              try clear q134
              try clear q136
              try clear q137
              try clear q139
              obtain ⟨kq, x56_19, rfl, HA, HJ19, ⟨mc19, rfl⟩⟩ := hcut
              cases kq with
              | zero => exact absurd HA.out (by simp [spec_scPlainSign.j1])
              | succ kj19 =>
                have H := HA.out
                clear HA
                simp only [spec_scPlainSign.j1] at H
                by_cases c22 : x56_19 = true
                · subst c22
                  have H1 : (if a1 > 0 then (if x8_5 = true then (some false) else (if 0 ≤ (wrap64 (a1 - 1)) then (if (wrap64 (a1 - 1)) < (l0.length : Int) then ((spec_scLetter.f (rd l0 (wrap64 (a1 - 1)))).bind fun t141 => (if t141 = true then (if 0 ≤ (wrap64 (a1 + 1)) then (if (wrap64 (a1 + 1)) < (l0.length : Int) then ((spec_scLetter.f (rd l0 (wrap64 (a1 + 1)))).bind fun t143 => (some t143)) else (none)) else (none)) else (some false))) else (none)) else (none))) else (some false)) = some r := by rw [if_pos rfl] at H; exact H
                  clear H
                  have H := H1
                  clear H1
                  by_cases c23 : a1 > 0
                  · rw [if_pos c23] at H
                    have c23b0 : decide (0 < a1) = true := decide_eq_true c23
                    clear c23
                    by_cases c24 : x8_5 = true
                    · subst c24
                      have H1 : (some false) = some r := by rw [if_pos rfl] at H; exact H
                      clear H
                      have H := H1
                      clear H1
                      obtain rfl := Option.some.inj H
                      go_wp2
                      go_ret
                      exact ⟨by first | rfl | (simp; done) | (simp [*]; done), by repeat (first | exact Drawn0.refl _ | apply Drawn0.step)⟩
                    · replace c24 := Bool.eq_false_iff.mpr c24
                      subst c24
                      have H1 : (if 0 ≤ (wrap64 (a1 - 1)) then (if (wrap64 (a1 - 1)) < (l0.length : Int) then ((spec_scLetter.f (rd l0 (wrap64 (a1 - 1)))).bind fun t141 => (if t141 = true then (if 0 ≤ (wrap64 (a1 + 1)) then (if (wrap64 (a1 + 1)) < (l0.length : Int) then ((spec_scLetter.f (rd l0 (wrap64 (a1 + 1)))).bind fun t143 => (some t143)) else (none)) else (none)) else (some false))) else (none)) else (none)) = some r := by rw [if_neg (show ¬ (false = true) by decide)] at H; exact H
                      clear H
                      have H := H1
                      clear H1
                      obtain ⟨ji25, hji25⟩ : ∃ j_ : Int, (wrap64 (a1 - 1)) = j_ := ⟨_, rfl⟩
                      replace H : (if 0 ≤ (ji25) then (if (ji25) < (l0.length : Int) then ((spec_scLetter.f (rd l0 (ji25))).bind fun t141 => (if t141 = true then (if 0 ≤ (wrap64 (a1 + 1)) then (if (wrap64 (a1 + 1)) < (l0.length : Int) then ((spec_scLetter.f (rd l0 (wrap64 (a1 + 1)))).bind fun t143 => (some t143)) else (none)) else (none)) else (some false))) else (none)) else (none)) = some r := by first | (rw [hji25] at H; exact H) | (simp only [hji25] at H ⊢; exact H)
                      have hji25w : (IntKind.i64.wrap (a1 - 1)) = ji25 := (i64_w _).trans hji25
                      by_cases c26 : 0 ≤ (ji25)
                      · rw [if_pos c26] at H
                        have c26b0 : decide (0 ≤ (ji25)) = true := decide_eq_true c26
                        clear c26
                        by_cases c27 : (ji25) < (l0.length : Int)
                        · rw [if_pos c27] at H
                          have c27b0 : decide ((ji25) < (l0.length : Int)) = true := decide_eq_true c27
                          clear c27
                          replace H := Option.bind_eq_some_iff.mp H
                          obtain ⟨t141, A280, H⟩ := H
                          replace H : (if t141 = true then (if 0 ≤ (wrap64 (a1 + 1)) then (if (wrap64 (a1 + 1)) < (l0.length : Int) then ((spec_scLetter.f (rd l0 (wrap64 (a1 + 1)))).bind fun t143 => (some t143)) else (none)) else (none)) else (some false)) = some r := H
                          have A28 := Aside0.mk A280
                          clear A280
                          by_cases c29 : t141 = true
                          · subst c29
                            have H1 : (if 0 ≤ (wrap64 (a1 + 1)) then (if (wrap64 (a1 + 1)) < (l0.length : Int) then ((spec_scLetter.f (rd l0 (wrap64 (a1 + 1)))).bind fun t143 => (some t143)) else (none)) else (none)) = some r := by rw [if_pos rfl] at H; exact H
                            clear H
                            have H := H1
                            clear H1
                            obtain ⟨ji30, hji30⟩ : ∃ j_ : Int, (wrap64 (a1 + 1)) = j_ := ⟨_, rfl⟩
                            replace H : (if 0 ≤ (ji30) then (if (ji30) < (l0.length : Int) then ((spec_scLetter.f (rd l0 (ji30))).bind fun t143 => (some t143)) else (none)) else (none)) = some r := by first | (rw [hji30] at H; exact H) | (simp only [hji30] at H ⊢; exact H)
                            (try rw [hji30] at A28)
                            have hji30w : (IntKind.i64.wrap (a1 + 1)) = ji30 := (i64_w _).trans hji30
                            by_cases c31 : 0 ≤ (ji30)
                            · rw [if_pos c31] at H
                              have c31b0 : decide (0 ≤ (ji30)) = true := decide_eq_true c31
                              clear c31
                              by_cases c32 : (ji30) < (l0.length : Int)
                              · rw [if_pos c32] at H
                                have c32b0 : decide ((ji30) < (l0.length : Int)) = true := decide_eq_true c32
                                clear c32
                                replace H := Option.bind_eq_some_iff.mp H
                                obtain ⟨t143, A330, H⟩ := H
                                replace H : (some t143) = some r := H
                                have A33 := Aside0.mk A330
                                clear A330
                                obtain rfl := Option.some.inj H
                                have p140 : 0 ≤ ((ji25) : Int) := of_decide_eq_true (by first | (with_reducible assumption) | assumption)
                                have q140 : (ji25) < (l0.length : Int) := of_decide_eq_true (by first | (with_reducible assumption) | assumption)
                                obtain ⟨ad140, e140, hx140_0⟩ := Kd.at_int HR0.out (ji25) p140 q140
                                obtain rfl : ad133 = ad140 := (by injection e140)
                                replace p140 := eq_true p140
                                replace q140 := eq_true q140
                                go_wp2_with (first | (go_at_call 41; (with_reducible refine (spec_scLetter.calls (rd l0 (ji25)) true _ A28.out).mono ?_); rintro e w' ⟨rfl, ⟨nd, rfl⟩⟩; have p142 : 0 ≤ ((ji30) : Int) := of_decide_eq_true (by first | (with_reducible assumption) | assumption); have q142 : (ji30) < (l0.length : Int) := of_decide_eq_true (by first | (with_reducible assumption) | assumption); obtain ⟨ad142, e142, hx142_0⟩ := Kd.at_int HR0.out (ji30) p142 q142; obtain rfl : ad133 = ad142 := (by injection e142); replace p142 := eq_true p142; replace q142 := eq_true q142) | (go_at_call 41; (with_reducible refine (spec_scLetter.calls (rd l0 (ji30)) t143 _ A33.out).mono ?_); rintro e w' ⟨rfl, ⟨nd, rfl⟩⟩))
                                go_ret
                                exact ⟨by first | rfl | (simp; done) | (simp only [← hji25, ← hji30] <;> (first | rfl | simp)) | (simp [*]; done), by repeat (first | exact Drawn0.refl _ | apply Drawn0.step)⟩
                              · rw [if_neg c32] at H
                                exact absurd H (by simp)
                            · rw [if_neg c31] at H
                              exact absurd H (by simp)
                          · replace c29 := Bool.eq_false_iff.mpr c29
                            subst c29
                            have H1 : (some false) = some r := by rw [if_neg (show ¬ (false = true) by decide)] at H; exact H
                            clear H
                            have H := H1
                            clear H1
                            obtain rfl := Option.some.inj H
                            have p140 : 0 ≤ ((ji25) : Int) := of_decide_eq_true (by first | (with_reducible assumption) | assumption)
                            have q140 : (ji25) < (l0.length : Int) := of_decide_eq_true (by first | (with_reducible assumption) | assumption)
                            obtain ⟨ad140, e140, hx140_0⟩ := Kd.at_int HR0.out (ji25) p140 q140
                            obtain rfl : ad133 = ad140 := (by injection e140)
                            replace p140 := eq_true p140
                            replace q140 := eq_true q140
                            go_wp2_with (first | (go_at_call 41; (with_reducible refine (spec_scLetter.calls (rd l0 (ji25)) false _ A28.out).mono ?_); rintro e w' ⟨rfl, ⟨nd, rfl⟩⟩))
                            go_ret
                            exact ⟨by first | rfl | (simp; done) | (simp only [← hji25] <;> (first | rfl | simp)) | (simp [*]; done), by repeat (first | exact Drawn0.refl _ | apply Drawn0.step)⟩
                        · rw [if_neg c27] at H
                          exact absurd H (by simp)
                      · rw [if_neg c26] at H
                        exact absurd H (by simp)
                  · rw [if_neg c23] at H
                    have c23b0 : decide (0 < a1) = false := decide_eq_false c23
                    clear c23
                    obtain rfl := Option.some.inj H
                    go_wp2
                    go_ret
                    exact ⟨by first | rfl | (simp; done) | (simp [*]; done), by repeat (first | exact Drawn0.refl _ | apply Drawn0.step)⟩
                · replace c22 := Bool.eq_false_iff.mpr c22
                  subst c22
                  have H1 : (if (rd l0 a1) = 58 then (some (!x8_5)) else (if a2 = true then ((spec_scFlowSign.f (rd l0 a1)).bind fun t144 => (if t144 = true then (some false) else (some ((rd l0 a1) != 63)))) else (some true))) = some r := by rw [if_neg (show ¬ (false = true) by decide)] at H; exact H
                  clear H
                  have H := H1
                  clear H1
                  by_cases c34 : (rd l0 a1) = 58
                  · rw [if_pos c34] at H
                    have c34b0 : ((rd l0 a1) == 58) = true := beq_iff_eq.mpr c34
                    have c34b1 : ((rd l0 a1) != 58) = false := bne_eq_false_iff_eq.mpr c34
                    clear c34
                    obtain rfl := Option.some.inj H
                    go_wp2
                    go_ret
                    exact ⟨by first | rfl | (simp; done) | (simp [*]; done), by repeat (first | exact Drawn0.refl _ | apply Drawn0.step)⟩
                  · rw [if_neg c34] at H
                    have c34b0 : ((rd l0 a1) == 58) = false := beq_eq_false_iff_ne.mpr c34
                    have c34b1 : ((rd l0 a1) != 58) = true := bne_iff_ne.mpr c34
                    by_cases c35 : a2 = true
                    · subst c35
                      have H1 : ((spec_scFlowSign.f (rd l0 a1)).bind fun t144 => (if t144 = true then (some false) else (some ((rd l0 a1) != 63)))) = some r := by rw [if_pos rfl] at H; exact H
                      clear H
                      have H := H1
                      clear H1
                      replace H := Option.bind_eq_some_iff.mp H
                      obtain ⟨t144, A360, H⟩ := H
                      replace H : (if t144 = true then (some false) else (some ((rd l0 a1) != 63))) = some r := H
                      have A36 := Aside0.mk A360
                      clear A360
                      by_cases c37 : t144 = true
                      · subst c37
                        have H1 : (some false) = some r := by rw [if_pos rfl] at H; exact H
                        clear H
                        have H := H1
                        clear H1
                        obtain rfl := Option.some.inj H
                        go_wp2_with (first | ((with_reducible refine gate_callee (f := 81) rfl ?_); refine goesL_ (some 92) rfl rfl Tryz.func81 (by kernel_rfl) rfl #[.int .i32 (rd l0 a1)] rfl (by (try simp only [List.map_toArray, List.map_cons, List.map_nil]); first | done | rfl | (simp only [List.length_drop, List.length_take]; rfl)) ?_; (with_reducible refine (spec_scFlowSign.calls (rd l0 a1) true _ A36.out).mono ?_); rintro e w' ⟨rfl, ⟨nd, rfl⟩⟩; refine ⟨_, rfl, ?_⟩))
                        go_ret
                        exact ⟨by first | rfl | (simp; done) | (simp [*]; done), by repeat (first | exact Drawn0.refl _ | apply Drawn0.step)⟩
                      · replace c37 := Bool.eq_false_iff.mpr c37
                        subst c37
                        have H1 : (some ((rd l0 a1) != 63)) = some r := by rw [if_neg (show ¬ (false = true) by decide)] at H; exact H
                        clear H
                        have H := H1
                        clear H1
                        obtain rfl := Option.some.inj H
                        go_wp2_with (first | ((with_reducible refine gate_callee (f := 81) rfl ?_); refine goesL_ (some 92) rfl rfl Tryz.func81 (by kernel_rfl) rfl #[.int .i32 (rd l0 a1)] rfl (by (try simp only [List.map_toArray, List.map_cons, List.map_nil]); first | done | rfl | (simp only [List.length_drop, List.length_take]; rfl)) ?_; (with_reducible refine (spec_scFlowSign.calls (rd l0 a1) false _ A36.out).mono ?_); rintro e w' ⟨rfl, ⟨nd, rfl⟩⟩; refine ⟨_, rfl, ?_⟩))
                        go_ret
                        exact ⟨by first | rfl | (simp; done) | (simp [*]; done), by repeat (first | exact Drawn0.refl _ | apply Drawn0.step)⟩
                    · replace c35 := Bool.eq_false_iff.mpr c35
                      subst c35
                      have H1 : (some true) = some r := by rw [if_neg (show ¬ (false = true) by decide)] at H; exact H
                      clear H
                      have H := H1
                      clear H1
                      obtain rfl := Option.some.inj H
                      go_wp2
                      go_ret
                      exact ⟨by first | rfl | (simp; done) | (simp [*]; done), by repeat (first | exact Drawn0.refl _ | apply Drawn0.step)⟩
    · rw [if_neg c5] at H
      exact absurd H (by simp)
  · rw [if_neg c4] at H
    exact absurd H (by simp)

-- NOT PRINTED: function 17 (spec_MayPlain)

end Go.Proofs.YtlkbhmmelejmjaaGreatDoor.QKnown
