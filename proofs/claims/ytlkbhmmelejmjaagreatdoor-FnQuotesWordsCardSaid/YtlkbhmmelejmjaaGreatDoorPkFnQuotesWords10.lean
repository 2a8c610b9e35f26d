/- Parts of the proof of FnQuotesWords, one behind the other: QKnown, QRunes, QNeed, AsDig, AsFlo. Each part says ahead of itself what it proves. -/
import Derived.Test.YtlkbhmmelejmjaaGreatDoorPkFnQuotesWords1
import Derived.Test.YtlkbhmmelejmjaaGreatDoorPkFnQuotesWords9
import Derived.WalkKit
import Derived.Deep.LoopGhost
import Derived.Deep.QuietTactic
import Derived.BigQuiet
import Derived.WalkSpells
import Derived.WalkLawsBesides
import Derived.Laws.RangeAny

/- functions as print.sh prints them, cut out of its texts. -/
namespace Go.Proofs.YtlkbhmmelejmjaaGreatDoor.QKnown
open Go.RowKit Go.Proofs.YtlkbhmmelejmjaaGreatDoorW.PrintWords Go.Proofs.YtlkbhmmelejmjaaGreatDoorW.PrintLast Go.Proofs.YtlkbhmmelejmjaaGreatDoorW.PrintMore Go.Proofs.YtlkbhmmelejmjaaGreatDoor.Base0
attribute [local go_sem] max2_int min2_int max_two min_two max_three min_three max_four min_four   -- for this text's walks alone
set_option linter.unusedVariables false
set_option linter.unusedSimpArgs false



/-! ### spec_scContent: function 80 -/
def spec_scContent.j0 : Nat → Int → Bool → Option (Bool)
  | 0, _, _ => none
  | k + 1, x0, x3 => if x3 = true then (if x0 = 8232 then (some false) else (some (x0 != 8233))) else (if x0 ≥ 57344 then (if x0 ≤ 65533 then (some (x0 != 65279)) else (if x0 ≥ 65536 then (some (decide (x0 ≤ 1114111))) else (some false))) else (if x0 ≥ 65536 then (some (decide (x0 ≤ 1114111))) else (some false)))
def spec_scContent.f (k : Nat) (a0 : Int) : Option (Bool) := if a0 = 9 then (spec_scContent.j0 k a0 (a0 == 9)) else (if a0 ≥ 32 then (if a0 ≤ 126 then (spec_scContent.j0 k a0 (decide (a0 ≤ 126))) else (if a0 ≥ 160 then (spec_scContent.j0 k a0 (decide (a0 ≤ 55295))) else (spec_scContent.j0 k a0 false))) else (if a0 ≥ 160 then (spec_scContent.j0 k a0 (decide (a0 ≤ 55295))) else (spec_scContent.j0 k a0 false)))
theorem spec_scContent.mono_l : ∀ k, (∀ y0 y1, LeO (spec_scContent.j0 k y0 y1) (spec_scContent.j0 (k + 1) y0 y1))
  | 0 => fun _ _ r h => by simp [spec_scContent.j0] at h
  | k + 1 => by
    have ih0 := spec_scContent.mono_l k
    · intro y0 y1
      unfold spec_scContent.j0
      repeat' first
      | (with_reducible exact ih0 _ _)
      | (with_reducible exact LeO.refl _)
      | (with_reducible exact LeO.none _)
      | (with_reducible refine LeO.ite ?_ ?_)
      | (with_reducible refine LeO.bind ?_ (fun _ => ?_))
      | exact ih0 _ _
      | exact LeO.none _
      | refine LeO.ite ?_ ?_
      | refine LeO.bind ?_ (fun _ => ?_)
theorem spec_scContent.mono : ∀ a0 k, LeO (spec_scContent.f k a0) (spec_scContent.f (k + 1) a0) := by
  intro a0 k
  have ih0 := spec_scContent.mono_l k
  unfold spec_scContent.f
  repeat' first
      | (with_reducible exact ih0 _ _)
      | (with_reducible exact LeO.refl _)
      | (with_reducible exact LeO.none _)
      | (with_reducible refine LeO.ite ?_ ?_)
      | (with_reducible refine LeO.bind ?_ (fun _ => ?_))
      | exact ih0 _ _
      | exact LeO.none _
      | refine LeO.ite ?_ ?_
      | refine LeO.bind ?_ (fun _ => ?_)
set_option maxHeartbeats 8000000 in
set_option maxRecDepth 100000 in
theorem spec_scContent.calls (k : Nat) (a0 : Int) (r : Bool) (w : World) (h : spec_scContent.f k a0 = some r) :
    Calls Tryz.prog 80 #[.int .i32 a0] w fun e w' => e = .returned (.bool r) ∧ Drawn0 w w' := by
  have H : (if a0 = 9 then (spec_scContent.j0 k a0 (a0 == 9)) else (if a0 ≥ 32 then (if a0 ≤ 126 then (spec_scContent.j0 k a0 (decide (a0 ≤ 126))) else (if a0 ≥ 160 then (spec_scContent.j0 k a0 (decide (a0 ≤ 55295))) else (spec_scContent.j0 k a0 false))) else (if a0 ≥ 160 then (spec_scContent.j0 k a0 (decide (a0 ≤ 55295))) else (spec_scContent.j0 k a0 false)))) = some r := h
  clear h
  have HC2 := Aside0.mk H
  clear H
  go_enter Tryz.func80, Tryz.ntmps80
  go_upto_if 3 with (fail)
  go_cut [3] (fun v3 wc => ∃ (kq : Nat) (x3_1 : Bool), v3 = .bool x3_1 ∧ Aside0 (spec_scContent.j0 kq a0 x3_1 = some r) ∧ Aside0 (kq ≤ k) ∧ Drawn0 w wc)
  case first =>
    have H := HC2.out
    clear HC2
    by_cases c3 : a0 = 9
    · rw [if_pos c3] at H
      have c3b0 : (a0 == 9) = true := beq_iff_eq.mpr c3
      have c3b1 : (a0 != 9) = false := bne_eq_false_iff_eq.mpr c3
      clear c3
      (first | rw [c3b0] | (simp only [i64_w, i32_w]; rw [c3b0]) | skip)
      have H' := Aside0.mk H
      clear H
      go_wp2
      go_meet
      case rel => exact ⟨_, ((a0 == 9)), (by first | rfl | (simp; done) | (simp [*]; done)), H', ⟨by first | omega | exact Nat.le_refl _⟩, by repeat (first | exact Drawn0.refl _ | apply Drawn0.step)⟩
    · rw [if_neg c3] at H
      have c3b0 : (a0 == 9) = false := beq_eq_false_iff_ne.mpr c3
      have c3b1 : (a0 != 9) = true := bne_iff_ne.mpr c3
      (first | rw [c3b0] | (simp only [i64_w, i32_w]; rw [c3b0]) | skip)
      by_cases c4 : a0 ≥ 32
      · rw [if_pos c4] at H
        have c4b0 : decide (32 ≤ a0) = true := decide_eq_true c4
        clear c4
        by_cases c5 : a0 ≤ 126
        · rw [if_pos c5] at H
          have c5b0 : decide (a0 ≤ 126) = true := decide_eq_true c5
          clear c5
          have H' := Aside0.mk H
          clear H
          go_wp2
          go_meet
          case rel => exact ⟨_, (decide (a0 ≤ 126)), (by first | rfl | (simp; done) | (simp [*]; done)), H', ⟨by first | omega | exact Nat.le_refl _⟩, by repeat (first | exact Drawn0.refl _ | apply Drawn0.step)⟩
        · rw [if_neg c5] at H
          have c5b0 : decide (a0 ≤ 126) = false := decide_eq_false c5
          clear c5
          by_cases c6 : a0 ≥ 160
          · rw [if_pos c6] at H
            have c6b0 : decide (160 ≤ a0) = true := decide_eq_true c6
            clear c6
            have H' := Aside0.mk H
            clear H
            go_wp2
            go_meet
            case rel => exact ⟨_, (decide (a0 ≤ 55295)), (by first | rfl | (simp; done) | (simp [*]; done)), H', ⟨by first | omega | exact Nat.le_refl _⟩, by repeat (first | exact Drawn0.refl _ | apply Drawn0.step)⟩
          · rw [if_neg c6] at H
            have c6b0 : decide (160 ≤ a0) = false := decide_eq_false c6
            clear c6
            have H' := Aside0.mk H
            clear H
            go_wp2
            go_meet
            case rel => exact ⟨_, (false), (by first | rfl | (simp; done) | (simp [*]; done)), H', ⟨by first | omega | exact Nat.le_refl _⟩, by repeat (first | exact Drawn0.refl _ | apply Drawn0.step)⟩
      · rw [if_neg c4] at H
        have c4b0 : decide (32 ≤ a0) = false := decide_eq_false c4
        clear c4
        by_cases c7 : a0 ≥ 160
        · rw [if_pos c7] at H
          have c7b0 : decide (160 ≤ a0) = true := decide_eq_true c7
          clear c7
          have H' := Aside0.mk H
          clear H
          go_wp2
          go_meet
          case rel => exact ⟨_, (decide (a0 ≤ 55295)), (by first | rfl | (simp; done) | (simp [*]; done)), H', ⟨by first | omega | exact Nat.le_refl _⟩, by repeat (first | exact Drawn0.refl _ | apply Drawn0.step)⟩
        · rw [if_neg c7] at H
          have c7b0 : decide (160 ≤ a0) = false := decide_eq_false c7
          clear c7
          have H' := Aside0.mk H
          clear H
          go_wp2
          go_meet
          case rel => exact ⟨_, (false), (by first | rfl | (simp; done) | (simp [*]; done)), H', ⟨by first | omega | exact Nat.le_refl _⟩, by repeat (first | exact Drawn0.refl _ | apply Drawn0.step)⟩
  case rest =>
    clear HC2
    try clear p2
    try clear c3
    try clear c3b0
    try clear c3b1
    try clear c4
    try clear c4b0
    try clear c5
    try clear c5b0
    try clear c6
    try clear c6b0
    try clear c7
    try clear c7b0
    obtain ⟨kq, x3_1, rfl, HA, HJ1, ⟨mc1, rfl⟩⟩ := hcut
    cases kq with
    | zero => exact absurd HA.out (by simp [spec_scContent.j0])
    | succ kj1 =>
      have H := HA.out
      clear HA
      simp only [spec_scContent.j0] at H
      by_cases c8 : x3_1 = true
      · subst c8
        have H1 : (if a0 = 8232 then (some false) else (some (a0 != 8233))) = some r := by rw [if_pos rfl] at H; exact H
        clear H
        have H := H1
        clear H1
        by_cases c9 : a0 = 8232
        · rw [if_pos c9] at H
          have c9b0 : (a0 == 8232) = true := beq_iff_eq.mpr c9
          have c9b1 : (a0 != 8232) = false := bne_eq_false_iff_eq.mpr c9
          clear c9
          obtain rfl := Option.some.inj H
          go_wp2
          go_ret
          exact ⟨by first | rfl | (simp; done) | (simp [*]; done), by repeat (first | exact Drawn0.refl _ | apply Drawn0.step)⟩
        · rw [if_neg c9] at H
          have c9b0 : (a0 == 8232) = false := beq_eq_false_iff_ne.mpr c9
          have c9b1 : (a0 != 8232) = true := bne_iff_ne.mpr c9
          obtain rfl := Option.some.inj H
          go_wp2
          go_ret
          exact ⟨by first | rfl | (simp; done) | (simp [*]; done), by repeat (first | exact Drawn0.refl _ | apply Drawn0.step)⟩
      · replace c8 := Bool.eq_false_iff.mpr c8
        subst c8
        have H1 : (if a0 ≥ 57344 then (if a0 ≤ 65533 then (some (a0 != 65279)) else (if a0 ≥ 65536 then (some (decide (a0 ≤ 1114111))) else (some false))) else (if a0 ≥ 65536 then (some (decide (a0 ≤ 1114111))) else (some false))) = some r := by rw [if_neg (show ¬ (false = true) by decide)] at H; exact H
        clear H
        have H := H1
        clear H1
        by_cases c10 : a0 ≥ 57344
        · rw [if_pos c10] at H
          have c10b0 : decide (57344 ≤ a0) = true := decide_eq_true c10
          clear c10
          by_cases c11 : a0 ≤ 65533
          · rw [if_pos c11] at H
            have c11b0 : decide (a0 ≤ 65533) = true := decide_eq_true c11
            clear c11
            obtain rfl := Option.some.inj H
            go_wp2
            go_ret
            exact ⟨by first | rfl | (simp; done) | (simp [*]; done), by repeat (first | exact Drawn0.refl _ | apply Drawn0.step)⟩
          · rw [if_neg c11] at H
            have c11b0 : decide (a0 ≤ 65533) = false := decide_eq_false c11
            clear c11
            by_cases c12 : a0 ≥ 65536
            · rw [if_pos c12] at H
              have c12b0 : decide (65536 ≤ a0) = true := decide_eq_true c12
              clear c12
              obtain rfl := Option.some.inj H
              go_wp2
              go_ret
              exact ⟨by first | rfl | (simp; done) | (simp [*]; done), by repeat (first | exact Drawn0.refl _ | apply Drawn0.step)⟩
            · rw [if_neg c12] at H
              have c12b0 : decide (65536 ≤ a0) = false := decide_eq_false c12
              clear c12
              obtain rfl := Option.some.inj H
              go_wp2
              go_ret
              exact ⟨by first | rfl | (simp; done) | (simp [*]; done), by repeat (first | exact Drawn0.refl _ | apply Drawn0.step)⟩
        · rw [if_neg c10] at H
          have c10b0 : decide (57344 ≤ a0) = false := decide_eq_false c10
          clear c10
          by_cases c13 : a0 ≥ 65536
          · rw [if_pos c13] at H
            have c13b0 : decide (65536 ≤ a0) = true := decide_eq_true c13
            clear c13
            obtain rfl := Option.some.inj H
            go_wp2
            go_ret
            exact ⟨by first | rfl | (simp; done) | (simp [*]; done), by repeat (first | exact Drawn0.refl _ | apply Drawn0.step)⟩
          · rw [if_neg c13] at H
            have c13b0 : decide (65536 ≤ a0) = false := decide_eq_false c13
            clear c13
            obtain rfl := Option.some.inj H
            go_wp2
            go_ret
            exact ⟨by first | rfl | (simp; done) | (simp [*]; done), by repeat (first | exact Drawn0.refl _ | apply Drawn0.step)⟩

/-! ### spec_scAll: function 34 -/
def spec_scAll.l0 : Nat → Bool → List Int → Int → Int → Option (Bool)
  | 0, _, _, _, _ => none
  | k + 1, x1, x7, x8, x9 => if x9 < x8 then (if 0 ≤ x9 then (if x9 < (x7.length : Int) then ((spec_scContent.f k (rd x7 x9)).bind fun t113 => (if t113 = true then (spec_scAll.l0 k x1 x7 x8 (wrap64 (x9 + 1))) else (if x1 = true then (if ((rd x7 x9) = 10) then (spec_scAll.l0 k x1 x7 x8 (wrap64 (x9 + 1))) else (some false)) else (some false)))) else (none)) else (none)) else (some true)
def spec_scAll.f (k : Nat) (l0 : List Int) (a1 : Bool) : Option (Bool) := spec_scAll.l0 k a1 l0 (l0.length : Int) 0
theorem spec_scAll.mono_l : ∀ k, (∀ y0 y1 y2 y3, LeO (spec_scAll.l0 k y0 y1 y2 y3) (spec_scAll.l0 (k + 1) y0 y1 y2 y3))
  | 0 => fun _ _ _ _ r h => by simp [spec_scAll.l0] at h
  | k + 1 => by
    have ih0 := spec_scAll.mono_l k
    · intro y0 y1 y2 y3
      unfold spec_scAll.l0
      repeat' first
      | (with_reducible exact ih0 _ _ _ _)
      | (with_reducible exact spec_scContent.mono _ _)
      | (with_reducible exact LeO.refl _)
      | (with_reducible exact LeO.none _)
      | (with_reducible refine LeO.ite ?_ ?_)
      | (with_reducible refine LeO.bind ?_ (fun _ => ?_))
      | exact ih0 _ _ _ _
      | exact spec_scContent.mono _ _
      | exact LeO.none _
      | refine LeO.ite ?_ ?_
      | refine LeO.bind ?_ (fun _ => ?_)
theorem spec_scAll.mono : ∀ a0 a1 k, LeO (spec_scAll.f k a0 a1) (spec_scAll.f (k + 1) a0 a1) := by
  intro a0 a1 k
  have ih0 := spec_scAll.mono_l k
  unfold spec_scAll.f
  repeat' first
      | (with_reducible exact ih0 _ _ _ _)
      | (with_reducible exact spec_scContent.mono _ _)
      | (with_reducible exact LeO.refl _)
      | (with_reducible exact LeO.none _)
      | (with_reducible refine LeO.ite ?_ ?_)
      | (with_reducible refine LeO.bind ?_ (fun _ => ?_))
      | exact ih0 _ _ _ _
      | exact spec_scContent.mono _ _
      | exact LeO.none _
      | refine LeO.ite ?_ ?_
      | refine LeO.bind ?_ (fun _ => ?_)
set_option maxHeartbeats 8000000 in
set_option maxRecDepth 100000 in
theorem spec_scAll.calls (k : Nat) (A0 : Option Addr) (c0 : Nat) (l0 : List Int) (a1 : Bool) (r : Bool) (w : World) (hr0 : Kd.C (Kd.int .i32) w A0 l0.length l0) (hc0 : l0.length ≤ c0) (h : spec_scAll.f k l0 a1 = some r) :
    Calls Tryz.prog 34 #[.slice A0 l0.length c0, .bool a1] w fun e w' => e = .returned (.bool r) ∧ Drawn0 w w' := by
  have HR0 := Aside0.mk hr0
  have HC0 := Aside0.mk hc0
  clear hr0 hc0
  have H : (spec_scAll.l0 k a1 l0 (l0.length : Int) 0) = some r := h
  clear h
  have H' := Aside0.mk H
  clear H
  go_enter Tryz.func34, Tryz.ntmps34
  go_wp2
  go_loopg [9] k (fun kq v9 w' => ∃ (x9_1 : Int), v9 = .int .i64 x9_1 ∧ Aside0 (spec_scAll.l0 kq a1 l0 (l0.length : Int) x9_1 = some r) ∧ Aside0 (kq ≤ k) ∧ Drawn0 w w')
  case atStart => exact ⟨(0), (by first | rfl | (simp; done) | (simp [*]; done)), H', ⟨Nat.le_refl _⟩, by repeat (first | exact Drawn0.refl _ | apply Drawn0.step)⟩
  case round =>
    clear H'
    try clear p2
    obtain ⟨x9_1, rfl, HA, HK1, ⟨m1, rfl⟩⟩ := hrel
    cases gk with
    | zero => exact absurd HA.out (by simp [spec_scAll.l0])
    | succ k1 =>
      have H := HA.out
      clear HA
      simp only [spec_scAll.l0] at H
      by_cases c3 : x9_1 < (l0.length : Int)
      · rw [if_pos c3] at H
        have c3b0 : decide (x9_1 < (l0.length : Int)) = true := decide_eq_true c3
        clear c3
        by_cases c4 : 0 ≤ x9_1
        · rw [if_pos c4] at H
          have c4b0 : decide (0 ≤ x9_1) = true := decide_eq_true c4
          clear c4
          by_cases c5 : x9_1 < (l0.length : Int)
          · rw [if_pos c5] at H
            have c5b0 : decide (x9_1 < (l0.length : Int)) = true := decide_eq_true c5
            clear c5
            replace H := Option.bind_eq_some_iff.mp H
            obtain ⟨t113, A60, H⟩ := H
            replace H : (if t113 = true then (spec_scAll.l0 k1 a1 l0 (l0.length : Int) (wrap64 (x9_1 + 1))) else (if a1 = true then (if ((rd l0 x9_1) = 10) then (spec_scAll.l0 k1 a1 l0 (l0.length : Int) (wrap64 (x9_1 + 1))) else (some false)) else (some false))) = some r := H
            have A6 := Aside0.mk A60
            clear A60
            by_cases c7 : t113 = true
            · subst c7
              have H1 : (spec_scAll.l0 k1 a1 l0 (l0.length : Int) (wrap64 (x9_1 + 1))) = some r := by rw [if_pos rfl] at H; exact H
              clear H
              have H := H1
              clear H1
              have H' := Aside0.mk H
              clear H
              have p112 : 0 ≤ (x9_1 : Int) := of_decide_eq_true (by first | (with_reducible assumption) | assumption)
              have q112 : x9_1 < (l0.length : Int) := of_decide_eq_true (by first | (with_reducible assumption) | assumption)
              obtain ⟨ad112, e112, hx112_0⟩ := Kd.at_int HR0.out x9_1 p112 q112
              cases e112
              replace p112 := eq_true p112
              replace q112 := eq_true q112
              go_wp2_with (first | ((with_reducible refine gate_callee (f := 80) rfl ?_); refine goesL_ (some 14) rfl rfl Tryz.func80 (by kernel_rfl) rfl #[.int .i32 (rd l0 x9_1)] rfl (by (try simp only [List.map_toArray, List.map_cons, List.map_nil]); first | done | rfl | (simp only [List.length_drop, List.length_take]; rfl)) ?_; (with_reducible refine (spec_scContent.calls k1 (rd l0 x9_1) true _ A6.out).mono ?_); rintro e w' ⟨rfl, ⟨nd, rfl⟩⟩; refine ⟨_, rfl, ?_⟩))
              go_roundg k1
              case measure => have := HK1.out; omega
              case rel => exact ⟨(wrap64 (x9_1 + 1)), (by first | rfl | (simp; done) | (simp [*]; done)), H', ⟨by have := HK1.out; omega⟩, by repeat (first | exact Drawn0.refl _ | apply Drawn0.step)⟩
            · replace c7 := Bool.eq_false_iff.mpr c7
              subst c7
              have H1 : (if a1 = true then (if ((rd l0 x9_1) = 10) then (spec_scAll.l0 k1 a1 l0 (l0.length : Int) (wrap64 (x9_1 + 1))) else (some false)) else (some false)) = some r := by rw [if_neg (show ¬ (false = true) by decide)] at H; exact H
              clear H
              have H := H1
              clear H1
              by_cases c8 : a1 = true
              · subst c8
                have H1 : (if ((rd l0 x9_1) = 10) then (spec_scAll.l0 k1 true l0 (l0.length : Int) (wrap64 (x9_1 + 1))) else (some false)) = some r := by rw [if_pos rfl] at H; exact H
                clear H
                have H := H1
                clear H1
                by_cases c9 : ((rd l0 x9_1) = 10)
                · rw [if_pos c9] at H
                  have c9b0 : ((rd l0 x9_1) == 10) = true := beq_iff_eq.mpr c9
                  have c9b1 : ((rd l0 x9_1) != 10) = false := bne_eq_false_iff_eq.mpr c9
                  clear c9
                  have H' := Aside0.mk H
                  clear H
                  have p112 : 0 ≤ (x9_1 : Int) := of_decide_eq_true (by first | (with_reducible assumption) | assumption)
                  have q112 : x9_1 < (l0.length : Int) := of_decide_eq_true (by first | (with_reducible assumption) | assumption)
                  obtain ⟨ad112, e112, hx112_0⟩ := Kd.at_int HR0.out x9_1 p112 q112
                  cases e112
                  replace p112 := eq_true p112
                  replace q112 := eq_true q112
                  go_wp2_with (first | ((with_reducible refine gate_callee (f := 80) rfl ?_); refine goesL_ (some 14) rfl rfl Tryz.func80 (by kernel_rfl) rfl #[.int .i32 (rd l0 x9_1)] rfl (by (try simp only [List.map_toArray, List.map_cons, List.map_nil]); first | done | rfl | (simp only [List.length_drop, List.length_take]; rfl)) ?_; (with_reducible refine (spec_scContent.calls k1 (rd l0 x9_1) false _ A6.out).mono ?_); rintro e w' ⟨rfl, ⟨nd, rfl⟩⟩; refine ⟨_, rfl, ?_⟩))
                  go_roundg k1
                  case measure => have := HK1.out; omega
                  case rel => exact ⟨(wrap64 (x9_1 + 1)), (by first | rfl | (simp; done) | (simp [*]; done)), H', ⟨by have := HK1.out; omega⟩, by repeat (first | exact Drawn0.refl _ | apply Drawn0.step)⟩
                · rw [if_neg c9] at H
                  have c9b0 : ((rd l0 x9_1) == 10) = false := beq_eq_false_iff_ne.mpr c9
                  have c9b1 : ((rd l0 x9_1) != 10) = true := bne_iff_ne.mpr c9
                  obtain rfl := Option.some.inj H
                  have p112 : 0 ≤ (x9_1 : Int) := of_decide_eq_true (by first | (with_reducible assumption) | assumption)
                  have q112 : x9_1 < (l0.length : Int) := of_decide_eq_true (by first | (with_reducible assumption) | assumption)
                  obtain ⟨ad112, e112, hx112_0⟩ := Kd.at_int HR0.out x9_1 p112 q112
                  cases e112
                  replace p112 := eq_true p112
                  replace q112 := eq_true q112
                  go_wp2_with (first | ((with_reducible refine gate_callee (f := 80) rfl ?_); refine goesL_ (some 14) rfl rfl Tryz.func80 (by kernel_rfl) rfl #[.int .i32 (rd l0 x9_1)] rfl (by (try simp only [List.map_toArray, List.map_cons, List.map_nil]); first | done | rfl | (simp only [List.length_drop, List.length_take]; rfl)) ?_; (with_reducible refine (spec_scContent.calls k1 (rd l0 x9_1) false _ A6.out).mono ?_); rintro e w' ⟨rfl, ⟨nd, rfl⟩⟩; refine ⟨_, rfl, ?_⟩))
                  go_ret
                  exact ⟨by first | rfl | (simp; done) | (simp [*]; done), by repeat (first | exact Drawn0.refl _ | apply Drawn0.step)⟩
              · replace c8 := Bool.eq_false_iff.mpr c8
                subst c8
                have H1 : (some false) = some r := by rw [if_neg (show ¬ (false = true) by decide)] at H; exact H
                clear H
                have H := H1
                clear H1
                obtain rfl := Option.some.inj H
                have p112 : 0 ≤ (x9_1 : Int) := of_decide_eq_true (by first | (with_reducible assumption) | assumption)
                have q112 : x9_1 < (l0.length : Int) := of_decide_eq_true (by first | (with_reducible assumption) | assumption)
                obtain ⟨ad112, e112, hx112_0⟩ := Kd.at_int HR0.out x9_1 p112 q112
                cases e112
                replace p112 := eq_true p112
                replace q112 := eq_true q112
                go_wp2_with (first | ((with_reducible refine gate_callee (f := 80) rfl ?_); refine goesL_ (some 14) rfl rfl Tryz.func80 (by kernel_rfl) rfl #[.int .i32 (rd l0 x9_1)] rfl (by (try simp only [List.map_toArray, List.map_cons, List.map_nil]); first | done | rfl | (simp only [List.length_drop, List.length_take]; rfl)) ?_; (with_reducible refine (spec_scContent.calls k1 (rd l0 x9_1) false _ A6.out).mono ?_); rintro e w' ⟨rfl, ⟨nd, rfl⟩⟩; refine ⟨_, rfl, ?_⟩))
                go_ret
                exact ⟨by first | rfl | (simp; done) | (simp [*]; done), by repeat (first | exact Drawn0.refl _ | apply Drawn0.step)⟩
          · rw [if_neg c5] at H
            exact absurd H (by simp)
        · rw [if_neg c4] at H
          exact absurd H (by simp)
      · rw [if_neg c3] at H
        have c3b0 : decide (x9_1 < (l0.length : Int)) = false := decide_eq_false c3
        clear c3
        obtain rfl := Option.some.inj H
        go_wp2
        go_ret
        exact ⟨by first | rfl | (simp; done) | (simp [*]; done), by repeat (first | exact Drawn0.refl _ | apply Drawn0.step)⟩

-- NOT PRINTED: function 30 (spec_Row)

/-! ### spec_Has: function 31 -/
mutual
def spec_Has.l0 : Nat → ByteArray → ByteArray → Int → Option (Bool)
  | 0, _, _, _ => none
  | k + 1, x0, x1, x5 => if x5 < (x0.size : Int) then (spec_Has.l1 k x0 x1 x5 0) else (some false)
def spec_Has.l1 : Nat → ByteArray → ByteArray → Int → Int → Option (Bool)
  | 0, _, _, _, _ => none
  | k + 1, x0, x1, x5, x6 => if x6 < (x1.size : Int) then (if 0 ≤ x5 then (if x5 < (x0.size : Int) then (if 0 ≤ x6 then (if (bt x0 x5) = (bt x1 x6) then (some true) else (spec_Has.l1 k x0 x1 x5 (wrap64 (x6 + 1)))) else (none)) else (none)) else (none)) else (spec_Has.l0 k x0 x1 (wrap64 (x5 + 1)))
end
def spec_Has.f (k : Nat) (a0 : ByteArray) (a1 : ByteArray) : Option (Bool) := spec_Has.l0 k a0 a1 0
theorem spec_Has.mono_l : ∀ k, (∀ y0 y1 y2, LeO (spec_Has.l0 k y0 y1 y2) (spec_Has.l0 (k + 1) y0 y1 y2)) ∧ (∀ y0 y1 y2 y3, LeO (spec_Has.l1 k y0 y1 y2 y3) (spec_Has.l1 (k + 1) y0 y1 y2 y3))
  | 0 => ⟨fun _ _ _ r h => by simp [spec_Has.l0] at h, fun _ _ _ _ r h => by simp [spec_Has.l1] at h⟩
  | k + 1 => by
    obtain ⟨ih0, ih1⟩ := spec_Has.mono_l k
    refine ⟨?_, ?_⟩
    · intro y0 y1 y2
      unfold spec_Has.l0
      repeat' first
      | (with_reducible exact ih0 _ _ _)
      | (with_reducible exact ih1 _ _ _ _)
      | (with_reducible exact LeO.refl _)
      | (with_reducible exact LeO.none _)
      | (with_reducible refine LeO.ite ?_ ?_)
      | (with_reducible refine LeO.bind ?_ (fun _ => ?_))
      | exact ih0 _ _ _
      | exact ih1 _ _ _ _
      | exact LeO.none _
      | refine LeO.ite ?_ ?_
      | refine LeO.bind ?_ (fun _ => ?_)
    · intro y0 y1 y2 y3
      unfold spec_Has.l1
      repeat' first
      | (with_reducible exact ih0 _ _ _)
      | (with_reducible exact ih1 _ _ _ _)
      | (with_reducible exact LeO.refl _)
      | (with_reducible exact LeO.none _)
      | (with_reducible refine LeO.ite ?_ ?_)
      | (with_reducible refine LeO.bind ?_ (fun _ => ?_))
      | exact ih0 _ _ _
      | exact ih1 _ _ _ _
      | exact LeO.none _
      | refine LeO.ite ?_ ?_
      | refine LeO.bind ?_ (fun _ => ?_)
theorem spec_Has.mono : ∀ a0 a1 k, LeO (spec_Has.f k a0 a1) (spec_Has.f (k + 1) a0 a1) := by
  intro a0 a1 k
  obtain ⟨ih0, ih1⟩ := spec_Has.mono_l k
  unfold spec_Has.f
  repeat' first
      | (with_reducible exact ih0 _ _ _)
      | (with_reducible exact ih1 _ _ _ _)
      | (with_reducible exact LeO.refl _)
      | (with_reducible exact LeO.none _)
      | (with_reducible refine LeO.ite ?_ ?_)
      | (with_reducible refine LeO.bind ?_ (fun _ => ?_))
      | exact ih0 _ _ _
      | exact ih1 _ _ _ _
      | exact LeO.none _
      | refine LeO.ite ?_ ?_
      | refine LeO.bind ?_ (fun _ => ?_)
set_option maxHeartbeats 8000000 in
set_option maxRecDepth 100000 in
theorem spec_Has.calls (k : Nat) (a0 : ByteArray) (a1 : ByteArray) (r : Bool) (w : World) (h : spec_Has.f k a0 a1 = some r) :
    Calls Tryz.prog 31 #[.string a0, .string a1] w fun e w' => e = .returned (.bool r) ∧ Drawn0 w w' := by
  have H : (spec_Has.l0 k a0 a1 0) = some r := h
  clear h
  have H' := Aside0.mk H
  clear H
  go_enter Tryz.func31, Tryz.ntmps31
  go_wp2
  repeat (go_quiet (fail); try go_wp2)
  go_loopg [5] k (fun kq v5 w' => ∃ (x5_1 : Int), v5 = .int .i64 x5_1 ∧ Aside0 (spec_Has.l0 kq a0 a1 x5_1 = some r) ∧ Aside0 (kq ≤ k) ∧ Drawn0 w w')
  case atStart => exact ⟨(0), (by first | rfl | (simp; done) | (simp [*]; done)), H', ⟨Nat.le_refl _⟩, by repeat (first | exact Drawn0.refl _ | apply Drawn0.step)⟩
  case round =>
    clear H'
    try clear p2
    obtain ⟨x5_1, rfl, HA, HK1, ⟨m1, rfl⟩⟩ := hrel
    cases gk with
    | zero => exact absurd HA.out (by simp [spec_Has.l0])
    | succ k1 =>
      have H := HA.out
      clear HA
      simp only [spec_Has.l0] at H
      by_cases c3 : x5_1 < (a0.size : Int)
      · rw [if_pos c3] at H
        have c3b0 : decide (x5_1 < (a0.size : Int)) = true := decide_eq_true c3
        clear c3
        have H' := Aside0.mk H
        clear H
        go_wp2
        repeat (go_quiet (fail); try go_wp2)
        go_loopg [6] k1 (fun kq v6 w' => ∃ (x6_2 : Int), v6 = .int .i64 x6_2 ∧ Aside0 (spec_Has.l1 kq a0 a1 x5_1 x6_2 = some r) ∧ Aside0 (kq ≤ k1) ∧ Drawn0 w w')
        case atStart => exact ⟨(0), (by first | rfl | (simp; done) | (simp [*]; done)), H', ⟨Nat.le_refl _⟩, by repeat (first | exact Drawn0.refl _ | apply Drawn0.step)⟩
        case round =>
          clear H'
          try clear p2
          try clear c3
          try clear c3b0
          try clear p2
          obtain ⟨x6_2, rfl, HA, HK2, ⟨m2, rfl⟩⟩ := hrel
          cases gk with
          | zero => exact absurd HA.out (by simp [spec_Has.l1])
          | succ k2 =>
            have H := HA.out
            clear HA
            simp only [spec_Has.l1] at H
            by_cases c4 : x6_2 < (a1.size : Int)
            · rw [if_pos c4] at H
              have c4b0 : decide (x6_2 < (a1.size : Int)) = true := decide_eq_true c4
              clear c4
              by_cases c5 : 0 ≤ x5_1
              · rw [if_pos c5] at H
                have c5b0 : decide (0 ≤ x5_1) = true := decide_eq_true c5
                clear c5
                by_cases c6 : x5_1 < (a0.size : Int)
                · rw [if_pos c6] at H
                  have c6b0 : decide (x5_1 < (a0.size : Int)) = true := decide_eq_true c6
                  clear c6
                  by_cases c8 : 0 ≤ x6_2
                  · rw [if_pos c8] at H
                    have c8b0 : decide (0 ≤ x6_2) = true := decide_eq_true c8
                    clear c8
                    by_cases c10 : (bt a0 x5_1) = (bt a1 x6_2)
                    · rw [if_pos c10] at H
                      have c10b0 : ((bt a0 x5_1) == (bt a1 x6_2)) = true := beq_iff_eq.mpr c10
                      have c10b1 : ((bt a0 x5_1) != (bt a1 x6_2)) = false := bne_eq_false_iff_eq.mpr c10
                      clear c10
                      obtain rfl := Option.some.inj H
                      have p7 : 0 ≤ (x5_1 : Int) := of_decide_eq_true (by first | (with_reducible assumption) | assumption)
                      have q7 : x5_1 < (a0.size : Int) := of_decide_eq_true (by first | (with_reducible assumption) | assumption)
                      have hx7 := bt_at a0 x5_1
                      replace p7 := eq_true p7
                      replace q7 := eq_true q7
                      have p9 : 0 ≤ (x6_2 : Int) := of_decide_eq_true (by first | (with_reducible assumption) | assumption)
                      have q9 : x6_2 < (a1.size : Int) := of_decide_eq_true (by first | (with_reducible assumption) | assumption)
                      have hx9 := bt_at a1 x6_2
                      replace p9 := eq_true p9
                      replace q9 := eq_true q9
                      go_wp2
                      repeat (go_quiet (fail); try go_wp2)
                      go_ret
                      exact ⟨by first | rfl | (simp; done) | (simp [*]; done), by repeat (first | exact Drawn0.refl _ | apply Drawn0.step)⟩
                    · rw [if_neg c10] at H
                      have c10b0 : ((bt a0 x5_1) == (bt a1 x6_2)) = false := beq_eq_false_iff_ne.mpr c10
                      have c10b1 : ((bt a0 x5_1) != (bt a1 x6_2)) = true := bne_iff_ne.mpr c10
                      have H' := Aside0.mk H
                      clear H
                      have p7 : 0 ≤ (x5_1 : Int) := of_decide_eq_true (by first | (with_reducible assumption) | assumption)
                      have q7 : x5_1 < (a0.size : Int) := of_decide_eq_true (by first | (with_reducible assumption) | assumption)
                      have hx7 := bt_at a0 x5_1
                      replace p7 := eq_true p7
                      replace q7 := eq_true q7
                      have p9 : 0 ≤ (x6_2 : Int) := of_decide_eq_true (by first | (with_reducible assumption) | assumption)
                      have q9 : x6_2 < (a1.size : Int) := of_decide_eq_true (by first | (with_reducible assumption) | assumption)
                      have hx9 := bt_at a1 x6_2
                      replace p9 := eq_true p9
                      replace q9 := eq_true q9
                      go_wp2
                      repeat (go_quiet (fail); try go_wp2)
                      go_roundg k2
                      case measure => have := HK1.out; have := HK2.out; omega
                      case rel => exact ⟨(wrap64 (x6_2 + 1)), (by first | rfl | (simp; done) | (simp [*]; done)), H', ⟨by have := HK1.out; have := HK2.out; omega⟩, by repeat (first | exact Drawn0.refl _ | apply Drawn0.step)⟩
                  · rw [if_neg c8] at H
                    exact absurd H (by simp)
                · rw [if_neg c6] at H
                  exact absurd H (by simp)
              · rw [if_neg c5] at H
                exact absurd H (by simp)
            · rw [if_neg c4] at H
              have c4b0 : decide (x6_2 < (a1.size : Int)) = false := decide_eq_false c4
              clear c4
              have H' := Aside0.mk H
              clear H
              go_wp2
              repeat (go_quiet (fail); try go_wp2)
              go_roundg k2
              case measure => have := HK1.out; have := HK2.out; omega
              case rel => exact ⟨(wrap64 (x5_1 + 1)), (by first | rfl | (simp; done) | (simp [*]; done)), H', ⟨by have := HK1.out; have := HK2.out; omega⟩, by repeat (first | exact Drawn0.refl _ | apply Drawn0.step)⟩
      · rw [if_neg c3] at H
        have c3b0 : decide (x5_1 < (a0.size : Int)) = false := decide_eq_false c3
        clear c3
        obtain rfl := Option.some.inj H
        go_wp2
        repeat (go_quiet (fail); try go_wp2)
        go_ret
        exact ⟨by first | rfl | (simp; done) | (simp [*]; done), by repeat (first | exact Drawn0.refl _ | apply Drawn0.step)⟩

/-! ### spec_Begins: function 32 -/
def spec_Begins.f (a0 : ByteArray) (a1 : ByteArray) : Option (Bool) := if (a0.size : Int) ≥ (a1.size : Int) then (if 0 ≤ (a1.size : Int) then (if (a1.size : Int) ≤ (a0.size : Int) then (some ((a0.extract 0 ((a1.size : Int) : Int).toNat).toList == a1.toList)) else (none)) else (none)) else (some false)
set_option maxHeartbeats 8000000 in
set_option maxRecDepth 100000 in
theorem spec_Begins.calls (a0 : ByteArray) (a1 : ByteArray) (r : Bool) (w : World) (h : spec_Begins.f a0 a1 = some r) :
    Calls Tryz.prog 32 #[.string a0, .string a1] w fun e w' => e = .returned (.bool r) ∧ Drawn0 w w' := by
  have H : (if (a0.size : Int) ≥ (a1.size : Int) then (if 0 ≤ (a1.size : Int) then (if (a1.size : Int) ≤ (a0.size : Int) then (some ((a0.extract 0 ((a1.size : Int) : Int).toNat).toList == a1.toList)) else (none)) else (none)) else (some false)) = some r := h
  clear h
  by_cases c3 : (a0.size : Int) ≥ (a1.size : Int)
  · rw [if_pos c3] at H
    have c3b0 : decide ((a1.size : Int) ≤ (a0.size : Int)) = true := decide_eq_true c3
    have c3b1 : decide (a1.size ≤ a0.size) = true := decide_eq_true (Int.ofNat_le.mp c3)
    clear c3
    by_cases c4 : 0 ≤ (a1.size : Int)
    · rw [if_pos c4] at H
      have c4b0 := eq_true c4
      have c4b1 : decide (0 ≤ (a1.size : Int)) = true := decide_eq_true c4
      clear c4
      by_cases c5 : (a1.size : Int) ≤ (a0.size : Int)
      · rw [if_pos c5] at H
        have c5b0 := eq_true c5
        have c5b1 : decide ((a1.size : Int) ≤ (a0.size : Int)) = true := decide_eq_true c5
        clear c5
        obtain rfl := Option.some.inj H
        go_enter Tryz.func32, Tryz.ntmps32
        go_wp2
        go_ret
        exact ⟨by first | rfl | (simp; done) | (simp [*]; done), by repeat (first | exact Drawn0.refl _ | apply Drawn0.step)⟩
      · rw [if_neg c5] at H
        exact absurd H (by simp)
    · rw [if_neg c4] at H
      exact absurd H (by simp)
  · rw [if_neg c3] at H
    have c3b0 : decide ((a1.size : Int) ≤ (a0.size : Int)) = false := decide_eq_false c3
    have c3b1 : decide (a1.size ≤ a0.size) = false := decide_eq_false (fun h => c3 (Int.ofNat_le.mpr h))
    clear c3
    obtain rfl := Option.some.inj H
    go_enter Tryz.func32, Tryz.ntmps32
    go_wp2
    go_ret
    exact ⟨by first | rfl | (simp; done) | (simp [*]; done), by repeat (first | exact Drawn0.refl _ | apply Drawn0.step)⟩

-- NOT PRINTED: function 16 (laws_nbBare)

end Go.Proofs.YtlkbhmmelejmjaaGreatDoor.QKnown

/- The reference's own look at a text: scRunes, scAll, Row and Rows, at every text. The tables of package unicode/utf8 hold what they were laid with. -/
namespace Go.Proofs.YtlkbhmmelejmjaaGreatDoor.Runes
open Go.RowKit Go.Proofs.YtlkbhmmelejmjaaGreatDoor.QKnown Go.Proofs.YtlkbhmmelejmjaaGreatDoorW.PrintWords Go.Proofs.YtlkbhmmelejmjaaGreatDoor.Utf
set_option linter.unusedVariables false
set_option linter.unusedSimpArgs false

/-- The two tables. -/
def Tabs (w : World) : Prop := Lib.Utf8Tabs 0 1 w

theorem tabs_below {w w1 : World} (h : Tabs w) (hb : Below w.heap.size w w1) : Tabs w1 := Go.Proofs.Utf8Tabs_below h hb

theorem runes_size (s : ByteArray) : (Conv.runesFrom s s.size 0 #[]).size = (runes s s.size 0).length := by
  rw [runesFrom_eq]; simp

/-- A row of runes of the call's own: what is read of it. -/
def Reads (w : World) (g : Nat) (rs : List Int) : Prop := ∀ j, j < rs.length → w.cell? ⟨g, j, none⟩ = some (.int .i32 (rs.getD j 0))

theorem addr_add (g j : Nat) : Addr.add ⟨g, 0, none⟩ j = ⟨g, j, none⟩ := by
  cases j <;> simp [Addr.add]

theorem Reads.kd {w : World} {g : Nat} {rs : List Int} (h : Reads w g rs) (hl : rs.length ≤ 9223372036854775807) : Kd.C (Kd.int .i32) w (some ⟨g, 0, none⟩) rs.length rs :=
  Kd.C_of_reads (d := (0 : Int)) ⟨rfl, hl, fun _ => ⟨⟨g, 0, none⟩, rfl, fun j hj => by
    rw [addr_add]; exact h j hj⟩⟩

theorem Reads.below {w w1 : World} {g : Nat} {rs : List Int} (h : Reads w g rs) (hb : Below w.heap.size w w1) : Reads w1 g rs := fun j hj => pw_cell_below hb (h j hj)

theorem reads_new (s : ByteArray) (w : World) (rs : List Int) (hr : runes s s.size 0 = rs) (C : Array Value) (t : TypeId) :
    Reads (w.alloc (.cells (Conv.runesFrom s s.size 0 #[] ++ C) t)).drew w.heap.size rs := by
  subst hr
  intro j hj
  have h : (w.alloc (.cells (Conv.runesFrom s s.size 0 #[] ++ C) t)).cell? ⟨w.heap.size, j, none⟩ = (Conv.runesFrom s s.size 0 #[] ++ C)[j]? := World.cell?_alloc_mark w _ t _ j
  show (w.alloc _).cell? _ = _
  rw [h, runesFrom_eq, Array.getElem?_append_left (by simpa using hj)]
  simp [hj]

set_option maxHeartbeats 1000000 in
set_option maxRecDepth 100000 in
theorem scRunes_ok (s : ByteArray) (rs : List Int) (w : World) (hT : Tabs w) (hs : s.size ≤ 65536) (hsc : ∀ r ∈ rs, Scalar r) (he : B s = enc rs) :
    Calls Tryz.prog 33 #[.string s] w fun e w' => ∃ g cap : Nat, e = .returned (.tuple #[.slice (some ⟨g, 0, none⟩) rs.length cap, .bool true]) ∧ Reads w' g rs ∧ rs.length ≤ cap ∧ g < w'.heap.size ∧ w.heap.size ≤ g ∧ Below w.heap.size w w' := by
  have hv : Lib.validD s.data.toList = true := by rw [show s.data.toList = enc rs from he]; exact valid_of_enc rs hsc
  have CV := Aside0.mk (Tryz.utf8_ValidString s w (by omega) hT)
  rw [hv] at CV
  have hru := runes_of s rs hsc he
  have hl : rs.length ≤ 65536 := by have := runes_length s s.size 0; rw [hru] at this; omega
  have hrc := fun wx => run_runes_of_string (P := Tryz.prog) wx 9 68 21 s Tryz.underlying9 Tryz.underlying68 Tryz.underlying21 (by rw [runes_size, hru]; omega)
  rw [runes_size, hru] at hrc
  have HRC := Aside0.mk hrc
  have HRU := Aside0.mk hru
  clear hrc hru hv hsc he
  go_enter Tryz.func33, Tryz.ntmps33
  go_wp2_with fail
  refine CV.out.mono ?_
  rintro e w1 ⟨rfl, b1⟩
  have B1 := Aside0.mk b1
  clear b1
  have hrc := HRC.out w1
  go_wp2_with fail
  clear hrc
  go_ret2
  refine ⟨_, _, rfl, reads_new s w1 rs HRU.out _ _, grownCap_ge _ _ _ _, ?_, B1.out.size, ?_⟩
  · show _ < (w1.alloc _).heap.size
    simp
  · exact (B1.out.alloc B1.out.size _).drew

set_option maxHeartbeats 1000000 in
set_option maxRecDepth 100000 in
theorem scRunes_long (s : ByteArray) (w : World) (hs : 65536 < s.size) (hs2 : s.size ≤ 140737488351232) :
    Calls Tryz.prog 33 #[.string s] w fun e w' => e = .returned (.tuple #[.slice none 0 0, .bool false]) ∧ Below w.heap.size w w' := by
  go_enter Tryz.func33, Tryz.ntmps33
  go_wp2_with fail
  go_ret2
  exact ⟨rfl, Below.refl _ _⟩

set_option maxHeartbeats 1000000 in
set_option maxRecDepth 100000 in
theorem scRunes_bad (s : ByteArray) (w : World) (hT : Tabs w) (hs : s.size ≤ 65536) (hv : Lib.validD (B s) = false) :
    Calls Tryz.prog 33 #[.string s] w fun e w' => e = .returned (.tuple #[.slice none 0 0, .bool false]) ∧ Below w.heap.size w w' := by
  have CV := Aside0.mk (Tryz.utf8_ValidString s w (by omega) hT)
  rw [show Lib.validD s.data.toList = false from hv] at CV
  clear hv
  go_enter Tryz.func33, Tryz.ntmps33
  go_wp2_with fail
  refine CV.out.mono ?_
  rintro e w1 ⟨rfl, b1⟩
  have B1 := Aside0.mk b1
  clear b1
  go_wp2_with fail
  go_ret2
  exact ⟨rfl, B1.out⟩

/-! ### which characters may stand -/
def content (c : Int) : Bool :=
  if c = 9 ∨ (32 ≤ c ∧ c ≤ 126) ∨ (160 ≤ c ∧ c ≤ 55295) then decide (c ≠ 8232 ∧ c ≠ 8233)
  else if 57344 ≤ c ∧ c ≤ 65533 then decide (c ≠ 65279) else decide (65536 ≤ c ∧ c ≤ 1114111)

theorem content_f (k : Nat) (hk : 0 < k) (c : Int) : spec_scContent.f k c = some (content c) := by
  obtain ⟨k, rfl⟩ : ∃ m, k = m + 1 := ⟨k - 1, by omega⟩
  unfold spec_scContent.f content
  simp only [spec_scContent.j0]
  repeat' split
  all_goals (simp only [beq_iff_eq, decide_eq_true_eq, Bool.false_eq_true, not_false_eq_true, reduceCtorEq, not_true_eq_false] at *)
  all_goals first
    | (exfalso; omega)
    | (congr 1; rw [Bool.eq_iff_iff]; simp only [decide_eq_true_eq, bne_iff_ne, Bool.false_eq_true, ne_eq, false_iff, iff_false] <;> omega)

def all (feeds : Bool) (l : List Int) : Bool := l.all fun c => content c || (feeds && c == 10)

theorem all_cons (f : Bool) (c : Int) (t : List Int) : all f (c :: t) = ((content c || (f && c == 10)) && all f t) := rfl

theorem rd_nat (l : List Int) (i : Nat) : rd l (i : Int) = l.getD i 0 := by simp [rd]

theorem all_l0 (l : List Int) (feeds : Bool) (hl : l.length ≤ 9223372036854775806) (d : Nat) : ∀ (k i : Nat), i ≤ l.length → l.length - i = d → d + 1 < k →
    spec_scAll.l0 k feeds l (l.length : Int) (i : Int) = some (all feeds (l.drop i)) := by
  induction d with
  | zero =>
    intro k i h1 h2 h3
    obtain ⟨k, rfl⟩ : ∃ m, k = m + 1 := ⟨k - 1, by omega⟩
    simp only [spec_scAll.l0]
    rw [if_neg (by omega), List.drop_eq_nil_of_le (by omega)]
    rfl
  | succ d ih =>
    intro k i h1 h2 h3
    obtain ⟨k, rfl⟩ : ∃ m, k = m + 1 := ⟨k - 1, by omega⟩
    have hi : i < l.length := by omega
    have e : l.drop i = l.getD i 0 :: l.drop (i + 1) := by rw [List.drop_eq_getElem_cons hi]; simp [List.getD, hi]
    have r := ih k (i + 1) (by omega) (by omega) (by omega)
    simp only [spec_scAll.l0]
    rw [if_pos (by omega), if_pos (by omega), if_pos (by omega), content_f k (by omega), rd_nat, show wrap64 ((i : Int) + 1) = ((i + 1 : Nat) : Int) by unfold wrap64; omega, r, e, all_cons]
    simp only [Option.bind_some]
    generalize l.getD i 0 = c
    cases hc : content c with
    | true => rw [if_pos rfl]; simp
    | false =>
      rw [if_neg (by simp)]
      cases feeds with
      | false => rw [if_neg (by simp)]; simp
      | true =>
        rw [if_pos rfl]
        by_cases h10 : c = 10
        · rw [if_pos h10]; simp [h10]
        · rw [if_neg h10]; simp [h10]

theorem all_f (l : List Int) (feeds : Bool) (hl : l.length ≤ 9223372036854775806) : spec_scAll.f (l.length + 2) l feeds = some (all feeds l) :=
  all_l0 l feeds hl l.length (l.length + 2) 0 (by omega) (by omega) (by omega)

/-- May a text stand on a line, or in lines? -/
def mayStand (feeds : Bool) (s : ByteArray) : Prop := s.size ≤ 65536 ∧ ∃ rs : List Int, (∀ r ∈ rs, Scalar r) ∧ B s = enc rs ∧ all feeds rs = true

theorem stands_not (feeds : Bool) (s : ByteArray) (h : ¬ mayStand feeds s) : 65536 < s.size ∨ (s.size ≤ 65536 ∧ Lib.validD (B s) = false) ∨
    (s.size ≤ 65536 ∧ ∃ rs : List Int, (∀ r ∈ rs, Scalar r) ∧ B s = enc rs ∧ all feeds rs = false) := by
  by_cases h1 : 65536 < s.size
  · exact .inl h1
  · refine .inr ?_
    cases hv : Lib.validD (B s) with
    | false => exact .inl ⟨by omega, rfl⟩
    | true =>
      obtain ⟨rs, h2, h3⟩ := valid_enc (B s) hv
      refine .inr ⟨by omega, rs, h2, h3, ?_⟩
      cases ha : all feeds rs with
      | false => rfl
      | true => exact absurd ⟨by omega, rs, h2, h3, ha⟩ h

set_option maxHeartbeats 1000000 in
set_option maxRecDepth 100000 in
theorem row_yes (s : ByteArray) (w : World) (hT : Tabs w) (h : mayStand false s) :
    Calls Tryz.prog 30 #[.string s] w fun e w' => e = .returned (.bool true) ∧ Below w.heap.size w w' := by
  obtain ⟨hs, rs, h1, h2, h3⟩ := h
  have C := Aside0.mk (scRunes_ok s rs w hT hs h1 h2)
  have hl := (enc_length rs).1
  rw [← h2, B_length] at hl
  have HA := Aside0.mk (all_f rs false (by omega))
  rw [h3] at HA
  clear h1 h2 h3 hT
  go_enter Tryz.func30, Tryz.ntmps30
  go_wp2_with fail
  refine C.out.mono ?_
  rintro e w1 ⟨g, cap, rfl, hr, hc, _, _, b1⟩
  have B1 := Aside0.mk b1
  have HR := Aside0.mk hr
  clear b1 hr
  go_wp2_with fail
  refine (spec_scAll.calls _ _ cap rs false true _ (HR.out.kd (by omega)) hc HA.out).mono ?_
  rintro e w2 ⟨rfl, b2⟩
  have B2 := Aside0.mk (B1.out.trans (b2.below.mono B1.out.size))
  clear b2
  go_wp2_with fail
  go_ret
  exact ⟨rfl, B2.out⟩

set_option maxHeartbeats 1000000 in
set_option maxRecDepth 100000 in
theorem row_no (s : ByteArray) (w : World) (hT : Tabs w) (hs2 : s.size ≤ 140737488351232) (h : ¬ mayStand false s) :
    Calls Tryz.prog 30 #[.string s] w fun e w' => e = .returned (.bool false) ∧ Below w.heap.size w w' := by
  rcases stands_not false s h with h | ⟨h1, h2⟩ | ⟨hs, rs, h1, h2, h3⟩
  · have C := Aside0.mk (scRunes_long s w h hs2)
    clear h
    go_enter Tryz.func30, Tryz.ntmps30
    go_wp2_with fail
    refine C.out.mono ?_
    rintro e w1 ⟨rfl, b1⟩
    have B1 := Aside0.mk b1
    clear b1
    go_wp2_with fail
    go_ret
    exact ⟨rfl, B1.out⟩
  · have C := Aside0.mk (scRunes_bad s w hT h1 h2)
    clear h1 h2 hT
    go_enter Tryz.func30, Tryz.ntmps30
    go_wp2_with fail
    refine C.out.mono ?_
    rintro e w1 ⟨rfl, b1⟩
    have B1 := Aside0.mk b1
    clear b1
    go_wp2_with fail
    go_ret
    exact ⟨rfl, B1.out⟩
  · have C := Aside0.mk (scRunes_ok s rs w hT hs h1 h2)
    have hl := (enc_length rs).1
    rw [← h2, B_length] at hl
    have HA := Aside0.mk (all_f rs false (by omega))
    rw [h3] at HA
    clear h1 h2 h3 hT h
    go_enter Tryz.func30, Tryz.ntmps30
    go_wp2_with fail
    refine C.out.mono ?_
    rintro e w1 ⟨g, cap, rfl, hr, hc, _, _, b1⟩
    have B1 := Aside0.mk b1
    have HR := Aside0.mk hr
    clear b1 hr
    go_wp2_with fail
    refine (spec_scAll.calls _ _ cap rs false false _ (HR.out.kd (by omega)) hc HA.out).mono ?_
    rintro e w2 ⟨rfl, b2⟩
    have B2 := Aside0.mk (B1.out.trans (b2.below.mono B1.out.size))
    clear b2
    go_wp2_with fail
    go_ret
    exact ⟨rfl, B2.out⟩
end Go.Proofs.YtlkbhmmelejmjaaGreatDoor.Runes

/- IsNeedQuoted at a line. -/
namespace Go.Proofs.YtlkbhmmelejmjaaGreatDoor.QNeed
open Go.RowKit Go.Proofs.YtlkbhmmelejmjaaGreatDoorW.PrintWords Go.Proofs.YtlkbhmmelejmjaaGreatDoor.Utf Go.Proofs.YtlkbhmmelejmjaaGreatDoor.QEnc Go.Proofs.YtlkbhmmelejmjaaGreatDoor.Runes Go.Proofs.YtlkbhmmelejmjaaGreatDoor.NumErr Go.Proofs.YtlkbhmmelejmjaaGreatDoor.NumAny Go.Proofs.YtlkbhmmelejmjaaGreatDoor.NumAll Go.Proofs.YtlkbhmmelejmjaaGreatDoor.NumIs Go.Proofs.YtlkbhmmelejmjaaGreatDoor.FltAtof
set_option linter.unusedVariables false
set_option linter.unusedSimpArgs false
attribute [local go_sem ↓] Go.wp_at_zero Go.wp_at_succ

def words10 : List (List UInt8) := [[110, 117, 108, 108], [78, 117, 108, 108], [78, 85, 76, 76], [126], [116, 114, 117, 101], [84, 114, 117, 101], [84, 82, 85, 69], [102, 97, 108, 115, 101], [70, 97, 108, 115, 101], [70, 65, 76, 83, 69]]
def EncP (s : ByteArray) (w : World) (e : Ending) (w' : World) : Prop := w = w' ∧ ∃ b, e = .returned (.bool b) ∧ (s.toList ∈ words10 → b = true)
set_option maxHeartbeats 4000000 in
set_option maxRecDepth 100000 in
theorem enc_any (s : ByteArray) (w : World) : Calls Tryz.prog 82 #[.string s] w (EncP s w) := by
  by_cases hw : s.toList ∈ words10
  · have yes : ∀ e w', (w = w' ∧ e = .returned (.bool true)) → EncP s w e w' := fun e w' h => ⟨h.1, true, h.2, fun _ => rfl⟩
    refine Calls.mono ?_ yes
    clear yes
    simp only [words10, List.mem_cons, List.not_mem_nil, or_false] at hw
    rcases hw with hw | hw | hw | hw | hw | hw | hw | hw | hw | hw
    all_goals
      go_enter Tryz.func82, Tryz.ntmps82
      go_wp2
      go_ret
      exact ⟨rfl, rfl⟩
  · have yes : ∀ e w', (w = w' ∧ ∃ b, e = .returned (.bool b)) → EncP s w e w' := fun e w' ⟨h1, b, h2⟩ => ⟨h1, b, h2, fun h => absurd h hw⟩
    refine Calls.mono ?_ yes
    clear yes hw
    go_enter Tryz.func82, Tryz.ntmps82
    go_wp2
    all_goals
      go_ret
      exact ⟨rfl, _, rfl⟩
def firsts : List Nat := [42, 38, 91, 123, 125, 93, 44, 33, 124, 62, 37, 39, 34, 64, 32, 96]
/-- What a string that needs no quotes is: its first and last sign, and those within. -/
def Fact (rs : List Int) : Prop := rs ≠ [45] ∧ (∀ c ∈ firsts, rs.getD 0 0 ≠ (c : Int)) ∧ rs.getD (rs.length - 1) 0 ≠ 58 ∧ rs.getD (rs.length - 1) 0 ≠ 32 ∧ ∀ k, k < rs.length → rs.getD k 0 ≠ 35 ∧ rs.getD k 0 ≠ 92 ∧ (rs.getD k 0 = 58 ∨ rs.getD k 0 = 45 → k + 1 < rs.length → rs.getD (k + 1) 0 ≠ 32)
def NeP (s : ByteArray) (rs : List Int) (r : Nr) (w : World) (e : Ending) (w' : World) : Prop := Below w.heap.size w w' ∧ ∃ b, e = .returned (.bool b) ∧ (s.toList ∈ words10 ∨ Isnum r ∨ ¬ Fact rs → b = true)
theorem byte_at {s : ByteArray} {i : Nat} {b : UInt8} (h : (B s)[i]? = some b) (hi : i < s.size) : s[i] = b := by
  have hl : i < (B s).length := by rw [B_length]; exact hi
  rw [List.getElem?_eq_getElem hl] at h
  exact Option.some.inj h

set_option maxHeartbeats 8000000 in
set_option maxRecDepth 100000 in
theorem need_walk (s : ByteArray) (rs : List Int) (r : Nr) (w : World) (hs : s.size ≤ 65536) (hsc : ∀ x ∈ rs, Scalar x) (he : B s = enc rs) (hne : rs ≠ []) (C : Calls Tryz.prog 83 #[.string s] w (IsP r w)) : Calls Tryz.prog 43 #[.string s] w (NeP s rs r w) := by
  have hlen := (enc_length rs).1
  rw [← he, B_length] at hlen
  have hn0 : 0 < rs.length := List.length_pos_iff.2 hne
  have hsz : 0 < s.size := by omega
  have hemp : s.toList.isEmpty = false := by
    rw [Lib.toList_data]
    cases hB : s.data.toList with
    | nil =>
      have := B_length s
      rw [show B s = s.data.toList from rfl, hB] at this
      simp at this
      omega
    | cons a t => rfl
  -- the first byte
  obtain ⟨x0, rt, hrs⟩ : ∃ x0 rt, rs = x0 :: rt := by
    cases rs with
    | nil => exact absurd rfl hne
    | cons a t => exact ⟨a, t, rfl⟩
  obtain ⟨b0, t0, hb0, hf0⟩ := first_is (rs := rt) (hsc x0 (by rw [hrs]; exact List.mem_cons_self))
  have hB0 : s[0] = b0 := byte_at (by rw [he, hrs, hb0]; rfl) hsz
  obtain ⟨bl, hbl, hfl⟩ := last_is hne hsc
  have hBl : s[s.size - 1]'(by omega) = bl := byte_at (by rw [he, ← hbl, List.getLast?_eq_getElem?, ← he, B_length]) (by omega)
  have F0 : ∀ c : Nat, c < 128 → (b0.toNat = c ↔ rs.getD 0 0 = (c : Int)) := fun c hc => by rw [hrs]; exact hf0 c hc
  obtain ⟨v0, hv0⟩ : ∃ v : Int, v = (b0.toNat : Int) := ⟨_, rfl⟩
  obtain ⟨vl, hvl⟩ : ∃ v : Int, v = (bl.toNat : Int) := ⟨_, rfl⟩
  have y0 : ∀ h, ((s[0]'h).toNat : Int) = v0 := fun h => by rw [hv0, ← hB0]
  have yl : ∀ h, ((s[s.size - 1]'h).toNat : Int) = vl := fun h => by rw [hvl, ← hBl]
  have F0' := Aside0.mk F0
  have FL' := Aside0.mk hfl
  have HV0 := Aside0.mk hv0
  have HVL := Aside0.mk hvl
  have HE := Aside0.mk he
  have HS := Aside0.mk hsc
  have HC := Aside0.mk C
  clear hf0 hb0 hB0 hbl hfl hBl F0 hv0 hvl hrs C he hsc
  go_enter Tryz.func43, Tryz.ntmps43
  go_wp2_with fail
  refine (enc_any s _).mono ?_
  rintro e w0 ⟨rfl, b, rfl, hb⟩
  cases b
  case true =>
    clear hb
    go_wp2_with fail
    go_ret
    exact ⟨Below.refl _ _, true, rfl, fun _ => rfl⟩
  have HW := Aside0.mk (show ¬ s.toList ∈ words10 from fun h => absurd (hb h) (by decide))
  clear hb
  go_wp2_with fail
  refine HC.out.mono ?_
  rintro e w1 ⟨b1, b, rfl, hb⟩
  have B1 := Aside0.mk b1
  cases b
  case true =>
    clear hb b1
    go_wp2_with fail
    go_ret
    exact ⟨B1.out, true, rfl, fun _ => rfl⟩
  have HN := Aside0.mk (show ¬ Isnum r from fun h => absurd (hb h) (by decide))
  clear hb b1
  by_cases hd : (s.toList == [45]) = true
  · go_wp2_with fail
    go_ret
    exact ⟨B1.out, true, rfl, fun _ => rfl⟩
  replace hd : (s.toList == [45]) = false := by simpa using hd
  by_cases hfst : v0 ∈ firsts.map (fun c : Nat => (c : Int))
  · simp only [firsts, List.map_cons, List.map_nil, List.mem_cons, List.not_mem_nil, or_false] at hfst
    rcases hfst with rfl | rfl | rfl | rfl | rfl | rfl | rfl | rfl | rfl | rfl | rfl | rfl | rfl | rfl | rfl | rfl
    all_goals
      go_wp2_with fail
      go_ret
      exact ⟨B1.out, true, rfl, fun _ => rfl⟩
  have HF := Aside0.mk hfst
  simp only [firsts, List.map_cons, List.map_nil, List.mem_cons, List.not_mem_nil, or_false, not_or] at hfst
  obtain ⟨f42, f38, f91, f123, f125, f93, f44, f33, f124, f62, f37, f39, f34, f64, f32, f96⟩ := hfst
  replace f42 : (v0 == 42) = false := beq_eq_false_iff_ne.mpr f42
  replace f38 : (v0 == 38) = false := beq_eq_false_iff_ne.mpr f38
  replace f91 : (v0 == 91) = false := beq_eq_false_iff_ne.mpr f91
  replace f123 : (v0 == 123) = false := beq_eq_false_iff_ne.mpr f123
  replace f125 : (v0 == 125) = false := beq_eq_false_iff_ne.mpr f125
  replace f93 : (v0 == 93) = false := beq_eq_false_iff_ne.mpr f93
  replace f44 : (v0 == 44) = false := beq_eq_false_iff_ne.mpr f44
  replace f33 : (v0 == 33) = false := beq_eq_false_iff_ne.mpr f33
  replace f124 : (v0 == 124) = false := beq_eq_false_iff_ne.mpr f124
  replace f62 : (v0 == 62) = false := beq_eq_false_iff_ne.mpr f62
  replace f37 : (v0 == 37) = false := beq_eq_false_iff_ne.mpr f37
  replace f39 : (v0 == 39) = false := beq_eq_false_iff_ne.mpr f39
  replace f34 : (v0 == 34) = false := beq_eq_false_iff_ne.mpr f34
  replace f64 : (v0 == 64) = false := beq_eq_false_iff_ne.mpr f64
  replace f32 : (v0 == 32) = false := beq_eq_false_iff_ne.mpr f32
  replace f96 : (v0 == 96) = false := beq_eq_false_iff_ne.mpr f96
  by_cases hl58 : vl = 58
  · subst hl58
    go_wp2_with fail
    go_ret
    exact ⟨B1.out, true, rfl, fun _ => rfl⟩
  by_cases hl32 : vl = 32
  · subst hl32
    go_wp2_with fail
    go_ret
    exact ⟨B1.out, true, rfl, fun _ => rfl⟩
  have ql58 : (vl == 58) = false := beq_eq_false_iff_ne.mpr hl58
  have ql32 : (vl == 32) = false := beq_eq_false_iff_ne.mpr hl32
  have HL58 := Aside0.mk hl58
  have HL32 := Aside0.mk hl32
  clear hl58 hl32
  go_wp2_with fail
  go_loopg [46] rs.length (fun kq v46 w' => ∃ k : Nat, k ≤ rs.length ∧ w' = w1.iter s (enc (rs.take k)).length ∧ Aside0 (kq + k = rs.length ∧ ∀ j, j < k → rs.getD j 0 ≠ 35 ∧ rs.getD j 0 ≠ 92 ∧ (rs.getD j 0 = 58 ∨ rs.getD j 0 = 45 → j + 1 < rs.length → rs.getD (j + 1) 0 ≠ 32)))
  case atStart => exact ⟨0, by omega, rfl, ⟨by omega, fun j hj => absurd hj (Nat.not_lt_zero j)⟩⟩
  case round =>
    obtain ⟨k, hk, rfl, HK⟩ := hrel
    by_cases hkn : k < rs.length
    · obtain ⟨pre, hpre⟩ : ∃ p, p = rs.take k := ⟨_, rfl⟩
      obtain ⟨post, hpost⟩ : ∃ p, p = rs.drop (k + 1) := ⟨_, rfl⟩
      obtain ⟨c, hc⟩ : ∃ c, c = rs.getD k 0 := ⟨_, rfl⟩
      have hck : rs[k]'hkn = c := by rw [hc, List.getD_eq_getElem?_getD, List.getElem?_eq_getElem hkn]; rfl
      have hsp : rs = pre ++ c :: post := by
        rw [hpre, hpost, ← hck, List.getElem_cons_drop, List.take_append_drop]
      have hpl : pre.length = k := by rw [hpre, List.length_take]; omega
      have hcs : Scalar c := HS.out c (by rw [hsp]; simp)
      have hBp : (B s).drop (enc pre).length = Lib.encodeRune c ++ enc post := by
        rw [HE.out, hsp, enc_append, enc_cons, List.drop_left]
      have hel := encodeRune_length c
      have hpos : (enc pre).length < s.size := by
        have := congrArg List.length hBp
        rw [List.length_drop, B_length, List.length_append] at this
        omega
      have hdec : Utf8.decode s (enc pre).length = (c.toNat, (Lib.encodeRune c).length) := by
        rw [decode_drop, hBp]; exact decode_encode c hcs _
      have hnext : (enc pre).length + (Lib.encodeRune c).length = (enc (rs.take (k + 1))).length := by
        have : rs.take (k + 1) = pre ++ [c] := by
          rw [hpre, ← hck, List.take_append_getElem]
        rw [this, enc_append, enc_cons, enc_nil, List.append_nil, List.length_append]
      have hci : ((c.toNat : Nat) : Int) = c := Int.toNat_of_nonneg hcs.1
      have hnx : ∀ ty, (Instr.next (.pointer (some ⟨w1.heap.size, 0, none⟩)) true ty).run Tryz.prog (w1.iter s (enc pre).length) = .ok (.tuple #[.bool true, .int .i64 (enc pre).length, .int .i32 c]) (w1.iter s (enc (rs.take (k + 1))).length) := fun ty => by
        rw [run_next_any w1 s _ ty hpos, hdec, hci, hnext]
      rw [← hpre]
      have hpo : post.getD 0 0 = rs.getD (k + 1) 0 := by rw [hpost]; simp [List.getD]
      have hpn : post = [] ↔ ¬ k + 1 < rs.length := by rw [hpost, List.drop_eq_nil_iff]; omega
      have NX : Aside0 (0 ≤ c → c ≤ 127 → (post = [] ∧ s.size = (enc pre).length + 1) ∨ ∃ b, (B s)[(enc pre).length + 1]? = some b ∧ post ≠ [] ∧ ∀ x : Nat, x < 128 → (b.toNat = x ↔ post.getD 0 0 = (x : Int))) := ⟨fun h0 h1 => by
        have := next_is (pre := pre) (post := post) (r := c) (by rw [← hsp]; exact HS.out) h0 h1
        rw [← hsp, ← HE.out, B_length] at this
        exact this⟩
      have HC0 := Aside0.mk hc
      have HPO := Aside0.mk hpo
      have HPN := Aside0.mk hpn
      obtain ⟨pos, hpo2⟩ : ∃ q, q = (enc pre).length := ⟨_, rfl⟩
      simp only [← hpo2] at hnx NX hpos ⊢
      clear hpre hpost hck hsp hpl hBp hel hdec hnext hci hpo hpn hcs hc hpo2
      have yes : Below w.heap.size w (w1.iter s (enc (rs.take (k + 1))).length) := B1.out.alloc B1.out.size _
      have YES := Aside0.mk yes
      clear yes
      by_cases h35 : c = 35
      · subst h35
        go_wp2_with fail
        go_ret
        exact ⟨YES.out, true, rfl, fun _ => rfl⟩
      by_cases h92 : c = 92
      · subst h92
        go_wp2_with fail
        go_ret
        exact ⟨YES.out, true, rfl, fun _ => rfl⟩
      have q35 : (c == 35) = false := beq_eq_false_iff_ne.mpr h35
      have q92 : (c == 92) = false := beq_eq_false_iff_ne.mpr h92
      have H35 := Aside0.mk h35
      have H92 := Aside0.mk h92
      clear h35 h92
      by_cases hsg : c = 58 ∨ c = 45
      · have hq : (c == 58) = true ∨ ((c == 58) = false ∧ (c == 45) = true) := by
          rcases hsg with h | h
          · exact .inl (by rw [h]; rfl)
          · exact .inr ⟨by rw [h]; rfl, by rw [h]; rfl⟩
        have nx := NX.out (by omega) (by omega)
        clear hsg
        rcases nx with ⟨hp, hsz1⟩ | ⟨b, hb, hp, hbx⟩
        · have HOK : Aside0 (rs.getD k 0 ≠ 35 ∧ rs.getD k 0 ≠ 92 ∧ (rs.getD k 0 = 58 ∨ rs.getD k 0 = 45 → k + 1 < rs.length → rs.getD (k + 1) 0 ≠ 32)) := ⟨by rw [← HC0.out]; exact H35.out, by rw [← HC0.out]; exact H92.out, fun _ h => absurd h (HPN.out.1 hp)⟩
          have d1 : decide (((pos + 1 : Nat) : Int) < (s.size : Int)) = false := decide_eq_false (by omega)
          have d2 : decide ((pos : Int) + 1 < (s.size : Int)) = false := decide_eq_false (by omega)
          clear hp
          rcases hq with q | ⟨q, q'⟩
          all_goals
            go_wp2_with fail
            go_roundg (gk - 1)
            case measure => have := HK.out.1; omega
            case rel => exact ⟨k + 1, by omega, rfl, ⟨by have := HK.out.1; omega, fun j hj => (Nat.lt_succ_iff_lt_or_eq.1 hj).elim (HK.out.2 j) (fun e => by rw [e]; exact HOK.out)⟩⟩
        · have hp1 : pos + 1 < s.size := by
            have := (List.getElem?_eq_some_iff.1 hb).1
            rw [B_length] at this
            exact this
          have hby := byte_at hb hp1
          have hk1 : k + 1 < rs.length := Nat.lt_of_not_le fun h => hp (HPN.out.2 (by omega))
          have d1 : decide (((pos + 1 : Nat) : Int) < (s.size : Int)) = true := decide_eq_true (by omega)
          have d2 : decide ((pos : Int) + 1 < (s.size : Int)) = true := decide_eq_true (by omega)
          obtain ⟨vb, hvb⟩ : ∃ v : Int, v = (b.toNat : Int) := ⟨_, rfl⟩
          have yb : ∀ h, ((s[pos + 1]'h).toNat : Int) = vb := fun h => by rw [hvb, ← hby]
          have hb32 := hbx 32 (by omega)
          rw [HPO.out] at hb32
          have HV : Aside0 (vb = 32 ↔ rs.getD (k + 1) 0 = 32) := ⟨by rw [hvb]; constructor; exact fun h => hb32.1 (by omega); exact fun h => by have := hb32.2 h; omega⟩
          clear hb hbx hby hvb hb32 hp
          by_cases h32 : vb = 32
          · subst h32
            rcases hq with q | ⟨q, q'⟩
            all_goals
              go_wp2_with fail
              go_ret
              exact ⟨YES.out, true, rfl, fun _ => rfl⟩
          · have q32 : (vb == 32) = false := beq_eq_false_iff_ne.mpr h32
            have HOK : Aside0 (rs.getD k 0 ≠ 35 ∧ rs.getD k 0 ≠ 92 ∧ (rs.getD k 0 = 58 ∨ rs.getD k 0 = 45 → k + 1 < rs.length → rs.getD (k + 1) 0 ≠ 32)) := ⟨by rw [← HC0.out]; exact H35.out, by rw [← HC0.out]; exact H92.out, fun _ _ h => h32 (HV.out.2 h)⟩
            clear h32
            rcases hq with q | ⟨q, q'⟩
            all_goals
              go_wp2_with fail
              go_roundg (gk - 1)
              case measure => have := HK.out.1; omega
              case rel => exact ⟨k + 1, by omega, rfl, ⟨by have := HK.out.1; omega, fun j hj => (Nat.lt_succ_iff_lt_or_eq.1 hj).elim (HK.out.2 j) (fun e => by rw [e]; exact HOK.out)⟩⟩
      · have q58 : (c == 58) = false := beq_eq_false_iff_ne.mpr fun h => hsg (.inl h)
        have q45 : (c == 45) = false := beq_eq_false_iff_ne.mpr fun h => hsg (.inr h)
        have HOK : Aside0 (rs.getD k 0 ≠ 35 ∧ rs.getD k 0 ≠ 92 ∧ (rs.getD k 0 = 58 ∨ rs.getD k 0 = 45 → k + 1 < rs.length → rs.getD (k + 1) 0 ≠ 32)) := ⟨by rw [← HC0.out]; exact H35.out, by rw [← HC0.out]; exact H92.out, fun h => absurd (by rw [HC0.out]; exact h) hsg⟩
        clear hsg
        go_wp2_with fail
        go_roundg (gk - 1)
        case measure => have := HK.out.1; omega
        case rel => exact ⟨k + 1, by omega, rfl, ⟨by have := HK.out.1; omega, fun j hj => (Nat.lt_succ_iff_lt_or_eq.1 hj).elim (HK.out.2 j) (fun e => by rw [e]; exact HOK.out)⟩⟩
    · obtain rfl : k = rs.length := by omega
      have hend : (enc (rs.take rs.length)).length = s.size := by rw [List.take_length, ← HE.out, B_length]
      rw [hend]
      have hnx : ∀ ty, (Instr.next (.pointer (some ⟨w1.heap.size, 0, none⟩)) true ty).run Tryz.prog (w1.iter s s.size) = _ := fun ty => run_next_end w1 s s.size ty (Nat.lt_irrefl _)
      clear hend
      have FIN : Aside0 (s.toList ∈ words10 ∨ Isnum r ∨ ¬ Fact rs → false = true) := ⟨fun h => by
        rcases h with h | h | h
        · exact absurd h HW.out
        · exact absurd h HN.out
        · refine absurd ⟨fun hx => ?_, fun c hc hx => ?_, fun hx => ?_, fun hx => ?_, HK.out.2⟩ h
          · have e := HE.out
            rw [hx] at e
            have : s.toList = [45] := by rw [Lib.toList_data]; exact e
            rw [this] at hd
            exact absurd hd (by decide)
          · refine HF.out (List.mem_map.2 ⟨c, hc, ?_⟩)
            rw [HV0.out]
            have hlt : c < 128 := by
              simp only [firsts, List.mem_cons, List.not_mem_nil, or_false] at hc
              omega
            rw [((F0'.out c hlt).2 hx)]
          · exact HL58.out (by rw [HVL.out, (FL'.out 58 (by omega)).2 hx]; rfl)
          · exact HL32.out (by rw [HVL.out, (FL'.out 32 (by omega)).2 hx]; rfl)⟩
      go_wp2_with fail
      go_ret
      exact ⟨B1.out.alloc B1.out.size _, false, rfl, FIN.out⟩
end Go.Proofs.YtlkbhmmelejmjaaGreatDoor.QNeed

/- nbDigits. -/
namespace Go.Proofs.YtlkbhmmelejmjaaGreatDoor.AsDig
open Go.RowKit Go.Proofs.YtlkbhmmelejmjaaGreatDoorW.PrintWords Go.Proofs.YtlkbhmmelejmjaaGreatDoor.AsNum
set_option linter.unusedVariables false
set_option linter.unusedSimpArgs false
attribute [local go_sem ↓] Go.wp_at_zero Go.wp_at_succ

/-- The number of digits of a base, as 64 bits hold it. -/
def digF (b : Int) : List UInt8 → Int → Option Int
  | [], n => some n
  | c :: r, n => if hexV c.toNat < 0 ∨ b ≤ hexV c.toNat ∨ (18446744073709551615 - hexV c.toNat) / b < n then none else digF b r (n * b + hexV c.toNat)
theorem digF_step (b n d : Int) (x : UInt8) (r : List UInt8) (h : d = hexV x.toNat) : digF b (x :: r) n = if d < 0 ∨ b ≤ d ∨ (18446744073709551615 - d) / b < n then none else digF b r (n * b + d) := by subst h; rfl
def DigP (b : Int) (s : ByteArray) (w : World) (e : Ending) (w' : World) : Prop := Below w.heap.size w w' ∧ ∃ (n : Int) (ok : Bool), e = .returned (.tuple #[.int .u64 n, .bool ok]) ∧ (ok = true → s.size ≠ 0 ∧ 0 ≤ n ∧ n ≤ 18446744073709551615 ∧ digF b s.data.toList 0 = some n)
set_option maxHeartbeats 4000000 in
set_option maxRecDepth 100000 in
theorem dig_walk (b : Int) (hb : 2 ≤ b) (hb2 : b ≤ 16) (s : ByteArray) (hs : s.size ≤ 140737488351232) (w : World) : Calls Tryz.prog 44 #[.string s, .int .u64 b] w (DigP b s w) := by
  have CH := Aside0.mk (fun c h0 h1 W => hex_walk c h0 h1 W)
  go_enter Tryz.func44, Tryz.ntmps44
  go_wp2_with fail
  go_loopg [6, 8, 9] s.size (fun kq v6 v8 v9 w' => ∃ (k : Nat) (n : Int), k ≤ s.size ∧ v6 = .int .u64 n ∧ 0 ≤ n ∧ n ≤ 18446744073709551615 ∧ w' = w.iter s k ∧ Aside0 (kq + k = s.size ∧ digF b (s.data.toList.drop k) n = digF b s.data.toList 0))
  case atStart => exact ⟨0, 0, by omega, rfl, by omega, by omega, rfl, ⟨by omega, rfl⟩⟩
  case round =>
    obtain ⟨k, n, hk, rfl, hn0, hn1, rfl, HK⟩ := hrel
    by_cases hkn : k < s.size
    · by_cases hlow : (s[k]'hkn).toNat < 128
      · obtain ⟨c, hc⟩ : ∃ c : Nat, c = (s[k]'hkn).toNat := ⟨_, rfl⟩
        obtain ⟨d, hd⟩ : ∃ d : Int, d = hexV c := ⟨_, rfl⟩
        have hdi := hexV_in (c : Int)
        rw [← hd] at hdi
        obtain ⟨hdi0, hdi1⟩ := hdi
        have hnx : ∀ ty, (Instr.next (.pointer (some ⟨w.heap.size, 0, none⟩)) true ty).run Tryz.prog (w.iter s k) = .ok (.tuple #[.bool true, .int .i64 k, .int .i32 c]) (w.iter s (k + 1)) := fun ty => by
          rw [run_next_any w s _ ty hkn, decode_ascii s k hkn hlow, ← hc]
        have hdr : digF b (s.data.toList.drop k) n = if d < 0 ∨ b ≤ d ∨ (18446744073709551615 - d) / b < n then none else digF b (s.data.toList.drop (k + 1)) (n * b + d) := by
          rw [List.drop_eq_getElem_cons (by rw [← Lib.size_eq]; exact hkn)]
          exact digF_step b n d _ _ (by rw [hd, hc]; rfl)
        have HDR := Aside0.mk hdr
        have CC := CH.out (c : Int) (by omega) (by omega)
        unfold HexP at CC
        rw [← hd] at CC
        replace CC := Aside0.mk CC
        clear hdr hd hc hlow
        go_wp2_with fail
        refine (CC.out _).mono ?_
        rintro e w1 ⟨rfl, rfl⟩
        by_cases h1 : d < 0
        · go_wp2_with fail
          go_ret2
          exact ⟨(Below.refl _ _).alloc (Nat.le_refl _) _, 0, false, rfl, fun h => by cases h⟩
        by_cases h2 : b ≤ d
        · go_wp2_with fail
          go_ret2
          exact ⟨(Below.refl _ _).alloc (Nat.le_refl _) _, 0, false, rfl, fun h => by cases h⟩
        by_cases h3 : (18446744073709551615 - d) / b < n
        · go_wp2_with fail
          go_ret2
          exact ⟨(Below.refl _ _).alloc (Nat.le_refl _) _, 0, false, rfl, fun h => by cases h⟩
        · have m1 : n * b ≤ 18446744073709551615 - d := Int.mul_le_of_le_ediv (by omega) (by omega)
          have m0 : 0 ≤ n * b := Int.mul_nonneg hn0 (by omega)
          have e1 : IntKind.u64.wrap (n * b) = n * b := by rw [IntKind.wrap_u64]; exact Int.emod_eq_of_lt m0 (by omega)
          have e2 : IntKind.u64.wrap (n * b + d) = n * b + d := by rw [IntKind.wrap_u64]; exact Int.emod_eq_of_lt (by omega) (by omega)
          have M := Aside0.mk (And.intro m0 (And.intro m1 (And.intro e1 e2)))
          clear m0 m1 e1 e2
          go_wp2_with fail
          go_roundg (gk - 1)
          case measure => have := HK.out.1; omega
          case rel =>
            obtain ⟨m0, m1, e1, e2⟩ := M.out
            refine ⟨k + 1, n * b + d, by omega, by rw [e1, e2], by omega, by omega, rfl, ⟨by have := HK.out.1; omega, ?_⟩⟩
            rw [← HK.out.2, HDR.out, if_neg (by omega)]
      · obtain ⟨v, hv⟩ : ∃ v : Nat, v = (Utf8.decode s k).1 := ⟨_, rfl⟩
        obtain ⟨z, hz⟩ : ∃ z : Nat, z = (Utf8.decode s k).2 := ⟨_, rfl⟩
        have hh := (decode_high s k hkn (by omega)).1
        have hl := decode_le s k
        rw [← hv] at hh hl
        have hnx : ∀ ty, (Instr.next (.pointer (some ⟨w.heap.size, 0, none⟩)) true ty).run Tryz.prog (w.iter s k) = .ok (.tuple #[.bool true, .int .i64 k, .int .i32 v]) (w.iter s (k + z)) := fun ty => by
          rw [run_next_any w s _ ty hkn, ← hv, ← hz]
        have CC := CH.out (v : Int) (by omega) (by omega)
        unfold HexP at CC
        rw [show hexV (v : Int) = -1 by unfold hexV; rw [if_neg (by omega), if_neg (by omega), if_neg (by omega)]] at CC
        replace CC := Aside0.mk CC
        clear hv hz hlow
        go_wp2_with fail
        refine (CC.out _).mono ?_
        rintro e w1 ⟨rfl, rfl⟩
        go_wp2_with fail
        go_ret2
        exact ⟨(Below.refl _ _).alloc (Nat.le_refl _) _, 0, false, rfl, fun h => by cases h⟩
    · obtain rfl : k = s.size := by omega
      have hnx : ∀ ty, (Instr.next (.pointer (some ⟨w.heap.size, 0, none⟩)) true ty).run Tryz.prog (w.iter s s.size) = _ := fun ty => run_next_end w s s.size ty (Nat.lt_irrefl _)
      by_cases hz : s.size = 0
      · have hze := emp_t s hz
        have HZ := Aside0.mk hz
        clear hz
        go_wp2_with fail
        go_ret2
        exact ⟨(Below.refl _ _).alloc (Nat.le_refl _) _, n, _, rfl, fun h => by revert h; simp [hze]⟩
      · have hze := emp_f s (by omega)
        have HF := HK.out.2
        rw [show s.data.toList.drop s.size = [] by rw [Lib.size_eq]; exact List.drop_length] at HF
        replace HF := Aside0.mk HF
        go_wp2_with fail
        go_ret2
        exact ⟨(Below.refl _ _).alloc (Nat.le_refl _) _, n, _, rfl, fun h => ⟨hz, hn0, hn1, HF.out.symm⟩⟩
end Go.Proofs.YtlkbhmmelejmjaaGreatDoor.AsDig

/- nbFloat: what a float's text is. -/
namespace Go.Proofs.YtlkbhmmelejmjaaGreatDoor.AsFlo
open Go.RowKit Go.Proofs.YtlkbhmmelejmjaaGreatDoorW.PrintWords Go.Proofs.YtlkbhmmelejmjaaGreatDoor.AsNum
set_option linter.unusedVariables false
set_option linter.unusedSimpArgs false

/-- An exponent's text, or none. -/
def ExpG (D : List UInt8) : Prop := D = [] ∨ ∃ c r q, D = c :: r ∧ (c.toNat = 101 ∨ c.toNat = 69) ∧ (r = q ∨ ∃ g : UInt8, (g.toNat = 43 ∨ g.toNat = 45) ∧ r = g :: q) ∧ Dg q ∧ q ≠ [] ∧ q.length ≤ 3
/-- Digits, a point and digits, ahead of more. -/
def Hd (L V : List UInt8) : Prop := ∃ a p b, L = a ++ p :: (b ++ V) ∧ p.toNat = 46 ∧ Dg a ∧ a ≠ [] ∧ (a.length = 1 ∨ ∀ x r, a = x :: r → x.toNat ≠ 48) ∧ Dg b ∧ b ≠ []
def FloG (L : List UInt8) : Prop := ∃ V, Hd L V ∧ ExpG V
def FlP (t : ByteArray) (w : World) (e : Ending) (w' : World) : Prop := w = w' ∧ ∃ b, e = .returned (.bool b) ∧ (b = true → FloG t.data.toList)

theorem cons_is {s : ByteArray} {c : Int} (h : 0 < s.size) (hc : ∀ h, ((s[0]'h).toNat : Int) = c) : ∃ x r, s.data.toList = x :: r ∧ (x.toNat : Int) = c ∧ (s.extract 1 s.size).data.toList = r := ⟨s[0], _, cons_of s h, hc h, ext_one s⟩
theorem all_dg {s : ByteArray} {k : Nat} (h : ¬ (k : Int) < (s.size : Int)) (hd : Dg (s.data.toList.take k)) : Dg s.data.toList := by
  rw [List.take_of_length_le (by rw [← Lib.size_eq]; omega)] at hd
  exact hd
theorem exp_of {V U : ByteArray} {c : Int} {k : Nat} (h : 0 < V.size) (hc : ∀ h, ((V[0]'h).toNat : Int) = c) (he : c = 101 ∨ c = 69) (hU : U = V.extract 1 V.size ∨ (∃ g : Int, (g = 43 ∨ g = 45) ∧ 0 < (V.extract 1 V.size).size ∧ (∀ h, (((V.extract 1 V.size)[0]'h).toNat : Int) = g) ∧ U = (V.extract 1 V.size).extract 1 (V.extract 1 V.size).size)) (hk0 : k ≠ 0) (hk3 : k ≤ 3) (hku : ¬ (k : Int) < (U.size : Int)) (hle : k ≤ U.size) (hd : Dg (U.data.toList.take k)) : ExpG V.data.toList := by
  obtain ⟨x, r, h1, h2, h3⟩ := cons_is h hc
  have hsz := Lib.size_eq U
  refine .inr ⟨x, r, U.data.toList, h1, by omega, ?_, all_dg hku hd, fun hn => ?_, by omega⟩
  · rcases hU with rfl | ⟨g, hg, hp, hgc, rfl⟩
    · exact .inl h3.symm
    · obtain ⟨y, q, g1, g2, g3⟩ := cons_is hp hgc
      exact .inr ⟨y, by omega, by rw [g3, ← h3, g1]⟩
  · rw [hn] at hsz
    have : U.size = 0 := hsz
    omega
theorem hd_of {t U V W : ByteArray} {n k : Nat} (hn : n ≤ t.size) (hd : Dg (t.data.toList.take n)) (hg : n ≠ 0 ∧ (n = 1 ∨ ∀ x r, t.data.toList = x :: r → x.toNat ≠ 48)) (hU : U.data.toList = t.data.toList.drop n) (h : 0 < U.size) (hc : ∀ h, ((U[0]'h).toNat : Int) = 46) (hV : V = U.extract 1 U.size) (hk : k ≤ V.size) (hk0 : k ≠ 0) (hd2 : Dg (V.data.toList.take k)) (hW : W.data.toList = U.data.toList.drop (k + 1)) : Hd t.data.toList W.data.toList := by
  obtain ⟨x, r, h1, h2, h3⟩ := cons_is h hc
  have hts := Lib.size_eq t
  have hvs := Lib.size_eq V
  have ht : t.data.toList = t.data.toList.take n ++ t.data.toList.drop n := (List.take_append_drop n _).symm
  have hv : V.data.toList = r := by rw [hV]; exact h3
  have hw : W.data.toList = V.data.toList.drop k := by rw [hW, h1, hv]; rfl
  refine ⟨t.data.toList.take n, x, V.data.toList.take k, ?_, by omega, hd, fun he => ?_, ?_, hd2, fun he => ?_⟩
  · rw [hw, List.take_append_drop, hv, ← h1, hU]; exact ht
  · have := congrArg List.length he
    rw [List.length_take] at this
    have h0 : ([] : List UInt8).length = 0 := rfl
    omega
  · rcases hg.2 with h | h
    · left; rw [List.length_take]; omega
    · right
      intro y q hy
      rw [hy] at ht
      exact h y _ ht
  · have := congrArg List.length he
    rw [List.length_take] at this
    have h0 : ([] : List UInt8).length = 0 := rfl
    omega

set_option maxHeartbeats 8000000 in
set_option maxRecDepth 100000 in
theorem flo_walk (t : ByteArray) (hs : t.size ≤ 140737488351232) (w : World) : Calls Tryz.prog 46 #[.string t] w (FlP t w) := by
  have CR := Aside0.mk run_walk
  obtain ⟨c0, hc0⟩ := first_any t
  go_enter Tryz.func46, Tryz.ntmps46
  go_wp2_with fail
  refine (CR.out t hs _).mono ?_
  rintro e w' ⟨rfl, n, rfl, hn, hd⟩
  have HD := Aside0.mk hd
  clear hd
  by_cases hn0 : n = 0
  · subst hn0
    go_wp2_with fail
    go_ret
    exact ⟨rfl, false, rfl, fun h => by cases h⟩
  have q0 : ((n : Int) == 0) = false := beq_eq_false_iff_ne.mpr (by omega)
  by_cases hbad : 1 < n ∧ c0 = 48
  · have d1 : decide ((1 : Int) < (n : Int)) = true := decide_eq_true (by omega)
    have q48 : (c0 == 48) = true := by rw [hbad.2]; rfl
    have hz0 : 0 < t.size := by omega
    clear hbad
    go_wp2_with fail
    go_ret
    exact ⟨rfl, false, rfl, fun h => by cases h⟩
  have HG : Aside0 (n ≠ 0 ∧ (n = 1 ∨ ∀ x r, t.data.toList = x :: r → x.toNat ≠ 48)) := ⟨hn0, by
    by_cases h1 : n = 1
    · exact .inl h1
    · refine .inr fun x r hx h48 => hbad ⟨by omega, ?_⟩
      have h0 : 0 < t.size := by omega
      have := cons_of t h0
      rw [this] at hx
      injection hx with hx _
      have := hc0 h0
      rw [hx] at this
      omega⟩
  have hgo : (decide ((1 : Int) < (n : Int)) = false) ∨ (decide ((1 : Int) < (n : Int)) = true ∧ (c0 == 48) = false ∧ 0 < t.size) := by
    by_cases h1 : 1 < n
    · exact .inr ⟨decide_eq_true (by omega), beq_eq_false_iff_ne.mpr fun h => hbad ⟨h1, h⟩, by omega⟩
    · exact .inl (decide_eq_false (by omega))
  clear hbad hn0
  rcases hgo with d1 | ⟨d1, q48, hz0⟩
  all_goals
    go_upto_region 6 with (fail)
    obtain ⟨U, hU⟩ : ∃ U, U = t.extract n t.size := ⟨_, rfl⟩
    have hus : U.size ≤ 140737488351232 := by rw [hU, ByteArray.size_extract]; omega
    have HUL := Aside0.mk (show U.data.toList = t.data.toList.drop n by rw [hU]; exact ext_from t n)
    simp only [← hU]
    clear hU
    go_cut [29] (fun v29 wc => ∃ x : Bool, v29 = .bool x ∧ Aside0 (x = true → 0 < U.size ∧ ∀ h, ((U[0]'h).toNat : Int) = 46) ∧ w = wc)
    case first =>
      by_cases hu : U.size = 0
      · have hz := emp_t U hu
        clear hu
        go_wp2_with fail
        go_meet
        case rel => exact ⟨false, rfl, ⟨fun h => by cases h⟩, rfl⟩
      · have hp : 0 < U.size := by omega
        have hz := emp_f U hp
        obtain ⟨c1, hc1⟩ := first_any U
        by_cases h46 : c1 = 46
        · subst h46
          go_wp2_with fail
          go_meet
          case rel => exact ⟨true, rfl, ⟨fun _ => ⟨hp, hc1⟩⟩, rfl⟩
        · have q46 : (c1 == 46) = false := beq_eq_false_iff_ne.mpr h46
          clear h46
          go_wp2_with fail
          go_meet
          case rel => exact ⟨false, rfl, ⟨fun h => by cases h⟩, rfl⟩
    case rest =>
      obtain ⟨x, rfl, HX, rfl⟩ := hcut
      go_upto_if 29 with (fail)
      go_cut [0, 4] (fun v0 v4 wc => ∃ (V : ByteArray) (m : Bool), v0 = .string V ∧ v4 = .bool m ∧ V.size ≤ 140737488351232 ∧ Aside0 (m = true → Hd t.data.toList V.data.toList) ∧ w = wc)
      case first =>
        cases x
        · go_wp2_with fail
          go_meet
          case rel => exact ⟨U, false, rfl, rfl, hus, ⟨fun h => by cases h⟩, rfl⟩
        · obtain ⟨hp, hc1⟩ := HX.out rfl
          have hp1 : 1 ≤ U.size := hp
          have HC1 := Aside0.mk hc1
          clear hc1
          go_wp2_with fail
          obtain ⟨V, hV⟩ : ∃ V, V = U.extract 1 U.size := ⟨_, rfl⟩
          have hvs : V.size = U.size - 1 := by rw [hV, ByteArray.size_extract]; omega
          rw [← hV]
          refine (CR.out V (by omega) _).mono ?_
          rintro e w' ⟨rfl, k, rfl, hk, hd2⟩
          have HD2 := Aside0.mk hd2
          have HV := Aside0.mk hV
          have HVS := Aside0.mk hvs
          clear hd2 hV hvs
          by_cases hk0 : k = 0
          · subst hk0
            go_wp2_with fail
            go_ret
            exact ⟨rfl, false, rfl, fun h => by cases h⟩
          · have qk : ((k : Int) == 0) = false := beq_eq_false_iff_ne.mpr (by omega)
            have hk1 : k + 1 ≤ U.size := by have := HVS.out; omega
            have HK0 := Aside0.mk hk0
            clear hk0
            go_wp2_with fail
            go_meet
            case rel =>
              refine ⟨_, true, rfl, rfl, ?_, ⟨fun _ => hd_of hn HD.out HG.out HUL.out hp HC1.out HV.out hk HK0.out HD2.out (by rw [Nat.add_comm k 1]; exact ext_from U (1 + k))⟩, rfl⟩
              rw [ByteArray.size_extract]; omega
      case rest =>
        obtain ⟨V, m, rfl, rfl, hvs, HM, rfl⟩ := hcut
        clear HX HUL HD HG hus
        go_upto_region 11 with (fail)
        go_cut [50] (fun v50 wc => ∃ (x : Bool) (g : Int), v50 = .bool x ∧ Aside0 (x = true → 0 < V.size ∧ (g = 101 ∨ g = 69) ∧ ∀ h, ((V[0]'h).toNat : Int) = g) ∧ w = wc)
        case first =>
          by_cases hu : V.size = 0
          · have hz := emp_t V hu
            clear hu
            go_wp2_with fail
            go_meet
            case rel => exact ⟨false, 0, rfl, ⟨fun h => by cases h⟩, rfl⟩
          · have hp : 0 < V.size := by omega
            have hz := emp_f V hp
            obtain ⟨c1, hc1⟩ := first_any V
            by_cases h1 : c1 = 101
            · subst h1
              go_wp2_with fail
              go_meet
              case rel => exact ⟨true, 101, rfl, ⟨fun _ => ⟨hp, .inl rfl, hc1⟩⟩, rfl⟩
            have q1 : (c1 == 101) = false := beq_eq_false_iff_ne.mpr h1
            clear h1
            by_cases h2 : c1 = 69
            · subst h2
              go_wp2_with fail
              go_meet
              case rel => exact ⟨true, 69, rfl, ⟨fun _ => ⟨hp, .inr rfl, hc1⟩⟩, rfl⟩
            have q2 : (c1 == 69) = false := beq_eq_false_iff_ne.mpr h2
            clear h2
            go_wp2_with fail
            go_meet
            case rel => exact ⟨false, 0, rfl, ⟨fun h => by cases h⟩, rfl⟩
        case rest =>
          obtain ⟨x, g, rfl, HX, rfl⟩ := hcut
          cases x
          case false =>
            by_cases hu : V.size = 0
            · have hz := emp_t V hu
              have HE := Aside0.mk (empty_iff V hu)
              clear hu
              cases m
              · go_wp2_with fail
                go_ret
                exact ⟨rfl, false, rfl, fun h => by cases h⟩
              · go_wp2_with fail
                go_ret
                exact ⟨rfl, _, rfl, fun _ => ⟨_, HM.out (by first | rfl | trivial), .inl HE.out⟩⟩
            · have hz := emp_f V (by omega)
              clear hu
              cases m
              all_goals
                go_wp2_with fail
                go_ret
                exact ⟨rfl, false, rfl, fun h => by cases h⟩
          case true =>
            obtain ⟨hp, hg, hgc⟩ := HX.out rfl
            have hp1 : 1 ≤ V.size := hp
            have HG := Aside0.mk (And.intro hg hgc)
            clear hg hgc HX
            go_upto_region 13 with (fail)
            obtain ⟨U, hU⟩ : ∃ U, U = V.extract 1 V.size := ⟨_, rfl⟩
            have hus : U.size ≤ 140737488351232 := by rw [hU, ByteArray.size_extract]; omega
            have HU := Aside0.mk hU
            simp only [← hU]
            clear hU
            go_cut [64] (fun v64 wc => ∃ (x : Bool) (g : Int), v64 = .bool x ∧ Aside0 (x = true → 0 < U.size ∧ (g = 43 ∨ g = 45) ∧ ∀ h, ((U[0]'h).toNat : Int) = g) ∧ w = wc)
            case first =>
              by_cases hu : U.size = 0
              · have hz := emp_t U hu
                clear hu
                go_wp2_with fail
                go_meet
                case rel => exact ⟨false, 0, rfl, ⟨fun h => by cases h⟩, rfl⟩
              · have hp : 0 < U.size := by omega
                have hz := emp_f U hp
                obtain ⟨c1, hc1⟩ := first_any U
                by_cases h1 : c1 = 43
                · subst h1
                  go_wp2_with fail
                  go_meet
                  case rel => exact ⟨true, 43, rfl, ⟨fun _ => ⟨hp, .inl rfl, hc1⟩⟩, rfl⟩
                have q1 : (c1 == 43) = false := beq_eq_false_iff_ne.mpr h1
                clear h1
                by_cases h2 : c1 = 45
                · subst h2
                  go_wp2_with fail
                  go_meet
                  case rel => exact ⟨true, 45, rfl, ⟨fun _ => ⟨hp, .inr rfl, hc1⟩⟩, rfl⟩
                have q2 : (c1 == 45) = false := beq_eq_false_iff_ne.mpr h2
                clear h2
                go_wp2_with fail
                go_meet
                case rel => exact ⟨false, 0, rfl, ⟨fun h => by cases h⟩, rfl⟩
            case rest =>
              obtain ⟨y, g', rfl, HY, rfl⟩ := hcut
              have hTT : ∃ T : ByteArray, T.size ≤ 140737488351232 ∧ (y = false → T = U) ∧ (y = true → T = U.extract 1 U.size) ∧ (T = V.extract 1 V.size ∨ (∃ g : Int, (g = 43 ∨ g = 45) ∧ 0 < (V.extract 1 V.size).size ∧ (∀ h, (((V.extract 1 V.size)[0]'h).toNat : Int) = g) ∧ T = (V.extract 1 V.size).extract 1 (V.extract 1 V.size).size)) := by
                cases y
                · exact ⟨U, hus, fun _ => rfl, (fun h => by cases h), .inl HU.out⟩
                · obtain ⟨y1, y2, y3⟩ := HY.out rfl
                  refine ⟨U.extract 1 U.size, by rw [ByteArray.size_extract]; omega, (fun h => by cases h), fun _ => rfl, .inr ⟨g', y2, ?_⟩⟩
                  rw [← HU.out]
                  exact ⟨y1, y3, rfl⟩
              obtain ⟨T, hts, hy0, hy1, hTV⟩ := hTT
              have HTV := Aside0.mk hTV
              clear hTV
              have fin : ∀ k : Nat, k ≤ T.size → Dg (T.data.toList.take k) → k ≠ 0 → k ≤ 3 → ¬ (k : Int) < (T.size : Int) → m = true → FloG t.data.toList := fun k h1 h2 h3 h4 h5 hm => ⟨_, HM.out hm, exp_of hp HG.out.2 HG.out.1 HTV.out h3 h4 h5 h1 h2⟩
              have FIN := Aside0.mk fin
              clear fin
              have HY1 := Aside0.mk (fun h => (HY.out h).1)
              cases y
              case false =>
                obtain rfl := hy0 rfl
                clear hy0 hy1 HY
                go_wp2_with fail
                refine (CR.out T (by omega) _).mono ?_
                rintro e w' ⟨rfl, k, rfl, hk, hd2⟩
                have HD2 := Aside0.mk hd2
                clear hd2
                by_cases hk0 : k = 0
                · subst hk0
                  go_wp2_with fail
                  go_ret
                  exact ⟨rfl, false, rfl, fun h => by cases h⟩
                have qk : ((k : Int) == 0) = false := beq_eq_false_iff_ne.mpr (by omega)
                by_cases hk3 : 3 < k
                · have d3 : decide ((3 : Int) < (k : Int)) = true := decide_eq_true (by omega)
                  go_wp2_with fail
                  go_ret
                  exact ⟨rfl, false, rfl, fun h => by cases h⟩
                have d3 : decide ((3 : Int) < (k : Int)) = false := decide_eq_false (by omega)
                by_cases hkl : (k : Int) < (T.size : Int)
                · have d4 : decide ((k : Int) < (T.size : Int)) = true := decide_eq_true hkl
                  go_wp2_with fail
                  go_ret
                  exact ⟨rfl, false, rfl, fun h => by cases h⟩
                · have d4 : decide ((k : Int) < (T.size : Int)) = false := decide_eq_false hkl
                  have d5 : decide (k < T.size) = false := decide_eq_false (by omega)
                  have d6 : ¬ k < T.size := by omega
                  have HK := Aside0.mk (And.intro hk0 (And.intro hk3 hkl))
                  clear hk0 hk3 hkl
                  go_wp2_with fail
                  go_ret
                  exact ⟨rfl, m, rfl, FIN.out k hk HD2.out HK.out.1 (by have := HK.out.2.1; omega) HK.out.2.2⟩
              case true =>
                have hp1 : 1 ≤ U.size := HY1.out rfl
                obtain hTe := hy1 rfl
                clear hy0 hy1 HY
                go_upto_region 15 with (fail)
                simp only [← hTe]
                clear hTe
                go_wp2_with fail
                refine (CR.out T (by omega) _).mono ?_
                rintro e w' ⟨rfl, k, rfl, hk, hd2⟩
                have HD2 := Aside0.mk hd2
                clear hd2
                by_cases hk0 : k = 0
                · subst hk0
                  go_wp2_with fail
                  go_ret
                  exact ⟨rfl, false, rfl, fun h => by cases h⟩
                have qk : ((k : Int) == 0) = false := beq_eq_false_iff_ne.mpr (by omega)
                by_cases hk3 : 3 < k
                · have d3 : decide ((3 : Int) < (k : Int)) = true := decide_eq_true (by omega)
                  go_wp2_with fail
                  go_ret
                  exact ⟨rfl, false, rfl, fun h => by cases h⟩
                have d3 : decide ((3 : Int) < (k : Int)) = false := decide_eq_false (by omega)
                by_cases hkl : (k : Int) < (T.size : Int)
                · have d4 : decide ((k : Int) < (T.size : Int)) = true := decide_eq_true hkl
                  go_wp2_with fail
                  go_ret
                  exact ⟨rfl, false, rfl, fun h => by cases h⟩
                · have d4 : decide ((k : Int) < (T.size : Int)) = false := decide_eq_false hkl
                  have d5 : decide (k < T.size) = false := decide_eq_false (by omega)
                  have d6 : ¬ k < T.size := by omega
                  have HK := Aside0.mk (And.intro hk0 (And.intro hk3 hkl))
                  clear hk0 hk3 hkl
                  go_wp2_with fail
                  go_ret
                  exact ⟨rfl, m, rfl, FIN.out k hk HD2.out HK.out.1 (by have := HK.out.2.1; omega) HK.out.2.2⟩
end Go.Proofs.YtlkbhmmelejmjaaGreatDoor.AsFlo
