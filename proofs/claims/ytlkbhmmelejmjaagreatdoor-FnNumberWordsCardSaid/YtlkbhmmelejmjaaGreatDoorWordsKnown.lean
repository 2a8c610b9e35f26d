/- FnNumberWords: what the reference says of a text: the five functions behind laws.nbKnown, as print.sh prints them; two goals that its walk leaves open (a byte of a cut text) are closed by hand. -/
import Derived.Test.YtlkbhmmelejmjaaGreatDoorPFnNumberWordsx0
namespace Go.Proofs.YtlkbhmmelejmjaaGreatDoor.WordsKnown
open Go.RowKit Go.Proofs.YtlkbhmmelejmjaaGreatDoorW.PrintWords Go.Proofs.YtlkbhmmelejmjaaGreatDoorW.PrintLast Go.Proofs.YtlkbhmmelejmjaaGreatDoorW.PrintMore
attribute [local go_sem] max2_int min2_int max_two min_two max_three min_three max_four min_four   -- for this text's walks alone
set_option linter.unusedVariables false
set_option linter.unusedSimpArgs false

/-! ### spec_wrDigit: function 117 -/
def spec_wrDigit.f (a0 : Int) : Option (Bool) := if a0 ≥ 48 then (some (decide (a0 ≤ 57))) else (some false)
set_option maxHeartbeats 8000000 in
set_option maxRecDepth 100000 in
theorem spec_wrDigit.calls (a0 : Int) (r : Bool) (w : World) (h : spec_wrDigit.f a0 = some r) :
    Calls Tryz.prog 117 #[.int .u8 a0] w fun e w' => e = .returned (.bool r) ∧ Drawn0 w w' := by
  have H : (if a0 ≥ 48 then (some (decide (a0 ≤ 57))) else (some false)) = some r := h
  clear h
  by_cases c2 : a0 ≥ 48
  · rw [if_pos c2] at H
    have c2b0 : decide (48 ≤ a0) = true := decide_eq_true c2
    clear c2
    obtain rfl := Option.some.inj H
    go_enter Tryz.func117, Tryz.ntmps117
    go_wp2
    go_ret
    exact ⟨by first | rfl | (simp; done) | (simp [*]; done), by repeat (first | exact Drawn0.refl _ | apply Drawn0.step)⟩
  · rw [if_neg c2] at H
    have c2b0 : decide (48 ≤ a0) = false := decide_eq_false c2
    clear c2
    obtain rfl := Option.some.inj H
    go_enter Tryz.func117, Tryz.ntmps117
    go_wp2
    go_ret
    exact ⟨by first | rfl | (simp; done) | (simp [*]; done), by repeat (first | exact Drawn0.refl _ | apply Drawn0.step)⟩

/-! ### spec_wrDigits: function 98 -/
def spec_wrDigits.l0 : Nat → ByteArray → Int → Int → Int → Option (Bool)
  | 0, _, _, _, _ => none
  | k + 1, x0, x1, x2, x7 => if x7 < (x0.size : Int) then (if 0 ≤ x7 then ((spec_wrDigit.f (bt x0 x7)).bind fun t163 => (if t163 = true then (spec_wrDigits.l0 k x0 x1 x2 (wrap64 (x7 + 1))) else (some false))) else (none)) else (if (x0.size : Int) ≥ x1 then (some (decide ((x0.size : Int) ≤ x2))) else (some false))
def spec_wrDigits.f (k : Nat) (a0 : ByteArray) (a1 : Int) (a2 : Int) : Option (Bool) := spec_wrDigits.l0 k a0 a1 a2 0
theorem spec_wrDigits.mono_l : ∀ k, (∀ y0 y1 y2 y3, LeO (spec_wrDigits.l0 k y0 y1 y2 y3) (spec_wrDigits.l0 (k + 1) y0 y1 y2 y3))
  | 0 => fun _ _ _ _ r h => by simp [spec_wrDigits.l0] at h
  | k + 1 => by
    have ih0 := spec_wrDigits.mono_l k
    · intro y0 y1 y2 y3
      unfold spec_wrDigits.l0
      repeat' first
      | (with_reducible exact ih0 _ _ _ _)
      | (with_reducible exact LeO.refl _)
      | (with_reducible exact LeO.none _)
      | (with_reducible refine LeO.ite ?_ ?_)
      | (with_reducible refine LeO.bind ?_ (fun _ => ?_))
      | exact ih0 _ _ _ _
      | exact LeO.none _
      | refine LeO.ite ?_ ?_
      | refine LeO.bind ?_ (fun _ => ?_)
theorem spec_wrDigits.mono : ∀ a0 a1 a2 k, LeO (spec_wrDigits.f k a0 a1 a2) (spec_wrDigits.f (k + 1) a0 a1 a2) := by
  intro a0 a1 a2 k
  have ih0 := spec_wrDigits.mono_l k
  unfold spec_wrDigits.f
  repeat' first
      | (with_reducible exact ih0 _ _ _ _)
      | (with_reducible exact LeO.refl _)
      | (with_reducible exact LeO.none _)
      | (with_reducible refine LeO.ite ?_ ?_)
      | (with_reducible refine LeO.bind ?_ (fun _ => ?_))
      | exact ih0 _ _ _ _
      | exact LeO.none _
      | refine LeO.ite ?_ ?_
      | refine LeO.bind ?_ (fun _ => ?_)
set_option maxHeartbeats 8000000 in
set_option maxRecDepth 100000 in
theorem spec_wrDigits.calls (k : Nat) (a0 : ByteArray) (a1 : Int) (a2 : Int) (r : Bool) (w : World) (h : spec_wrDigits.f k a0 a1 a2 = some r) :
    Calls Tryz.prog 98 #[.string a0, .int .i64 a1, .int .i64 a2] w fun e w' => e = .returned (.bool r) ∧ Drawn0 w w' := by
  have H : (spec_wrDigits.l0 k a0 a1 a2 0) = some r := h
  clear h
  have H' := Aside0.mk H
  clear H
  go_enter Tryz.func98, Tryz.ntmps98
  go_wp2
  go_loopg [7] k (fun kq v7 w' => ∃ (x7_1 : Int), v7 = .int .i64 x7_1 ∧ Aside0 (spec_wrDigits.l0 kq a0 a1 a2 x7_1 = some r) ∧ Aside0 (kq ≤ k) ∧ Drawn0 w w')
  case atStart => exact ⟨(0), (by first | rfl | (simp; done) | (simp [*]; done)), H', ⟨Nat.le_refl _⟩, by repeat (first | exact Drawn0.refl _ | apply Drawn0.step)⟩
  case round =>
    clear H'
    try clear p2
    obtain ⟨x7_1, rfl, HA, HK1, ⟨m1, rfl⟩⟩ := hrel
    cases gk with
    | zero => exact absurd HA.out (by simp [spec_wrDigits.l0])
    | succ k1 =>
      have H := HA.out
      clear HA
      simp only [spec_wrDigits.l0] at H
      by_cases c4 : x7_1 < (a0.size : Int)
      · rw [if_pos c4] at H
        have c4b0 : decide (x7_1 < (a0.size : Int)) = true := decide_eq_true c4
        clear c4
        by_cases c5 : 0 ≤ x7_1
        · rw [if_pos c5] at H
          have c5b0 : decide (0 ≤ x7_1) = true := decide_eq_true c5
          clear c5
          replace H := Option.bind_eq_some_iff.mp H
          obtain ⟨t163, A70, H⟩ := H
          replace H : (if t163 = true then (spec_wrDigits.l0 k1 a0 a1 a2 (wrap64 (x7_1 + 1))) else (some false)) = some r := H
          have A7 := Aside0.mk A70
          clear A70
          by_cases c8 : t163 = true
          · subst c8
            have H1 : (spec_wrDigits.l0 k1 a0 a1 a2 (wrap64 (x7_1 + 1))) = some r := by rw [if_pos rfl] at H; exact H
            clear H
            have H := H1
            clear H1
            have H' := Aside0.mk H
            clear H
            have p6 : 0 ≤ (x7_1 : Int) := of_decide_eq_true (by first | (with_reducible assumption) | assumption)
            have q6 : x7_1 < (a0.size : Int) := of_decide_eq_true (by first | (with_reducible assumption) | assumption)
            have hx6 := bt_at a0 x7_1
            replace p6 := eq_true p6
            replace q6 := eq_true q6
            go_wp2_with (first | ((with_reducible refine gate_callee (f := 117) rfl ?_); refine goesL_ (some 17) rfl rfl Tryz.func117 (by kernel_rfl) rfl #[.int .u8 (bt a0 x7_1)] rfl (by (try simp only [List.map_toArray, List.map_cons, List.map_nil]); first | done | rfl | (simp only [List.length_drop, List.length_take]; rfl)) ?_; (with_reducible refine (spec_wrDigit.calls (bt a0 x7_1) true _ A7.out).mono ?_); rintro e w' ⟨rfl, ⟨nd, rfl⟩⟩; refine ⟨_, rfl, ?_⟩))
            go_roundg k1
            case measure => have := HK1.out; omega
            case rel => exact ⟨(wrap64 (x7_1 + 1)), (by first | rfl | (simp; done) | (simp [*]; done)), H', ⟨by have := HK1.out; omega⟩, by repeat (first | exact Drawn0.refl _ | apply Drawn0.step)⟩
          · replace c8 := Bool.eq_false_iff.mpr c8
            subst c8
            have H1 : (some false) = some r := by rw [if_neg (show ¬ (false = true) by decide)] at H; exact H
            clear H
            have H := H1
            clear H1
            obtain rfl := Option.some.inj H
            have p6 : 0 ≤ (x7_1 : Int) := of_decide_eq_true (by first | (with_reducible assumption) | assumption)
            have q6 : x7_1 < (a0.size : Int) := of_decide_eq_true (by first | (with_reducible assumption) | assumption)
            have hx6 := bt_at a0 x7_1
            replace p6 := eq_true p6
            replace q6 := eq_true q6
            go_wp2_with (first | ((with_reducible refine gate_callee (f := 117) rfl ?_); refine goesL_ (some 17) rfl rfl Tryz.func117 (by kernel_rfl) rfl #[.int .u8 (bt a0 x7_1)] rfl (by (try simp only [List.map_toArray, List.map_cons, List.map_nil]); first | done | rfl | (simp only [List.length_drop, List.length_take]; rfl)) ?_; (with_reducible refine (spec_wrDigit.calls (bt a0 x7_1) false _ A7.out).mono ?_); rintro e w' ⟨rfl, ⟨nd, rfl⟩⟩; refine ⟨_, rfl, ?_⟩))
            go_ret
            exact ⟨by first | rfl | (simp; done) | (simp [*]; done), by repeat (first | exact Drawn0.refl _ | apply Drawn0.step)⟩
        · rw [if_neg c5] at H
          exact absurd H (by simp)
      · rw [if_neg c4] at H
        have c4b0 : decide (x7_1 < (a0.size : Int)) = false := decide_eq_false c4
        clear c4
        by_cases c9 : (a0.size : Int) ≥ a1
        · rw [if_pos c9] at H
          have c9b0 : decide (a1 ≤ (a0.size : Int)) = true := decide_eq_true c9
          clear c9
          obtain rfl := Option.some.inj H
          go_wp2
          go_ret
          exact ⟨by first | rfl | (simp; done) | (simp [*]; done), by repeat (first | exact Drawn0.refl _ | apply Drawn0.step)⟩
        · rw [if_neg c9] at H
          have c9b0 : decide (a1 ≤ (a0.size : Int)) = false := decide_eq_false c9
          clear c9
          obtain rfl := Option.some.inj H
          go_wp2
          go_ret
          exact ⟨by first | rfl | (simp; done) | (simp [*]; done), by repeat (first | exact Drawn0.refl _ | apply Drawn0.step)⟩

/-! ### spec_wrNumber: function 78 -/
mutual
def spec_wrNumber.j0 : Nat → ByteArray → Bool → Option (Int)
  | 0, _, _ => none
  | k + 1, x0, x16 => if x16 = true then (if 1 ≤ (x0.size : Int) then (spec_wrNumber.j1 k (x0.extract 1 x0.size)) else (none)) else (spec_wrNumber.j1 k x0)
def spec_wrNumber.j1 : Nat → ByteArray → Option (Int)
  | 0, _ => none
  | k + 1, x0 => spec_wrNumber.l0 k x0 0
def spec_wrNumber.j3 : Nat → ByteArray → Int → Option (Int)
  | 0, _, _ => none
  | k + 1, x0, x3 => if 0 ≤ x3 then (if x3 ≤ (x0.size : Int) then ((spec_wrDigits.f k (x0.extract 0 (x3 : Int).toNat) 1 18).bind fun t164 => (if t164 = true then (if 0 < ((x0.extract 0 (x3 : Int).toNat).size : Int) then (if (bt (x0.extract 0 (x3 : Int).toNat) 0) = 48 then (spec_wrNumber.j4 k x0 x3 (decide (((x0.extract 0 (x3 : Int).toNat).size : Int) > 1))) else (spec_wrNumber.j4 k x0 x3 false)) else (none)) else (spec_wrNumber.j4 k x0 x3 true))) else (none)) else (none)
def spec_wrNumber.j4 : Nat → ByteArray → Int → Bool → Option (Int)
  | 0, _, _, _ => none
  | k + 1, x0, x3, x46 => if x46 = true then (some 0) else (if x3 = (x0.size : Int) then (some 3) else (if 0 ≤ (wrap64 (x3 + 1)) then (if (wrap64 (x3 + 1)) ≤ (x0.size : Int) then ((spec_wrDigits.f k (x0.extract ((wrap64 (x3 + 1)) : Int).toNat x0.size) 1 6).bind fun t165 => (if t165 = true then (some 4) else (some 0))) else (none)) else (none)))
def spec_wrNumber.l0 : Nat → ByteArray → Int → Option (Int)
  | 0, _, _ => none
  | k + 1, x0, x3 => if x3 < (x0.size : Int) then (if 0 ≤ x3 then (if (bt x0 x3) = 46 then (spec_wrNumber.j3 k x0 x3) else (spec_wrNumber.l0 k x0 (wrap64 (x3 + 1)))) else (none)) else (spec_wrNumber.j3 k x0 x3)
end
def spec_wrNumber.f (k : Nat) (a0 : ByteArray) : Option (Int) := if a0.toList = ([] : List UInt8) then (spec_wrNumber.j0 k a0 false) else (if 0 < (a0.size : Int) then (if (bt a0 0) = 45 then (spec_wrNumber.j0 k a0 true) else (spec_wrNumber.j0 k a0 ((bt a0 0) == 43))) else (none))
theorem spec_wrNumber.mono_l : ∀ k, (∀ y0 y1, LeO (spec_wrNumber.j0 k y0 y1) (spec_wrNumber.j0 (k + 1) y0 y1)) ∧ (∀ y0, LeO (spec_wrNumber.j1 k y0) (spec_wrNumber.j1 (k + 1) y0)) ∧ (∀ y0 y1, LeO (spec_wrNumber.j3 k y0 y1) (spec_wrNumber.j3 (k + 1) y0 y1)) ∧ (∀ y0 y1 y2, LeO (spec_wrNumber.j4 k y0 y1 y2) (spec_wrNumber.j4 (k + 1) y0 y1 y2)) ∧ (∀ y0 y1, LeO (spec_wrNumber.l0 k y0 y1) (spec_wrNumber.l0 (k + 1) y0 y1))
  | 0 => ⟨fun _ _ r h => by simp [spec_wrNumber.j0] at h, fun _ r h => by simp [spec_wrNumber.j1] at h, fun _ _ r h => by simp [spec_wrNumber.j3] at h, fun _ _ _ r h => by simp [spec_wrNumber.j4] at h, fun _ _ r h => by simp [spec_wrNumber.l0] at h⟩
  | k + 1 => by
    obtain ⟨ih0, ih1, ih2, ih3, ih4⟩ := spec_wrNumber.mono_l k
    refine ⟨?_, ?_, ?_, ?_, ?_⟩
    · intro y0 y1
      unfold spec_wrNumber.j0
      repeat' first
      | (with_reducible exact ih0 _ _)
      | (with_reducible exact ih1 _)
      | (with_reducible exact ih2 _ _)
      | (with_reducible exact ih3 _ _ _)
      | (with_reducible exact ih4 _ _)
      | (with_reducible exact spec_wrDigits.mono _ _ _ _)
      | (with_reducible exact LeO.refl _)
      | (with_reducible exact LeO.none _)
      | (with_reducible refine LeO.ite ?_ ?_)
      | (with_reducible refine LeO.bind ?_ (fun _ => ?_))
      | exact ih0 _ _
      | exact ih1 _
      | exact ih2 _ _
      | exact ih3 _ _ _
      | exact ih4 _ _
      | exact spec_wrDigits.mono _ _ _ _
      | exact LeO.none _
      | refine LeO.ite ?_ ?_
      | refine LeO.bind ?_ (fun _ => ?_)
    · intro y0
      unfold spec_wrNumber.j1
      repeat' first
      | (with_reducible exact ih0 _ _)
      | (with_reducible exact ih1 _)
      | (with_reducible exact ih2 _ _)
      | (with_reducible exact ih3 _ _ _)
      | (with_reducible exact ih4 _ _)
      | (with_reducible exact spec_wrDigits.mono _ _ _ _)
      | (with_reducible exact LeO.refl _)
      | (with_reducible exact LeO.none _)
      | (with_reducible refine LeO.ite ?_ ?_)
      | (with_reducible refine LeO.bind ?_ (fun _ => ?_))
      | exact ih0 _ _
      | exact ih1 _
      | exact ih2 _ _
      | exact ih3 _ _ _
      | exact ih4 _ _
      | exact spec_wrDigits.mono _ _ _ _
      | exact LeO.none _
      | refine LeO.ite ?_ ?_
      | refine LeO.bind ?_ (fun _ => ?_)
    · intro y0 y1
      unfold spec_wrNumber.j3
      repeat' first
      | (with_reducible exact ih0 _ _)
      | (with_reducible exact ih1 _)
      | (with_reducible exact ih2 _ _)
      | (with_reducible exact ih3 _ _ _)
      | (with_reducible exact ih4 _ _)
      | (with_reducible exact spec_wrDigits.mono _ _ _ _)
      | (with_reducible exact LeO.refl _)
      | (with_reducible exact LeO.none _)
      | (with_reducible refine LeO.ite ?_ ?_)
      | (with_reducible refine LeO.bind ?_ (fun _ => ?_))
      | exact ih0 _ _
      | exact ih1 _
      | exact ih2 _ _
      | exact ih3 _ _ _
      | exact ih4 _ _
      | exact spec_wrDigits.mono _ _ _ _
      | exact LeO.none _
      | refine LeO.ite ?_ ?_
      | refine LeO.bind ?_ (fun _ => ?_)
    · intro y0 y1 y2
      unfold spec_wrNumber.j4
      repeat' first
      | (with_reducible exact ih0 _ _)
      | (with_reducible exact ih1 _)
      | (with_reducible exact ih2 _ _)
      | (with_reducible exact ih3 _ _ _)
      | (with_reducible exact ih4 _ _)
      | (with_reducible exact spec_wrDigits.mono _ _ _ _)
      | (with_reducible exact LeO.refl _)
      | (with_reducible exact LeO.none _)
      | (with_reducible refine LeO.ite ?_ ?_)
      | (with_reducible refine LeO.bind ?_ (fun _ => ?_))
      | exact ih0 _ _
      | exact ih1 _
      | exact ih2 _ _
      | exact ih3 _ _ _
      | exact ih4 _ _
      | exact spec_wrDigits.mono _ _ _ _
      | exact LeO.none _
      | refine LeO.ite ?_ ?_
      | refine LeO.bind ?_ (fun _ => ?_)
    · intro y0 y1
      unfold spec_wrNumber.l0
      repeat' first
      | (with_reducible exact ih0 _ _)
      | (with_reducible exact ih1 _)
      | (with_reducible exact ih2 _ _)
      | (with_reducible exact ih3 _ _ _)
      | (with_reducible exact ih4 _ _)
      | (with_reducible exact spec_wrDigits.mono _ _ _ _)
      | (with_reducible exact LeO.refl _)
      | (with_reducible exact LeO.none _)
      | (with_reducible refine LeO.ite ?_ ?_)
      | (with_reducible refine LeO.bind ?_ (fun _ => ?_))
      | exact ih0 _ _
      | exact ih1 _
      | exact ih2 _ _
      | exact ih3 _ _ _
      | exact ih4 _ _
      | exact spec_wrDigits.mono _ _ _ _
      | exact LeO.none _
      | refine LeO.ite ?_ ?_
      | refine LeO.bind ?_ (fun _ => ?_)
theorem spec_wrNumber.mono : ∀ a0 k, LeO (spec_wrNumber.f k a0) (spec_wrNumber.f (k + 1) a0) := by
  intro a0 k
  obtain ⟨ih0, ih1, ih2, ih3, ih4⟩ := spec_wrNumber.mono_l k
  unfold spec_wrNumber.f
  repeat' first
      | (with_reducible exact ih0 _ _)
      | (with_reducible exact ih1 _)
      | (with_reducible exact ih2 _ _)
      | (with_reducible exact ih3 _ _ _)
      | (with_reducible exact ih4 _ _)
      | (with_reducible exact spec_wrDigits.mono _ _ _ _)
      | (with_reducible exact LeO.refl _)
      | (with_reducible exact LeO.none _)
      | (with_reducible refine LeO.ite ?_ ?_)
      | (with_reducible refine LeO.bind ?_ (fun _ => ?_))
      | exact ih0 _ _
      | exact ih1 _
      | exact ih2 _ _
      | exact ih3 _ _ _
      | exact ih4 _ _
      | exact spec_wrDigits.mono _ _ _ _
      | exact LeO.none _
      | refine LeO.ite ?_ ?_
      | refine LeO.bind ?_ (fun _ => ?_)
set_option maxHeartbeats 8000000 in
set_option maxRecDepth 100000 in
theorem spec_wrNumber.calls (k : Nat) (a0 : ByteArray) (r : Int) (w : World) (h : spec_wrNumber.f k a0 = some r) :
    Calls Tryz.prog 78 #[.string a0] w fun e w' => e = .returned (.int .i64 r) ∧ Drawn0 w w' := by
  have H : (if a0.toList = ([] : List UInt8) then (spec_wrNumber.j0 k a0 false) else (if 0 < (a0.size : Int) then (if (bt a0 0) = 45 then (spec_wrNumber.j0 k a0 true) else (spec_wrNumber.j0 k a0 ((bt a0 0) == 43))) else (none))) = some r := h
  clear h
  have HC2 := Aside0.mk H
  clear H
  go_enter Tryz.func78, Tryz.ntmps78
  go_upto_region 1 with (fail)
  go_cut [16] (fun v16 wc => ∃ (kq : Nat) (x16_1 : Bool), v16 = .bool x16_1 ∧ Aside0 (spec_wrNumber.j0 kq a0 x16_1 = some r) ∧ Aside0 (kq ≤ k) ∧ Drawn0 w wc)
  case first =>
    have H := HC2.out
    clear HC2
    by_cases c3 : a0.toList = ([] : List UInt8)
    · rw [if_pos c3] at H
      have c3b0 : (a0.toList == ([] : List UInt8)) = true := beq_iff_eq.mpr c3
      have c3b1 : (a0.toList != ([] : List UInt8)) = false := bne_eq_false_iff_eq.mpr c3
      clear c3
      (first | rw [c3b0] | (simp only [i64_w, i32_w]; rw [c3b0]) | skip)
      have H' := Aside0.mk H
      clear H
      go_wp2
      go_meet
      case rel => exact ⟨_, (false), (by first | rfl | (simp; done) | (simp [*]; done)), H', ⟨by first | omega | exact Nat.le_refl _⟩, by repeat (first | exact Drawn0.refl _ | apply Drawn0.step)⟩
    · rw [if_neg c3] at H
      have c3b0 : (a0.toList == ([] : List UInt8)) = false := beq_eq_false_iff_ne.mpr c3
      have c3b1 : (a0.toList != ([] : List UInt8)) = true := bne_iff_ne.mpr c3
      (first | rw [c3b0] | (simp only [i64_w, i32_w]; rw [c3b0]) | skip)
      by_cases c4 : 0 < (a0.size : Int)
      · rw [if_pos c4] at H
        have c4b0 : decide (0 < (a0.size : Int)) = true := decide_eq_true c4
        have c4b1 : decide (0 < a0.size) = true := decide_eq_true (by omega)
        clear c4
        by_cases c6 : (bt a0 0) = 45
        · rw [if_pos c6] at H
          have c6b0 : ((bt a0 0) == 45) = true := beq_iff_eq.mpr c6
          have c6b1 : ((bt a0 0) != 45) = false := bne_eq_false_iff_eq.mpr c6
          clear c6
          have H' := Aside0.mk H
          clear H
          have p5 : 0 ≤ (0 : Int) := (by omega)
          have q5 : 0 < a0.size := (by have : (0 : Int) < (a0.size : Int) := of_decide_eq_true (by first | (with_reducible assumption) | assumption); omega)
          have hx5 : ∀ h : 0 < a0.size, ((a0[0]'h).toNat : Int) = bt a0 0 := bt_at a0 0
          clear p5
          have qi5 : (0 < (a0.size : Int)) = True := eq_true (of_decide_eq_true (by first | (with_reducible assumption) | assumption))
          replace q5 := eq_true q5
          go_wp2
          go_meet
          case rel => exact ⟨_, (true), (by first | rfl | (simp; done) | (simp [*]; done)), H', ⟨by first | omega | exact Nat.le_refl _⟩, by repeat (first | exact Drawn0.refl _ | apply Drawn0.step)⟩
        · rw [if_neg c6] at H
          have c6b0 : ((bt a0 0) == 45) = false := beq_eq_false_iff_ne.mpr c6
          have c6b1 : ((bt a0 0) != 45) = true := bne_iff_ne.mpr c6
          have H' := Aside0.mk H
          clear H
          have p5 : 0 ≤ (0 : Int) := (by omega)
          have q5 : 0 < a0.size := (by have : (0 : Int) < (a0.size : Int) := of_decide_eq_true (by first | (with_reducible assumption) | assumption); omega)
          have hx5 : ∀ h : 0 < a0.size, ((a0[0]'h).toNat : Int) = bt a0 0 := bt_at a0 0
          clear p5
          have qi5 : (0 < (a0.size : Int)) = True := eq_true (of_decide_eq_true (by first | (with_reducible assumption) | assumption))
          replace q5 := eq_true q5
          have p7 : 0 ≤ (0 : Int) := (by omega)
          have q7 : 0 < a0.size := (by have : (0 : Int) < (a0.size : Int) := of_decide_eq_true (by first | (with_reducible assumption) | assumption); omega)
          have hx7 : ∀ h : 0 < a0.size, ((a0[0]'h).toNat : Int) = bt a0 0 := bt_at a0 0
          clear p7
          have qi7 : (0 < (a0.size : Int)) = True := eq_true (of_decide_eq_true (by first | (with_reducible assumption) | assumption))
          replace q7 := eq_true q7
          go_wp2
          go_meet
          case rel => exact ⟨_, (((bt a0 0) == 43)), (by first | rfl | (simp; done) | (simp [*]; done)), H', ⟨by first | omega | exact Nat.le_refl _⟩, by repeat (first | exact Drawn0.refl _ | apply Drawn0.step)⟩
      · rw [if_neg c4] at H
        exact absurd H (by simp)
  case rest =>
    clear HC2
    try clear p2
    try clear c3
    try clear c3b0
    try clear c3b1
    try clear c4
    try clear c4b0
    try clear c4b1
    try clear p5
    try clear q5
    try clear hx5
    try clear qi5
    try clear c6
    try clear c6b0
    try clear c6b1
    try clear c7
    try clear p7
    try clear q7
    try clear hx7
    try clear qi7
    try clear p5
    try clear p7
    try clear q5
    try clear q7
    obtain ⟨kq, x16_1, rfl, HA, HJ1, ⟨mc1, rfl⟩⟩ := hcut
    cases kq with
    | zero => exact absurd HA.out (by simp [spec_wrNumber.j0])
    | succ kj1 =>
      have H := HA.out
      clear HA
      simp only [spec_wrNumber.j0] at H
      have HC8 := Aside0.mk H
      clear H
      go_upto_if 16 with (fail)
      go_cut [0] (fun v0 wc => ∃ (kq : Nat) (x0_7 : ByteArray), v0 = .string x0_7 ∧ Aside0 (spec_wrNumber.j1 kq x0_7 = some r) ∧ Aside0 (kq ≤ kj1) ∧ Drawn0 w wc)
      case first =>
        have H := HC8.out
        clear HC8
        by_cases c9 : x16_1 = true
        · subst c9
          have H1 : (if 1 ≤ (a0.size : Int) then (spec_wrNumber.j1 kj1 (a0.extract 1 a0.size)) else (none)) = some r := by rw [if_pos rfl] at H; exact H
          clear H
          have H := H1
          clear H1
          by_cases c10 : 1 ≤ (a0.size : Int)
          · rw [if_pos c10] at H
            have c10b0 := eq_true c10
            have c10b1 : decide (1 ≤ (a0.size : Int)) = true := decide_eq_true c10
            clear c10
            have H' := Aside0.mk H
            clear H
            go_wp2
            go_meet
            case rel => exact ⟨_, (a0.extract 1 a0.size), (by first | rfl | (simp; done) | (simp [*]; done)), H', ⟨by have := HJ1.out; first | omega | exact Nat.le_refl _⟩, by repeat (first | exact Drawn0.refl _ | apply Drawn0.step)⟩
          · rw [if_neg c10] at H
            exact absurd H (by simp)
        · replace c9 := Bool.eq_false_iff.mpr c9
          subst c9
          have H1 : (spec_wrNumber.j1 kj1 a0) = some r := by rw [if_neg (show ¬ (false = true) by decide)] at H; exact H
          clear H
          have H := H1
          clear H1
          have H' := Aside0.mk H
          clear H
          go_wp2
          go_meet
          case rel => exact ⟨_, (a0), (by first | rfl | (simp; done) | (simp [*]; done)), H', ⟨by have := HJ1.out; first | omega | exact Nat.le_refl _⟩, by repeat (first | exact Drawn0.refl _ | apply Drawn0.step)⟩
      case rest =>
        clear HC8
        try clear c1
        try clear p2
        try clear c3
        try clear c3b0
        try clear c3b1
        try clear c4
        try clear c4b0
        try clear c4b1
        try clear p5
        try clear q5
        try clear hx5
        try clear qi5
        try clear c6
        try clear c6b0
        try clear c6b1
        try clear c7
        try clear p7
        try clear q7
        try clear hx7
        try clear qi7
        try clear c9
        try clear c10
        try clear c10b0
        try clear c10b1
        try clear p2
        try clear p5
        try clear p7
        try clear q5
        try clear q7
        obtain ⟨kq, x0_7, rfl, HA, HJ7, ⟨mc7, rfl⟩⟩ := hcut
        cases kq with
        | zero => exact absurd HA.out (by simp [spec_wrNumber.j1])
        | succ kj7 =>
          have H := HA.out
          clear HA
          simp only [spec_wrNumber.j1] at H
          have HC11 := Aside0.mk H
          clear H
          go_upto_block 0 with (fail)
          go_cut [3] (fun v3 wc => ∃ (kq : Nat) (x3_10 : Int), v3 = .int .i64 x3_10 ∧ Aside0 (spec_wrNumber.j3 kq x0_7 x3_10 = some r) ∧ Aside0 (kq ≤ kj7) ∧ Drawn0 w wc)
          case first =>
            have H := HC11.out
            clear HC11
            have H' := Aside0.mk H
            clear H
            go_wp2
            go_loopg [3] kj7 (fun kq v3 w' => ∃ (x3_3 : Int), v3 = .int .i64 x3_3 ∧ Aside0 (spec_wrNumber.l0 kq x0_7 x3_3 = some r) ∧ Aside0 (kq ≤ kj7) ∧ Drawn0 w w')
            case atStart => exact ⟨(0), (by first | rfl | (simp; done) | (simp [*]; done)), H', ⟨Nat.le_refl _⟩, by repeat (first | exact Drawn0.refl _ | apply Drawn0.step)⟩
            case round =>
              clear H'
              try clear c1
              try clear p2
              try clear c3
              try clear c3b0
              try clear c3b1
              try clear c4
              try clear c4b0
              try clear c4b1
              try clear p5
              try clear q5
              try clear hx5
              try clear qi5
              try clear c6
              try clear c6b0
              try clear c6b1
              try clear c7
              try clear p7
              try clear q7
              try clear hx7
              try clear qi7
              try clear c9
              try clear c10
              try clear c10b0
              try clear c10b1
              try clear p2
              try clear p5
              try clear p7
              try clear q5
              try clear q7
              obtain ⟨x3_3, rfl, HA, HK3, ⟨m3, rfl⟩⟩ := hrel
              cases gk with
              | zero => exact absurd HA.out (by simp [spec_wrNumber.l0])
              | succ k3 =>
                have H := HA.out
                clear HA
                simp only [spec_wrNumber.l0] at H
                by_cases c12 : x3_3 < (x0_7.size : Int)
                · rw [if_pos c12] at H
                  have c12b0 : decide (x3_3 < (x0_7.size : Int)) = true := decide_eq_true c12
                  clear c12
                  (first | rw [c12b0] | (simp only [i64_w, i32_w]; rw [c12b0]) | skip)
                  by_cases c13 : 0 ≤ x3_3
                  · rw [if_pos c13] at H
                    have c13b0 : decide (0 ≤ x3_3) = true := decide_eq_true c13
                    clear c13
                    by_cases c15 : (bt x0_7 x3_3) = 46
                    · rw [if_pos c15] at H
                      have c15b0 : ((bt x0_7 x3_3) == 46) = true := beq_iff_eq.mpr c15
                      have c15b1 : ((bt x0_7 x3_3) != 46) = false := bne_eq_false_iff_eq.mpr c15
                      clear c15
                      have H' := Aside0.mk H
                      clear H
                      have p14 : 0 ≤ (x3_3 : Int) := of_decide_eq_true (by first | (with_reducible assumption) | assumption)
                      have q14 : x3_3 < (x0_7.size : Int) := of_decide_eq_true (by first | (with_reducible assumption) | assumption)
                      have hx14 := bt_at x0_7 x3_3
                      replace p14 := eq_true p14
                      replace q14 := eq_true q14
                      go_wp2
                      go_meet
                      case rel => exact ⟨_, (x3_3), (by first | rfl | (simp; done) | (simp [*]; done)), H', ⟨by have := HJ1.out; have := HJ7.out; have := HK3.out; first | omega | exact Nat.le_refl _⟩, by repeat (first | exact Drawn0.refl _ | apply Drawn0.step)⟩
                    · rw [if_neg c15] at H
                      have c15b0 : ((bt x0_7 x3_3) == 46) = false := beq_eq_false_iff_ne.mpr c15
                      have c15b1 : ((bt x0_7 x3_3) != 46) = true := bne_iff_ne.mpr c15
                      have H' := Aside0.mk H
                      clear H
                      have p14 : 0 ≤ (x3_3 : Int) := of_decide_eq_true (by first | (with_reducible assumption) | assumption)
                      have q14 : x3_3 < (x0_7.size : Int) := of_decide_eq_true (by first | (with_reducible assumption) | assumption)
                      have hx14 := bt_at x0_7 x3_3
                      replace p14 := eq_true p14
                      replace q14 := eq_true q14
                      go_wp2
                      go_roundg k3
                      case measure => have := HJ1.out; have := HJ7.out; have := HK3.out; omega
                      case rel => exact ⟨(wrap64 (x3_3 + 1)), (by first | rfl | (simp; done) | (simp [*]; done)), H', ⟨by have := HJ1.out; have := HJ7.out; have := HK3.out; omega⟩, by repeat (first | exact Drawn0.refl _ | apply Drawn0.step)⟩
                  · rw [if_neg c13] at H
                    exact absurd H (by simp)
                · rw [if_neg c12] at H
                  have c12b0 : decide (x3_3 < (x0_7.size : Int)) = false := decide_eq_false c12
                  clear c12
                  (first | rw [c12b0] | (simp only [i64_w, i32_w]; rw [c12b0]) | skip)
                  have H' := Aside0.mk H
                  clear H
                  go_wp2
                  go_meet
                  case rel => exact ⟨_, (x3_3), (by first | rfl | (simp; done) | (simp [*]; done)), H', ⟨by have := HJ1.out; have := HJ7.out; have := HK3.out; first | omega | exact Nat.le_refl _⟩, by repeat (first | exact Drawn0.refl _ | apply Drawn0.step)⟩
          case rest =>
            clear HC11
            try clear c1
            try clear p1
            try clear q1
            try clear hx1
            try clear p2
            try clear c3
            try clear c3b0
            try clear c3b1
            try clear c4
            try clear c4b0
            try clear c4b1
            try clear p5
            try clear q5
            try clear hx5
            try clear qi5
            try clear c6
            try clear c6b0
            try clear c6b1
            try clear p6
            try clear c7
            try clear p7
            try clear q7
            try clear hx7
            try clear qi7
            try clear c9
            try clear c10
            try clear c10b0
            try clear c10b1
            try clear c12
            try clear c12b0
            try clear c13
            try clear c13b0
            try clear p14
            try clear q14
            try clear hx14
            try clear c15
            try clear c15b0
            try clear c15b1
            try clear p14
            try clear p2
            try clear p5
            try clear p7
            try clear q14
            try clear q5
            try clear q7
            obtain ⟨kq, x3_10, rfl, HA, HJ10, ⟨mc10, rfl⟩⟩ := hcut
            cases kq with
            | zero => exact absurd HA.out (by simp [spec_wrNumber.j3])
            | succ kj10 =>
              have H := HA.out
              clear HA
              simp only [spec_wrNumber.j3] at H
              by_cases c16 : 0 ≤ x3_10
              · rw [if_pos c16] at H
                have c16b0 := eq_true c16
                have c16b1 : decide (0 ≤ x3_10) = true := decide_eq_true c16
                clear c16
                by_cases c17 : x3_10 ≤ (x0_7.size : Int)
                · rw [if_pos c17] at H
                  have c17b0 := eq_true c17
                  have c17b1 : decide (x3_10 ≤ (x0_7.size : Int)) = true := decide_eq_true c17
                  clear c17
                  have HC18 := Aside0.mk H
                  clear H
                  go_upto_region 7 with (fail)
                  go_cut [46] (fun v46 wc => ∃ (kq : Nat) (x46_17 : Bool), v46 = .bool x46_17 ∧ Aside0 (spec_wrNumber.j4 kq x0_7 x3_10 x46_17 = some r) ∧ Aside0 (kq ≤ kj10) ∧ Drawn0 w wc)
                  case first =>
                    have H := HC18.out
                    clear HC18
                    replace H := Option.bind_eq_some_iff.mp H
                    obtain ⟨t164, A190, H⟩ := H
                    replace H : (if t164 = true then (if 0 < ((x0_7.extract 0 (x3_10 : Int).toNat).size : Int) then (if (bt (x0_7.extract 0 (x3_10 : Int).toNat) 0) = 48 then (spec_wrNumber.j4 kj10 x0_7 x3_10 (decide (((x0_7.extract 0 (x3_10 : Int).toNat).size : Int) > 1))) else (spec_wrNumber.j4 kj10 x0_7 x3_10 false)) else (none)) else (spec_wrNumber.j4 kj10 x0_7 x3_10 true)) = some r := H
                    have A19 := Aside0.mk A190
                    clear A190
                    by_cases c20 : t164 = true
                    · subst c20
                      have H1 : (if 0 < ((x0_7.extract 0 (x3_10 : Int).toNat).size : Int) then (if (bt (x0_7.extract 0 (x3_10 : Int).toNat) 0) = 48 then (spec_wrNumber.j4 kj10 x0_7 x3_10 (decide (((x0_7.extract 0 (x3_10 : Int).toNat).size : Int) > 1))) else (spec_wrNumber.j4 kj10 x0_7 x3_10 false)) else (none)) = some r := by rw [if_pos rfl] at H; exact H
                      clear H
                      have H := H1
                      clear H1
                      by_cases c21 : 0 < ((x0_7.extract 0 (x3_10 : Int).toNat).size : Int)
                      · rw [if_pos c21] at H
                        have c21b0 : decide (0 < ((x0_7.extract 0 (x3_10 : Int).toNat).size : Int)) = true := decide_eq_true c21
                        have c21b1 : decide (0 < (x0_7.extract 0 (x3_10 : Int).toNat).size) = true := decide_eq_true (by omega)
                        clear c21
                        (first | rw [c21b0] | (simp only [i64_w, i32_w]; rw [c21b0]) | skip)
                        by_cases c23 : (bt (x0_7.extract 0 (x3_10 : Int).toNat) 0) = 48
                        · rw [if_pos c23] at H
                          have c23b0 : ((bt (x0_7.extract 0 (x3_10 : Int).toNat) 0) == 48) = true := beq_iff_eq.mpr c23
                          have c23b1 : ((bt (x0_7.extract 0 (x3_10 : Int).toNat) 0) != 48) = false := bne_eq_false_iff_eq.mpr c23
                          clear c23
                          have H' := Aside0.mk H
                          clear H
                          go_wp2_with (first | ((with_reducible refine gate_callee (f := 98) rfl ?_); refine goesL_ (some 35) rfl rfl Tryz.func98 (by kernel_rfl) rfl #[.string (x0_7.extract 0 (x3_10 : Int).toNat), .int .i64 1, .int .i64 18] rfl (by (try simp only [List.map_toArray, List.map_cons, List.map_nil]); first | done | rfl | (simp only [List.length_drop, List.length_take]; rfl)) ?_; (with_reducible refine (spec_wrDigits.calls kj10 (x0_7.extract 0 (x3_10 : Int).toNat) 1 18 true _ A19.out).mono ?_); rintro e w' ⟨rfl, ⟨nd, rfl⟩⟩; refine ⟨_, rfl, ?_⟩; have p22 : 0 ≤ (0 : Int) := (by omega); have q22 : 0 < (x0_7.extract 0 (x3_10 : Int).toNat).size := (by have : (0 : Int) < ((x0_7.extract 0 (x3_10 : Int).toNat).size : Int) := of_decide_eq_true (by first | (with_reducible assumption) | assumption); omega); have hx22 : ∀ h : 0 < (x0_7.extract 0 (x3_10 : Int).toNat).size, (((x0_7.extract 0 (x3_10 : Int).toNat)[0]'h).toNat : Int) = bt (x0_7.extract 0 (x3_10 : Int).toNat) 0 := bt_at (x0_7.extract 0 (x3_10 : Int).toNat) 0; clear p22; have qi22 : (0 < ((x0_7.extract 0 (x3_10 : Int).toNat).size : Int)) = True := eq_true (of_decide_eq_true (by first | (with_reducible assumption) | assumption)); replace q22 := eq_true q22))
                          go_meet
                          case rel => exact ⟨_, (decide (((x0_7.extract 0 (x3_10 : Int).toNat).size : Int) > 1)), (by first | rfl | (simp; done) | (simp [*]; done)), H', ⟨by have := HJ1.out; have := HJ7.out; have := HJ10.out; first | omega | exact Nat.le_refl _⟩, by repeat (first | exact Drawn0.refl _ | apply Drawn0.step)⟩
                          case isFalse hz => have hy := of_eq_true q22; rw [ByteArray.size_extract] at hy; exfalso; omega
                        · rw [if_neg c23] at H
                          have c23b0 : ((bt (x0_7.extract 0 (x3_10 : Int).toNat) 0) == 48) = false := beq_eq_false_iff_ne.mpr c23
                          have c23b1 : ((bt (x0_7.extract 0 (x3_10 : Int).toNat) 0) != 48) = true := bne_iff_ne.mpr c23
                          have H' := Aside0.mk H
                          clear H
                          go_wp2_with (first | ((with_reducible refine gate_callee (f := 98) rfl ?_); refine goesL_ (some 35) rfl rfl Tryz.func98 (by kernel_rfl) rfl #[.string (x0_7.extract 0 (x3_10 : Int).toNat), .int .i64 1, .int .i64 18] rfl (by (try simp only [List.map_toArray, List.map_cons, List.map_nil]); first | done | rfl | (simp only [List.length_drop, List.length_take]; rfl)) ?_; (with_reducible refine (spec_wrDigits.calls kj10 (x0_7.extract 0 (x3_10 : Int).toNat) 1 18 true _ A19.out).mono ?_); rintro e w' ⟨rfl, ⟨nd, rfl⟩⟩; refine ⟨_, rfl, ?_⟩; have p22 : 0 ≤ (0 : Int) := (by omega); have q22 : 0 < (x0_7.extract 0 (x3_10 : Int).toNat).size := (by have : (0 : Int) < ((x0_7.extract 0 (x3_10 : Int).toNat).size : Int) := of_decide_eq_true (by first | (with_reducible assumption) | assumption); omega); have hx22 : ∀ h : 0 < (x0_7.extract 0 (x3_10 : Int).toNat).size, (((x0_7.extract 0 (x3_10 : Int).toNat)[0]'h).toNat : Int) = bt (x0_7.extract 0 (x3_10 : Int).toNat) 0 := bt_at (x0_7.extract 0 (x3_10 : Int).toNat) 0; clear p22; have qi22 : (0 < ((x0_7.extract 0 (x3_10 : Int).toNat).size : Int)) = True := eq_true (of_decide_eq_true (by first | (with_reducible assumption) | assumption)); replace q22 := eq_true q22))
                          go_meet
                          case rel => exact ⟨_, (false), (by first | rfl | (simp; done) | (simp [*]; done)), H', ⟨by have := HJ1.out; have := HJ7.out; have := HJ10.out; first | omega | exact Nat.le_refl _⟩, by repeat (first | exact Drawn0.refl _ | apply Drawn0.step)⟩
                          case isFalse hz => have hy := of_eq_true q22; rw [ByteArray.size_extract] at hy; exfalso; omega
                      · rw [if_neg c21] at H
                        exact absurd H (by simp)
                    · replace c20 := Bool.eq_false_iff.mpr c20
                      subst c20
                      have H1 : (spec_wrNumber.j4 kj10 x0_7 x3_10 true) = some r := by rw [if_neg (show ¬ (false = true) by decide)] at H; exact H
                      clear H
                      have H := H1
                      clear H1
                      have H' := Aside0.mk H
                      clear H
                      go_wp2_with (first | ((with_reducible refine gate_callee (f := 98) rfl ?_); refine goesL_ (some 35) rfl rfl Tryz.func98 (by kernel_rfl) rfl #[.string (x0_7.extract 0 (x3_10 : Int).toNat), .int .i64 1, .int .i64 18] rfl (by (try simp only [List.map_toArray, List.map_cons, List.map_nil]); first | done | rfl | (simp only [List.length_drop, List.length_take]; rfl)) ?_; (with_reducible refine (spec_wrDigits.calls kj10 (x0_7.extract 0 (x3_10 : Int).toNat) 1 18 false _ A19.out).mono ?_); rintro e w' ⟨rfl, ⟨nd, rfl⟩⟩; refine ⟨_, rfl, ?_⟩))
                      go_meet
                      case rel => exact ⟨_, (true), (by first | rfl | (simp; done) | (simp [*]; done)), H', ⟨by have := HJ1.out; have := HJ7.out; have := HJ10.out; first | omega | exact Nat.le_refl _⟩, by repeat (first | exact Drawn0.refl _ | apply Drawn0.step)⟩
                  case rest =>
                    clear HC18
                    try clear c1
                    try clear p1
                    try clear q1
                    try clear hx1
                    try clear c2
                    try clear p2
                    try clear q2
                    try clear hx2
                    try clear qi2
                    try clear c3
                    try clear c3b0
                    try clear c3b1
                    try clear c4
                    try clear c4b0
                    try clear c4b1
                    try clear p5
                    try clear q5
                    try clear hx5
                    try clear qi5
                    try clear c6
                    try clear c6b0
                    try clear c6b1
                    try clear p6
                    try clear c7
                    try clear p7
                    try clear q7
                    try clear hx7
                    try clear qi7
                    try clear c9
                    try clear c10
                    try clear c10b0
                    try clear c10b1
                    try clear c12
                    try clear c12b0
                    try clear c13
                    try clear c13b0
                    try clear p14
                    try clear q14
                    try clear hx14
                    try clear c15
                    try clear c15b0
                    try clear c15b1
                    try clear c16
                    try clear c16b0
                    try clear c16b1
                    try clear c17
                    try clear c17b0
                    try clear c17b1
                    try clear c20
                    try clear c21
                    try clear c21b0
                    try clear c21b1
                    try clear p22
                    try clear q22
                    try clear hx22
                    try clear qi22
                    try clear c23
                    try clear c23b0
                    try clear c23b1
                    try clear p1
                    try clear p14
                    try clear p2
                    try clear p22
                    try clear p5
                    try clear p6
                    try clear p7
                    try clear q1
                    try clear q14
                    try clear q22
                    try clear q5
                    try clear q7
                    obtain ⟨kq, x46_17, rfl, HA, HJ17, ⟨mc17, rfl⟩⟩ := hcut
                    cases kq with
                    | zero => exact absurd HA.out (by simp [spec_wrNumber.j4])
                    | succ kj17 =>
                      have H := HA.out
                      clear HA
                      simp only [spec_wrNumber.j4] at H
                      by_cases c24 : x46_17 = true
                      · subst c24
                        have H1 : (some 0) = some r := by rw [if_pos rfl] at H; exact H
                        clear H
                        have H := H1
                        clear H1
                        obtain rfl := Option.some.inj H
                        go_wp2
                        go_ret
                        exact ⟨by first | rfl | (simp; done) | (simp [*]; done), by repeat (first | exact Drawn0.refl _ | apply Drawn0.step)⟩
                      · replace c24 := Bool.eq_false_iff.mpr c24
                        subst c24
                        have H1 : (if x3_10 = (x0_7.size : Int) then (some 3) else (if 0 ≤ (wrap64 (x3_10 + 1)) then (if (wrap64 (x3_10 + 1)) ≤ (x0_7.size : Int) then ((spec_wrDigits.f kj17 (x0_7.extract ((wrap64 (x3_10 + 1)) : Int).toNat x0_7.size) 1 6).bind fun t165 => (if t165 = true then (some 4) else (some 0))) else (none)) else (none))) = some r := by rw [if_neg (show ¬ (false = true) by decide)] at H; exact H
                        clear H
                        have H := H1
                        clear H1
                        by_cases c25 : x3_10 = (x0_7.size : Int)
                        · rw [if_pos c25] at H
                          have c25b0 : (x3_10 == (x0_7.size : Int)) = true := beq_iff_eq.mpr c25
                          have c25b1 : (x3_10 != (x0_7.size : Int)) = false := bne_eq_false_iff_eq.mpr c25
                          clear c25
                          obtain rfl := Option.some.inj H
                          go_wp2
                          go_ret
                          exact ⟨by first | rfl | (simp; done) | (simp [*]; done), by repeat (first | exact Drawn0.refl _ | apply Drawn0.step)⟩
                        · rw [if_neg c25] at H
                          have c25b0 : (x3_10 == (x0_7.size : Int)) = false := beq_eq_false_iff_ne.mpr c25
                          have c25b1 : (x3_10 != (x0_7.size : Int)) = true := bne_iff_ne.mpr c25
                          obtain ⟨ji26, hji26⟩ : ∃ j_ : Int, (wrap64 (x3_10 + 1)) = j_ := ⟨_, rfl⟩
                          replace H : (if 0 ≤ (ji26) then (if (ji26) ≤ (x0_7.size : Int) then ((spec_wrDigits.f kj17 (x0_7.extract ((ji26) : Int).toNat x0_7.size) 1 6).bind fun t165 => (if t165 = true then (some 4) else (some 0))) else (none)) else (none)) = some r := by first | (rw [hji26] at H; exact H) | (simp only [hji26] at H ⊢; exact H)
                          have hji26w : (IntKind.i64.wrap (x3_10 + 1)) = ji26 := (i64_w _).trans hji26
                          by_cases c27 : 0 ≤ (ji26)
                          · rw [if_pos c27] at H
                            have c27b0 := eq_true c27
                            have c27b1 : decide (0 ≤ (ji26)) = true := decide_eq_true c27
                            clear c27
                            by_cases c28 : (ji26) ≤ (x0_7.size : Int)
                            · rw [if_pos c28] at H
                              have c28b0 := eq_true c28
                              have c28b1 : decide ((ji26) ≤ (x0_7.size : Int)) = true := decide_eq_true c28
                              clear c28
                              replace H := Option.bind_eq_some_iff.mp H
                              obtain ⟨t165, A290, H⟩ := H
                              replace H : (if t165 = true then (some 4) else (some 0)) = some r := H
                              have A29 := Aside0.mk A290
                              clear A290
                              by_cases c30 : t165 = true
                              · subst c30
                                have H1 : (some 4) = some r := by rw [if_pos rfl] at H; exact H
                                clear H
                                have H := H1
                                clear H1
                                obtain rfl := Option.some.inj H
                                go_wp2_with (first | ((with_reducible refine gate_callee (f := 98) rfl ?_); refine goesL_ (some 55) rfl rfl Tryz.func98 (by kernel_rfl) rfl #[.string (x0_7.extract ((ji26) : Int).toNat x0_7.size), .int .i64 1, .int .i64 6] rfl (by (try simp only [List.map_toArray, List.map_cons, List.map_nil]); first | done | (simp only [hji26]; rfl) | rfl | (simp only [List.length_drop, List.length_take]; rfl)) ?_; (with_reducible refine (spec_wrDigits.calls kj17 (x0_7.extract ((ji26) : Int).toNat x0_7.size) 1 6 true _ A29.out).mono ?_); rintro e w' ⟨rfl, ⟨nd, rfl⟩⟩; refine ⟨_, rfl, ?_⟩))
                                go_ret
                                exact ⟨by first | rfl | (simp; done) | (simp only [← hji26] <;> (first | rfl | simp)) | (simp [*]; done), by repeat (first | exact Drawn0.refl _ | apply Drawn0.step)⟩
                              · replace c30 := Bool.eq_false_iff.mpr c30
                                subst c30
                                have H1 : (some 0) = some r := by rw [if_neg (show ¬ (false = true) by decide)] at H; exact H
                                clear H
                                have H := H1
                                clear H1
                                obtain rfl := Option.some.inj H
                                go_wp2_with (first | ((with_reducible refine gate_callee (f := 98) rfl ?_); refine goesL_ (some 55) rfl rfl Tryz.func98 (by kernel_rfl) rfl #[.string (x0_7.extract ((ji26) : Int).toNat x0_7.size), .int .i64 1, .int .i64 6] rfl (by (try simp only [List.map_toArray, List.map_cons, List.map_nil]); first | done | (simp only [hji26]; rfl) | rfl | (simp only [List.length_drop, List.length_take]; rfl)) ?_; (with_reducible refine (spec_wrDigits.calls kj17 (x0_7.extract ((ji26) : Int).toNat x0_7.size) 1 6 false _ A29.out).mono ?_); rintro e w' ⟨rfl, ⟨nd, rfl⟩⟩; refine ⟨_, rfl, ?_⟩))
                                go_ret
                                exact ⟨by first | rfl | (simp; done) | (simp only [← hji26] <;> (first | rfl | simp)) | (simp [*]; done), by repeat (first | exact Drawn0.refl _ | apply Drawn0.step)⟩
                            · rw [if_neg c28] at H
                              exact absurd H (by simp)
                          · rw [if_neg c27] at H
                            exact absurd H (by simp)
                · rw [if_neg c17] at H
                  exact absurd H (by simp)
              · rw [if_neg c16] at H
                exact absurd H (by simp)

/-! ### spec_Known: function 29 -/
mutual
def spec_Known.j0 : Nat → ByteArray → ByteArray → Bool → Option (Int)
  | 0, _, _, _ => none
  | k + 1, x0, x3, x4 => if x4 = true then (some 1) else (if x3.toList = ([116, 114, 117, 101] : List UInt8) then (spec_Known.j1 k x0 x3 (x3.toList == ([116, 114, 117, 101] : List UInt8))) else (if x3.toList = ([84, 114, 117, 101] : List UInt8) then (spec_Known.j1 k x0 x3 (x3.toList == ([84, 114, 117, 101] : List UInt8))) else (if x3.toList = ([84, 82, 85, 69] : List UInt8) then (spec_Known.j1 k x0 x3 (x3.toList == ([84, 82, 85, 69] : List UInt8))) else (if x3.toList = ([102, 97, 108, 115, 101] : List UInt8) then (spec_Known.j1 k x0 x3 (x3.toList == ([102, 97, 108, 115, 101] : List UInt8))) else (if x3.toList = ([70, 97, 108, 115, 101] : List UInt8) then (spec_Known.j1 k x0 x3 (x3.toList == ([70, 97, 108, 115, 101] : List UInt8))) else (spec_Known.j1 k x0 x3 (x3.toList == ([70, 65, 76, 83, 69] : List UInt8))))))))
def spec_Known.j1 : Nat → ByteArray → ByteArray → Bool → Option (Int)
  | 0, _, _, _ => none
  | k + 1, x0, x3, x10 => if x10 = true then (some 2) else (if x3.toList = ([46, 105, 110, 102] : List UInt8) then (spec_Known.j2 k x0 x3 (x3.toList == ([46, 105, 110, 102] : List UInt8))) else (if x3.toList = ([46, 73, 110, 102] : List UInt8) then (spec_Known.j2 k x0 x3 (x3.toList == ([46, 73, 110, 102] : List UInt8))) else (if x3.toList = ([46, 73, 78, 70] : List UInt8) then (spec_Known.j2 k x0 x3 (x3.toList == ([46, 73, 78, 70] : List UInt8))) else (if x3.toList = ([45, 46, 105, 110, 102] : List UInt8) then (spec_Known.j2 k x0 x3 (x3.toList == ([45, 46, 105, 110, 102] : List UInt8))) else (if x3.toList = ([45, 46, 73, 110, 102] : List UInt8) then (spec_Known.j2 k x0 x3 (x3.toList == ([45, 46, 73, 110, 102] : List UInt8))) else (if x3.toList = ([45, 46, 73, 78, 70] : List UInt8) then (spec_Known.j2 k x0 x3 (x3.toList == ([45, 46, 73, 78, 70] : List UInt8))) else (if x3.toList = ([43, 46, 105, 110, 102] : List UInt8) then (spec_Known.j2 k x0 x3 (x3.toList == ([43, 46, 105, 110, 102] : List UInt8))) else (if x3.toList = ([43, 46, 73, 110, 102] : List UInt8) then (spec_Known.j2 k x0 x3 (x3.toList == ([43, 46, 73, 110, 102] : List UInt8))) else (spec_Known.j2 k x0 x3 (x3.toList == ([43, 46, 73, 78, 70] : List UInt8)))))))))))
def spec_Known.j2 : Nat → ByteArray → ByteArray → Bool → Option (Int)
  | 0, _, _, _ => none
  | k + 1, x0, x3, x17 => if x17 = true then (some 5) else (if x3.toList = ([46, 110, 97, 110] : List UInt8) then (some 6) else (if x3.toList = ([46, 78, 97, 78] : List UInt8) then (some 6) else (if x3.toList = ([46, 78, 65, 78] : List UInt8) then (some 6) else ((spec_wrNumber.f k x0).bind fun t166 => (some t166)))))
end
def spec_Known.f (k : Nat) (a0 : ByteArray) : Option (Int) := if a0.toList = ([] : List UInt8) then (spec_Known.j0 k a0 a0 (a0.toList == ([] : List UInt8))) else (if a0.toList = ([110, 117, 108, 108] : List UInt8) then (spec_Known.j0 k a0 a0 (a0.toList == ([110, 117, 108, 108] : List UInt8))) else (if a0.toList = ([78, 117, 108, 108] : List UInt8) then (spec_Known.j0 k a0 a0 (a0.toList == ([78, 117, 108, 108] : List UInt8))) else (if a0.toList = ([78, 85, 76, 76] : List UInt8) then (spec_Known.j0 k a0 a0 (a0.toList == ([78, 85, 76, 76] : List UInt8))) else (spec_Known.j0 k a0 a0 (a0.toList == ([126] : List UInt8))))))
theorem spec_Known.mono_l : ∀ k, (∀ y0 y1 y2, LeO (spec_Known.j0 k y0 y1 y2) (spec_Known.j0 (k + 1) y0 y1 y2)) ∧ (∀ y0 y1 y2, LeO (spec_Known.j1 k y0 y1 y2) (spec_Known.j1 (k + 1) y0 y1 y2)) ∧ (∀ y0 y1 y2, LeO (spec_Known.j2 k y0 y1 y2) (spec_Known.j2 (k + 1) y0 y1 y2))
  | 0 => ⟨fun _ _ _ r h => by simp [spec_Known.j0] at h, fun _ _ _ r h => by simp [spec_Known.j1] at h, fun _ _ _ r h => by simp [spec_Known.j2] at h⟩
  | k + 1 => by
    obtain ⟨ih0, ih1, ih2⟩ := spec_Known.mono_l k
    refine ⟨?_, ?_, ?_⟩
    · intro y0 y1 y2
      unfold spec_Known.j0
      repeat' first
      | (with_reducible exact ih0 _ _ _)
      | (with_reducible exact ih1 _ _ _)
      | (with_reducible exact ih2 _ _ _)
      | (with_reducible exact spec_wrNumber.mono _ _)
      | (with_reducible exact LeO.refl _)
      | (with_reducible exact LeO.none _)
      | (with_reducible refine LeO.ite ?_ ?_)
      | (with_reducible refine LeO.bind ?_ (fun _ => ?_))
      | exact ih0 _ _ _
      | exact ih1 _ _ _
      | exact ih2 _ _ _
      | exact spec_wrNumber.mono _ _
      | exact LeO.none _
      | refine LeO.ite ?_ ?_
      | refine LeO.bind ?_ (fun _ => ?_)
    · intro y0 y1 y2
      unfold spec_Known.j1
      repeat' first
      | (with_reducible exact ih0 _ _ _)
      | (with_reducible exact ih1 _ _ _)
      | (with_reducible exact ih2 _ _ _)
      | (with_reducible exact spec_wrNumber.mono _ _)
      | (with_reducible exact LeO.refl _)
      | (with_reducible exact LeO.none _)
      | (with_reducible refine LeO.ite ?_ ?_)
      | (with_reducible refine LeO.bind ?_ (fun _ => ?_))
      | exact ih0 _ _ _
      | exact ih1 _ _ _
      | exact ih2 _ _ _
      | exact spec_wrNumber.mono _ _
      | exact LeO.none _
      | refine LeO.ite ?_ ?_
      | refine LeO.bind ?_ (fun _ => ?_)
    · intro y0 y1 y2
      unfold spec_Known.j2
      repeat' first
      | (with_reducible exact ih0 _ _ _)
      | (with_reducible exact ih1 _ _ _)
      | (with_reducible exact ih2 _ _ _)
      | (with_reducible exact spec_wrNumber.mono _ _)
      | (with_reducible exact LeO.refl _)
      | (with_reducible exact LeO.none _)
      | (with_reducible refine LeO.ite ?_ ?_)
      | (with_reducible refine LeO.bind ?_ (fun _ => ?_))
      | exact ih0 _ _ _
      | exact ih1 _ _ _
      | exact ih2 _ _ _
      | exact spec_wrNumber.mono _ _
      | exact LeO.none _
      | refine LeO.ite ?_ ?_
      | refine LeO.bind ?_ (fun _ => ?_)
theorem spec_Known.mono : ∀ a0 k, LeO (spec_Known.f k a0) (spec_Known.f (k + 1) a0) := by
  intro a0 k
  obtain ⟨ih0, ih1, ih2⟩ := spec_Known.mono_l k
  unfold spec_Known.f
  repeat' first
      | (with_reducible exact ih0 _ _ _)
      | (with_reducible exact ih1 _ _ _)
      | (with_reducible exact ih2 _ _ _)
      | (with_reducible exact spec_wrNumber.mono _ _)
      | (with_reducible exact LeO.refl _)
      | (with_reducible exact LeO.none _)
      | (with_reducible refine LeO.ite ?_ ?_)
      | (with_reducible refine LeO.bind ?_ (fun _ => ?_))
      | exact ih0 _ _ _
      | exact ih1 _ _ _
      | exact ih2 _ _ _
      | exact spec_wrNumber.mono _ _
      | exact LeO.none _
      | refine LeO.ite ?_ ?_
      | refine LeO.bind ?_ (fun _ => ?_)
set_option maxHeartbeats 8000000 in
set_option maxRecDepth 100000 in
theorem spec_Known.calls (k : Nat) (a0 : ByteArray) (r : Int) (w : World) (h : spec_Known.f k a0 = some r) :
    Calls Tryz.prog 29 #[.string a0] w fun e w' => e = .returned (.int .i64 r) ∧ Drawn0 w w' := by
  have H : (if a0.toList = ([] : List UInt8) then (spec_Known.j0 k a0 a0 (a0.toList == ([] : List UInt8))) else (if a0.toList = ([110, 117, 108, 108] : List UInt8) then (spec_Known.j0 k a0 a0 (a0.toList == ([110, 117, 108, 108] : List UInt8))) else (if a0.toList = ([78, 117, 108, 108] : List UInt8) then (spec_Known.j0 k a0 a0 (a0.toList == ([78, 117, 108, 108] : List UInt8))) else (if a0.toList = ([78, 85, 76, 76] : List UInt8) then (spec_Known.j0 k a0 a0 (a0.toList == ([78, 85, 76, 76] : List UInt8))) else (spec_Known.j0 k a0 a0 (a0.toList == ([126] : List UInt8))))))) = some r := h
  clear h
  have HC2 := Aside0.mk H
  clear H
  go_enter Tryz.func29, Tryz.ntmps29
  go_upto_if 4 with (fail)
  go_cut [4] (fun v4 wc => ∃ (kq : Nat) (x4_1 : Bool), v4 = .bool x4_1 ∧ Aside0 (spec_Known.j0 kq a0 a0 x4_1 = some r) ∧ Aside0 (kq ≤ k) ∧ Drawn0 w wc)
  case first =>
    have H := HC2.out
    clear HC2
    by_cases c3 : a0.toList = ([] : List UInt8)
    · rw [if_pos c3] at H
      have c3b0 : (a0.toList == ([] : List UInt8)) = true := beq_iff_eq.mpr c3
      have c3b1 : (a0.toList != ([] : List UInt8)) = false := bne_eq_false_iff_eq.mpr c3
      have c3e : a0.toList.isEmpty = true := by rw [c3]; rfl
      clear c3
      (first | rw [c3b0] | (simp only [i64_w, i32_w]; rw [c3b0]) | skip)
      have H' := Aside0.mk H
      clear H
      go_wp2
      all_goals first | exact absurd (c3e.symm.trans (show a0.toList.isEmpty = false from by assumption)) (by simp) | skip
      go_meet
      case rel => exact ⟨_, ((a0.toList == ([] : List UInt8))), (by first | rfl | (simp; done) | (simp [*]; done)), H', ⟨by first | omega | exact Nat.le_refl _⟩, by repeat (first | exact Drawn0.refl _ | apply Drawn0.step)⟩
    · rw [if_neg c3] at H
      have c3b0 : (a0.toList == ([] : List UInt8)) = false := beq_eq_false_iff_ne.mpr c3
      have c3b1 : (a0.toList != ([] : List UInt8)) = true := bne_iff_ne.mpr c3
      have c3e : a0.toList.isEmpty = false := by cases hq : a0.toList with | nil => exact absurd hq c3 | cons _ _ => rfl
      (first | rw [c3b0] | (simp only [i64_w, i32_w]; rw [c3b0]) | skip)
      by_cases c4 : a0.toList = ([110, 117, 108, 108] : List UInt8)
      · rw [if_pos c4] at H
        have c4b0 : (a0.toList == ([110, 117, 108, 108] : List UInt8)) = true := beq_iff_eq.mpr c4
        have c4b1 : (a0.toList != ([110, 117, 108, 108] : List UInt8)) = false := bne_eq_false_iff_eq.mpr c4
        clear c4
        have H' := Aside0.mk H
        clear H
        go_wp2
        all_goals first | exact absurd (c3e.symm.trans (show a0.toList.isEmpty = true from by assumption)) (by simp) | skip
        go_meet
        case rel => exact ⟨_, ((a0.toList == ([110, 117, 108, 108] : List UInt8))), (by first | rfl | (simp; done) | (simp [*]; done)), H', ⟨by first | omega | exact Nat.le_refl _⟩, by repeat (first | exact Drawn0.refl _ | apply Drawn0.step)⟩
      · rw [if_neg c4] at H
        have c4b0 : (a0.toList == ([110, 117, 108, 108] : List UInt8)) = false := beq_eq_false_iff_ne.mpr c4
        have c4b1 : (a0.toList != ([110, 117, 108, 108] : List UInt8)) = true := bne_iff_ne.mpr c4
        by_cases c5 : a0.toList = ([78, 117, 108, 108] : List UInt8)
        · rw [if_pos c5] at H
          have c5b0 : (a0.toList == ([78, 117, 108, 108] : List UInt8)) = true := beq_iff_eq.mpr c5
          have c5b1 : (a0.toList != ([78, 117, 108, 108] : List UInt8)) = false := bne_eq_false_iff_eq.mpr c5
          clear c5
          have H' := Aside0.mk H
          clear H
          go_wp2
          all_goals first | exact absurd (c3e.symm.trans (show a0.toList.isEmpty = true from by assumption)) (by simp) | skip
          go_meet
          case rel => exact ⟨_, ((a0.toList == ([78, 117, 108, 108] : List UInt8))), (by first | rfl | (simp; done) | (simp [*]; done)), H', ⟨by first | omega | exact Nat.le_refl _⟩, by repeat (first | exact Drawn0.refl _ | apply Drawn0.step)⟩
        · rw [if_neg c5] at H
          have c5b0 : (a0.toList == ([78, 117, 108, 108] : List UInt8)) = false := beq_eq_false_iff_ne.mpr c5
          have c5b1 : (a0.toList != ([78, 117, 108, 108] : List UInt8)) = true := bne_iff_ne.mpr c5
          by_cases c6 : a0.toList = ([78, 85, 76, 76] : List UInt8)
          · rw [if_pos c6] at H
            have c6b0 : (a0.toList == ([78, 85, 76, 76] : List UInt8)) = true := beq_iff_eq.mpr c6
            have c6b1 : (a0.toList != ([78, 85, 76, 76] : List UInt8)) = false := bne_eq_false_iff_eq.mpr c6
            clear c6
            have H' := Aside0.mk H
            clear H
            go_wp2
            all_goals first | exact absurd (c3e.symm.trans (show a0.toList.isEmpty = true from by assumption)) (by simp) | skip
            go_meet
            case rel => exact ⟨_, ((a0.toList == ([78, 85, 76, 76] : List UInt8))), (by first | rfl | (simp; done) | (simp [*]; done)), H', ⟨by first | omega | exact Nat.le_refl _⟩, by repeat (first | exact Drawn0.refl _ | apply Drawn0.step)⟩
          · rw [if_neg c6] at H
            have c6b0 : (a0.toList == ([78, 85, 76, 76] : List UInt8)) = false := beq_eq_false_iff_ne.mpr c6
            have c6b1 : (a0.toList != ([78, 85, 76, 76] : List UInt8)) = true := bne_iff_ne.mpr c6
            have H' := Aside0.mk H
            clear H
            go_wp2
            all_goals first | exact absurd (c3e.symm.trans (show a0.toList.isEmpty = true from by assumption)) (by simp) | skip
            go_meet
            case rel => exact ⟨_, ((a0.toList == ([126] : List UInt8))), (by first | rfl | (simp; done) | (simp [*]; done)), H', ⟨by first | omega | exact Nat.le_refl _⟩, by repeat (first | exact Drawn0.refl _ | apply Drawn0.step)⟩
  case rest =>
    clear HC2
    try clear c2
    try clear p2
    try clear c3
    try clear c3b0
    try clear c3b1
    try clear c4
    try clear c4b0
    try clear c4b1
    try clear c5
    try clear c5b0
    try clear c5b1
    try clear c6
    try clear c6b0
    try clear c6b1
    obtain ⟨kq, x4_1, rfl, HA, HJ1, ⟨mc1, rfl⟩⟩ := hcut
    cases kq with
    | zero => exact absurd HA.out (by simp [spec_Known.j0])
    | succ kj1 =>
      have H := HA.out
      clear HA
      simp only [spec_Known.j0] at H
      by_cases c7 : x4_1 = true
      · subst c7
        have H1 : (some 1) = some r := by rw [if_pos rfl] at H; exact H
        clear H
        have H := H1
        clear H1
        obtain rfl := Option.some.inj H
        go_wp2
        go_ret
        exact ⟨by first | rfl | (simp; done) | (simp [*]; done), by repeat (first | exact Drawn0.refl _ | apply Drawn0.step)⟩
      · replace c7 := Bool.eq_false_iff.mpr c7
        subst c7
        have H1 : (if a0.toList = ([116, 114, 117, 101] : List UInt8) then (spec_Known.j1 kj1 a0 a0 (a0.toList == ([116, 114, 117, 101] : List UInt8))) else (if a0.toList = ([84, 114, 117, 101] : List UInt8) then (spec_Known.j1 kj1 a0 a0 (a0.toList == ([84, 114, 117, 101] : List UInt8))) else (if a0.toList = ([84, 82, 85, 69] : List UInt8) then (spec_Known.j1 kj1 a0 a0 (a0.toList == ([84, 82, 85, 69] : List UInt8))) else (if a0.toList = ([102, 97, 108, 115, 101] : List UInt8) then (spec_Known.j1 kj1 a0 a0 (a0.toList == ([102, 97, 108, 115, 101] : List UInt8))) else (if a0.toList = ([70, 97, 108, 115, 101] : List UInt8) then (spec_Known.j1 kj1 a0 a0 (a0.toList == ([70, 97, 108, 115, 101] : List UInt8))) else (spec_Known.j1 kj1 a0 a0 (a0.toList == ([70, 65, 76, 83, 69] : List UInt8)))))))) = some r := by rw [if_neg (show ¬ (false = true) by decide)] at H; exact H
        clear H
        have H := H1
        clear H1
        have HC8 := Aside0.mk H
        clear H
        go_upto_if 10 with (fail)
        go_cut [10] (fun v10 wc => ∃ (kq : Nat) (x10_7 : Bool), v10 = .bool x10_7 ∧ Aside0 (spec_Known.j1 kq a0 a0 x10_7 = some r) ∧ Aside0 (kq ≤ kj1) ∧ Drawn0 w wc)
        case first =>
          have H := HC8.out
          clear HC8
          by_cases c9 : a0.toList = ([116, 114, 117, 101] : List UInt8)
          · rw [if_pos c9] at H
            have c9b0 : (a0.toList == ([116, 114, 117, 101] : List UInt8)) = true := beq_iff_eq.mpr c9
            have c9b1 : (a0.toList != ([116, 114, 117, 101] : List UInt8)) = false := bne_eq_false_iff_eq.mpr c9
            clear c9
            (first | rw [c9b0] | (simp only [i64_w, i32_w]; rw [c9b0]) | skip)
            have H' := Aside0.mk H
            clear H
            go_wp2
            go_meet
            case rel => exact ⟨_, ((a0.toList == ([116, 114, 117, 101] : List UInt8))), (by first | rfl | (simp; done) | (simp [*]; done)), H', ⟨by have := HJ1.out; first | omega | exact Nat.le_refl _⟩, by repeat (first | exact Drawn0.refl _ | apply Drawn0.step)⟩
          · rw [if_neg c9] at H
            have c9b0 : (a0.toList == ([116, 114, 117, 101] : List UInt8)) = false := beq_eq_false_iff_ne.mpr c9
            have c9b1 : (a0.toList != ([116, 114, 117, 101] : List UInt8)) = true := bne_iff_ne.mpr c9
            (first | rw [c9b0] | (simp only [i64_w, i32_w]; rw [c9b0]) | skip)
            by_cases c10 : a0.toList = ([84, 114, 117, 101] : List UInt8)
            · rw [if_pos c10] at H
              have c10b0 : (a0.toList == ([84, 114, 117, 101] : List UInt8)) = true := beq_iff_eq.mpr c10
              have c10b1 : (a0.toList != ([84, 114, 117, 101] : List UInt8)) = false := bne_eq_false_iff_eq.mpr c10
              clear c10
              have H' := Aside0.mk H
              clear H
              go_wp2
              go_meet
              case rel => exact ⟨_, ((a0.toList == ([84, 114, 117, 101] : List UInt8))), (by first | rfl | (simp; done) | (simp [*]; done)), H', ⟨by have := HJ1.out; first | omega | exact Nat.le_refl _⟩, by repeat (first | exact Drawn0.refl _ | apply Drawn0.step)⟩
            · rw [if_neg c10] at H
              have c10b0 : (a0.toList == ([84, 114, 117, 101] : List UInt8)) = false := beq_eq_false_iff_ne.mpr c10
              have c10b1 : (a0.toList != ([84, 114, 117, 101] : List UInt8)) = true := bne_iff_ne.mpr c10
              by_cases c11 : a0.toList = ([84, 82, 85, 69] : List UInt8)
              · rw [if_pos c11] at H
                have c11b0 : (a0.toList == ([84, 82, 85, 69] : List UInt8)) = true := beq_iff_eq.mpr c11
                have c11b1 : (a0.toList != ([84, 82, 85, 69] : List UInt8)) = false := bne_eq_false_iff_eq.mpr c11
                clear c11
                have H' := Aside0.mk H
                clear H
                go_wp2
                go_meet
                case rel => exact ⟨_, ((a0.toList == ([84, 82, 85, 69] : List UInt8))), (by first | rfl | (simp; done) | (simp [*]; done)), H', ⟨by have := HJ1.out; first | omega | exact Nat.le_refl _⟩, by repeat (first | exact Drawn0.refl _ | apply Drawn0.step)⟩
              · rw [if_neg c11] at H
                have c11b0 : (a0.toList == ([84, 82, 85, 69] : List UInt8)) = false := beq_eq_false_iff_ne.mpr c11
                have c11b1 : (a0.toList != ([84, 82, 85, 69] : List UInt8)) = true := bne_iff_ne.mpr c11
                by_cases c12 : a0.toList = ([102, 97, 108, 115, 101] : List UInt8)
                · rw [if_pos c12] at H
                  have c12b0 : (a0.toList == ([102, 97, 108, 115, 101] : List UInt8)) = true := beq_iff_eq.mpr c12
                  have c12b1 : (a0.toList != ([102, 97, 108, 115, 101] : List UInt8)) = false := bne_eq_false_iff_eq.mpr c12
                  clear c12
                  have H' := Aside0.mk H
                  clear H
                  go_wp2
                  go_meet
                  case rel => exact ⟨_, ((a0.toList == ([102, 97, 108, 115, 101] : List UInt8))), (by first | rfl | (simp; done) | (simp [*]; done)), H', ⟨by have := HJ1.out; first | omega | exact Nat.le_refl _⟩, by repeat (first | exact Drawn0.refl _ | apply Drawn0.step)⟩
                · rw [if_neg c12] at H
                  have c12b0 : (a0.toList == ([102, 97, 108, 115, 101] : List UInt8)) = false := beq_eq_false_iff_ne.mpr c12
                  have c12b1 : (a0.toList != ([102, 97, 108, 115, 101] : List UInt8)) = true := bne_iff_ne.mpr c12
                  by_cases c13 : a0.toList = ([70, 97, 108, 115, 101] : List UInt8)
                  · rw [if_pos c13] at H
                    have c13b0 : (a0.toList == ([70, 97, 108, 115, 101] : List UInt8)) = true := beq_iff_eq.mpr c13
                    have c13b1 : (a0.toList != ([70, 97, 108, 115, 101] : List UInt8)) = false := bne_eq_false_iff_eq.mpr c13
                    clear c13
                    have H' := Aside0.mk H
                    clear H
                    go_wp2
                    go_meet
                    case rel => exact ⟨_, ((a0.toList == ([70, 97, 108, 115, 101] : List UInt8))), (by first | rfl | (simp; done) | (simp [*]; done)), H', ⟨by have := HJ1.out; first | omega | exact Nat.le_refl _⟩, by repeat (first | exact Drawn0.refl _ | apply Drawn0.step)⟩
                  · rw [if_neg c13] at H
                    have c13b0 : (a0.toList == ([70, 97, 108, 115, 101] : List UInt8)) = false := beq_eq_false_iff_ne.mpr c13
                    have c13b1 : (a0.toList != ([70, 97, 108, 115, 101] : List UInt8)) = true := bne_iff_ne.mpr c13
                    have H' := Aside0.mk H
                    clear H
                    go_wp2
                    go_meet
                    case rel => exact ⟨_, ((a0.toList == ([70, 65, 76, 83, 69] : List UInt8))), (by first | rfl | (simp; done) | (simp [*]; done)), H', ⟨by have := HJ1.out; first | omega | exact Nat.le_refl _⟩, by repeat (first | exact Drawn0.refl _ | apply Drawn0.step)⟩
        case rest =>
          clear HC8
          try clear c1
          try clear c2
          try clear p2
          try clear c3
          try clear c3b0
          try clear c3b1
          try clear c4
          try clear c4b0
          try clear c4b1
          try clear c5
          try clear c5b0
          try clear c5b1
          try clear c6
          try clear c6b0
          try clear c6b1
          try clear c7
          try clear c9
          try clear c9b0
          try clear c9b1
          try clear c10
          try clear c10b0
          try clear c10b1
          try clear c11
          try clear c11b0
          try clear c11b1
          try clear c12
          try clear c12b0
          try clear c12b1
          try clear c13
          try clear c13b0
          try clear c13b1
          try clear p2
          obtain ⟨kq, x10_7, rfl, HA, HJ7, ⟨mc7, rfl⟩⟩ := hcut
          cases kq with
          | zero => exact absurd HA.out (by simp [spec_Known.j1])
          | succ kj7 =>
            have H := HA.out
            clear HA
            simp only [spec_Known.j1] at H
            by_cases c14 : x10_7 = true
            · subst c14
              have H1 : (some 2) = some r := by rw [if_pos rfl] at H; exact H
              clear H
              have H := H1
              clear H1
              obtain rfl := Option.some.inj H
              go_wp2
              go_ret
              exact ⟨by first | rfl | (simp; done) | (simp [*]; done), by repeat (first | exact Drawn0.refl _ | apply Drawn0.step)⟩
            · replace c14 := Bool.eq_false_iff.mpr c14
              subst c14
              have H1 : (if a0.toList = ([46, 105, 110, 102] : List UInt8) then (spec_Known.j2 kj7 a0 a0 (a0.toList == ([46, 105, 110, 102] : List UInt8))) else (if a0.toList = ([46, 73, 110, 102] : List UInt8) then (spec_Known.j2 kj7 a0 a0 (a0.toList == ([46, 73, 110, 102] : List UInt8))) else (if a0.toList = ([46, 73, 78, 70] : List UInt8) then (spec_Known.j2 kj7 a0 a0 (a0.toList == ([46, 73, 78, 70] : List UInt8))) else (if a0.toList = ([45, 46, 105, 110, 102] : List UInt8) then (spec_Known.j2 kj7 a0 a0 (a0.toList == ([45, 46, 105, 110, 102] : List UInt8))) else (if a0.toList = ([45, 46, 73, 110, 102] : List UInt8) then (spec_Known.j2 kj7 a0 a0 (a0.toList == ([45, 46, 73, 110, 102] : List UInt8))) else (if a0.toList = ([45, 46, 73, 78, 70] : List UInt8) then (spec_Known.j2 kj7 a0 a0 (a0.toList == ([45, 46, 73, 78, 70] : List UInt8))) else (if a0.toList = ([43, 46, 105, 110, 102] : List UInt8) then (spec_Known.j2 kj7 a0 a0 (a0.toList == ([43, 46, 105, 110, 102] : List UInt8))) else (if a0.toList = ([43, 46, 73, 110, 102] : List UInt8) then (spec_Known.j2 kj7 a0 a0 (a0.toList == ([43, 46, 73, 110, 102] : List UInt8))) else (spec_Known.j2 kj7 a0 a0 (a0.toList == ([43, 46, 73, 78, 70] : List UInt8))))))))))) = some r := by rw [if_neg (show ¬ (false = true) by decide)] at H; exact H
              clear H
              have H := H1
              clear H1
              have HC15 := Aside0.mk H
              clear H
              go_upto_if 17 with (fail)
              go_cut [17] (fun v17 wc => ∃ (kq : Nat) (x17_14 : Bool), v17 = .bool x17_14 ∧ Aside0 (spec_Known.j2 kq a0 a0 x17_14 = some r) ∧ Aside0 (kq ≤ kj7) ∧ Drawn0 w wc)
              case first =>
                have H := HC15.out
                clear HC15
                by_cases c16 : a0.toList = ([46, 105, 110, 102] : List UInt8)
                · rw [if_pos c16] at H
                  have c16b0 : (a0.toList == ([46, 105, 110, 102] : List UInt8)) = true := beq_iff_eq.mpr c16
                  have c16b1 : (a0.toList != ([46, 105, 110, 102] : List UInt8)) = false := bne_eq_false_iff_eq.mpr c16
                  clear c16
                  (first | rw [c16b0] | (simp only [i64_w, i32_w]; rw [c16b0]) | skip)
                  have H' := Aside0.mk H
                  clear H
                  go_wp2
                  go_meet
                  case rel => exact ⟨_, ((a0.toList == ([46, 105, 110, 102] : List UInt8))), (by first | rfl | (simp; done) | (simp [*]; done)), H', ⟨by have := HJ1.out; have := HJ7.out; first | omega | exact Nat.le_refl _⟩, by repeat (first | exact Drawn0.refl _ | apply Drawn0.step)⟩
                · rw [if_neg c16] at H
                  have c16b0 : (a0.toList == ([46, 105, 110, 102] : List UInt8)) = false := beq_eq_false_iff_ne.mpr c16
                  have c16b1 : (a0.toList != ([46, 105, 110, 102] : List UInt8)) = true := bne_iff_ne.mpr c16
                  (first | rw [c16b0] | (simp only [i64_w, i32_w]; rw [c16b0]) | skip)
                  by_cases c17 : a0.toList = ([46, 73, 110, 102] : List UInt8)
                  · rw [if_pos c17] at H
                    have c17b0 : (a0.toList == ([46, 73, 110, 102] : List UInt8)) = true := beq_iff_eq.mpr c17
                    have c17b1 : (a0.toList != ([46, 73, 110, 102] : List UInt8)) = false := bne_eq_false_iff_eq.mpr c17
                    clear c17
                    have H' := Aside0.mk H
                    clear H
                    go_wp2
                    go_meet
                    case rel => exact ⟨_, ((a0.toList == ([46, 73, 110, 102] : List UInt8))), (by first | rfl | (simp; done) | (simp [*]; done)), H', ⟨by have := HJ1.out; have := HJ7.out; first | omega | exact Nat.le_refl _⟩, by repeat (first | exact Drawn0.refl _ | apply Drawn0.step)⟩
                  · rw [if_neg c17] at H
                    have c17b0 : (a0.toList == ([46, 73, 110, 102] : List UInt8)) = false := beq_eq_false_iff_ne.mpr c17
                    have c17b1 : (a0.toList != ([46, 73, 110, 102] : List UInt8)) = true := bne_iff_ne.mpr c17
                    by_cases c18 : a0.toList = ([46, 73, 78, 70] : List UInt8)
                    · rw [if_pos c18] at H
                      have c18b0 : (a0.toList == ([46, 73, 78, 70] : List UInt8)) = true := beq_iff_eq.mpr c18
                      have c18b1 : (a0.toList != ([46, 73, 78, 70] : List UInt8)) = false := bne_eq_false_iff_eq.mpr c18
                      clear c18
                      have H' := Aside0.mk H
                      clear H
                      go_wp2
                      go_meet
                      case rel => exact ⟨_, ((a0.toList == ([46, 73, 78, 70] : List UInt8))), (by first | rfl | (simp; done) | (simp [*]; done)), H', ⟨by have := HJ1.out; have := HJ7.out; first | omega | exact Nat.le_refl _⟩, by repeat (first | exact Drawn0.refl _ | apply Drawn0.step)⟩
                    · rw [if_neg c18] at H
                      have c18b0 : (a0.toList == ([46, 73, 78, 70] : List UInt8)) = false := beq_eq_false_iff_ne.mpr c18
                      have c18b1 : (a0.toList != ([46, 73, 78, 70] : List UInt8)) = true := bne_iff_ne.mpr c18
                      by_cases c19 : a0.toList = ([45, 46, 105, 110, 102] : List UInt8)
                      · rw [if_pos c19] at H
                        have c19b0 : (a0.toList == ([45, 46, 105, 110, 102] : List UInt8)) = true := beq_iff_eq.mpr c19
                        have c19b1 : (a0.toList != ([45, 46, 105, 110, 102] : List UInt8)) = false := bne_eq_false_iff_eq.mpr c19
                        clear c19
                        have H' := Aside0.mk H
                        clear H
                        go_wp2
                        go_meet
                        case rel => exact ⟨_, ((a0.toList == ([45, 46, 105, 110, 102] : List UInt8))), (by first | rfl | (simp; done) | (simp [*]; done)), H', ⟨by have := HJ1.out; have := HJ7.out; first | omega | exact Nat.le_refl _⟩, by repeat (first | exact Drawn0.refl _ | apply Drawn0.step)⟩
                      · rw [if_neg c19] at H
                        have c19b0 : (a0.toList == ([45, 46, 105, 110, 102] : List UInt8)) = false := beq_eq_false_iff_ne.mpr c19
                        have c19b1 : (a0.toList != ([45, 46, 105, 110, 102] : List UInt8)) = true := bne_iff_ne.mpr c19
                        by_cases c20 : a0.toList = ([45, 46, 73, 110, 102] : List UInt8)
                        · rw [if_pos c20] at H
                          have c20b0 : (a0.toList == ([45, 46, 73, 110, 102] : List UInt8)) = true := beq_iff_eq.mpr c20
                          have c20b1 : (a0.toList != ([45, 46, 73, 110, 102] : List UInt8)) = false := bne_eq_false_iff_eq.mpr c20
                          clear c20
                          have H' := Aside0.mk H
                          clear H
                          go_wp2
                          go_meet
                          case rel => exact ⟨_, ((a0.toList == ([45, 46, 73, 110, 102] : List UInt8))), (by first | rfl | (simp; done) | (simp [*]; done)), H', ⟨by have := HJ1.out; have := HJ7.out; first | omega | exact Nat.le_refl _⟩, by repeat (first | exact Drawn0.refl _ | apply Drawn0.step)⟩
                        · rw [if_neg c20] at H
                          have c20b0 : (a0.toList == ([45, 46, 73, 110, 102] : List UInt8)) = false := beq_eq_false_iff_ne.mpr c20
                          have c20b1 : (a0.toList != ([45, 46, 73, 110, 102] : List UInt8)) = true := bne_iff_ne.mpr c20
                          by_cases c21 : a0.toList = ([45, 46, 73, 78, 70] : List UInt8)
                          · rw [if_pos c21] at H
                            have c21b0 : (a0.toList == ([45, 46, 73, 78, 70] : List UInt8)) = true := beq_iff_eq.mpr c21
                            have c21b1 : (a0.toList != ([45, 46, 73, 78, 70] : List UInt8)) = false := bne_eq_false_iff_eq.mpr c21
                            clear c21
                            have H' := Aside0.mk H
                            clear H
                            go_wp2
                            go_meet
                            case rel => exact ⟨_, ((a0.toList == ([45, 46, 73, 78, 70] : List UInt8))), (by first | rfl | (simp; done) | (simp [*]; done)), H', ⟨by have := HJ1.out; have := HJ7.out; first | omega | exact Nat.le_refl _⟩, by repeat (first | exact Drawn0.refl _ | apply Drawn0.step)⟩
                          · rw [if_neg c21] at H
                            have c21b0 : (a0.toList == ([45, 46, 73, 78, 70] : List UInt8)) = false := beq_eq_false_iff_ne.mpr c21
                            have c21b1 : (a0.toList != ([45, 46, 73, 78, 70] : List UInt8)) = true := bne_iff_ne.mpr c21
                            by_cases c22 : a0.toList = ([43, 46, 105, 110, 102] : List UInt8)
                            · rw [if_pos c22] at H
                              have c22b0 : (a0.toList == ([43, 46, 105, 110, 102] : List UInt8)) = true := beq_iff_eq.mpr c22
                              have c22b1 : (a0.toList != ([43, 46, 105, 110, 102] : List UInt8)) = false := bne_eq_false_iff_eq.mpr c22
                              clear c22
                              have H' := Aside0.mk H
                              clear H
                              go_wp2
                              go_meet
                              case rel => exact ⟨_, ((a0.toList == ([43, 46, 105, 110, 102] : List UInt8))), (by first | rfl | (simp; done) | (simp [*]; done)), H', ⟨by have := HJ1.out; have := HJ7.out; first | omega | exact Nat.le_refl _⟩, by repeat (first | exact Drawn0.refl _ | apply Drawn0.step)⟩
                            · rw [if_neg c22] at H
                              have c22b0 : (a0.toList == ([43, 46, 105, 110, 102] : List UInt8)) = false := beq_eq_false_iff_ne.mpr c22
                              have c22b1 : (a0.toList != ([43, 46, 105, 110, 102] : List UInt8)) = true := bne_iff_ne.mpr c22
                              by_cases c23 : a0.toList = ([43, 46, 73, 110, 102] : List UInt8)
                              · rw [if_pos c23] at H
                                have c23b0 : (a0.toList == ([43, 46, 73, 110, 102] : List UInt8)) = true := beq_iff_eq.mpr c23
                                have c23b1 : (a0.toList != ([43, 46, 73, 110, 102] : List UInt8)) = false := bne_eq_false_iff_eq.mpr c23
                                clear c23
                                have H' := Aside0.mk H
                                clear H
                                go_wp2
                                go_meet
                                case rel => exact ⟨_, ((a0.toList == ([43, 46, 73, 110, 102] : List UInt8))), (by first | rfl | (simp; done) | (simp [*]; done)), H', ⟨by have := HJ1.out; have := HJ7.out; first | omega | exact Nat.le_refl _⟩, by repeat (first | exact Drawn0.refl _ | apply Drawn0.step)⟩
                              · rw [if_neg c23] at H
                                have c23b0 : (a0.toList == ([43, 46, 73, 110, 102] : List UInt8)) = false := beq_eq_false_iff_ne.mpr c23
                                have c23b1 : (a0.toList != ([43, 46, 73, 110, 102] : List UInt8)) = true := bne_iff_ne.mpr c23
                                have H' := Aside0.mk H
                                clear H
                                go_wp2
                                go_meet
                                case rel => exact ⟨_, ((a0.toList == ([43, 46, 73, 78, 70] : List UInt8))), (by first | rfl | (simp; done) | (simp [*]; done)), H', ⟨by have := HJ1.out; have := HJ7.out; first | omega | exact Nat.le_refl _⟩, by repeat (first | exact Drawn0.refl _ | apply Drawn0.step)⟩
              case rest =>
                clear HC15
                try clear c1
                try clear c2
                try clear p2
                try clear c3
                try clear c3b0
                try clear c3b1
                try clear c4
                try clear c4b0
                try clear c4b1
                try clear c5
                try clear c5b0
                try clear c5b1
                try clear c6
                try clear c6b0
                try clear c6b1
                try clear c7
                try clear c9
                try clear c9b0
                try clear c9b1
                try clear c10
                try clear c10b0
                try clear c10b1
                try clear c11
                try clear c11b0
                try clear c11b1
                try clear c12
                try clear c12b0
                try clear c12b1
                try clear c13
                try clear c13b0
                try clear c13b1
                try clear c14
                try clear c16
                try clear c16b0
                try clear c16b1
                try clear c17
                try clear c17b0
                try clear c17b1
                try clear c18
                try clear c18b0
                try clear c18b1
                try clear c19
                try clear c19b0
                try clear c19b1
                try clear c20
                try clear c20b0
                try clear c20b1
                try clear c21
                try clear c21b0
                try clear c21b1
                try clear c22
                try clear c22b0
                try clear c22b1
                try clear c23
                try clear c23b0
                try clear c23b1
                try clear p2
                obtain ⟨kq, x17_14, rfl, HA, HJ14, ⟨mc14, rfl⟩⟩ := hcut
                cases kq with
                | zero => exact absurd HA.out (by simp [spec_Known.j2])
                | succ kj14 =>
                  have H := HA.out
                  clear HA
                  simp only [spec_Known.j2] at H
                  by_cases c24 : x17_14 = true
                  · subst c24
                    have H1 : (some 5) = some r := by rw [if_pos rfl] at H; exact H
                    clear H
                    have H := H1
                    clear H1
                    obtain rfl := Option.some.inj H
                    go_wp2
                    go_ret
                    exact ⟨by first | rfl | (simp; done) | (simp [*]; done), by repeat (first | exact Drawn0.refl _ | apply Drawn0.step)⟩
                  · replace c24 := Bool.eq_false_iff.mpr c24
                    subst c24
                    have H1 : (if a0.toList = ([46, 110, 97, 110] : List UInt8) then (some 6) else (if a0.toList = ([46, 78, 97, 78] : List UInt8) then (some 6) else (if a0.toList = ([46, 78, 65, 78] : List UInt8) then (some 6) else ((spec_wrNumber.f kj14 a0).bind fun t166 => (some t166))))) = some r := by rw [if_neg (show ¬ (false = true) by decide)] at H; exact H
                    clear H
                    have H := H1
                    clear H1
                    by_cases c25 : a0.toList = ([46, 110, 97, 110] : List UInt8)
                    · rw [if_pos c25] at H
                      have c25b0 : (a0.toList == ([46, 110, 97, 110] : List UInt8)) = true := beq_iff_eq.mpr c25
                      have c25b1 : (a0.toList != ([46, 110, 97, 110] : List UInt8)) = false := bne_eq_false_iff_eq.mpr c25
                      clear c25
                      obtain rfl := Option.some.inj H
                      go_wp2
                      go_ret
                      exact ⟨by first | rfl | (simp; done) | (simp [*]; done), by repeat (first | exact Drawn0.refl _ | apply Drawn0.step)⟩
                    · rw [if_neg c25] at H
                      have c25b0 : (a0.toList == ([46, 110, 97, 110] : List UInt8)) = false := beq_eq_false_iff_ne.mpr c25
                      have c25b1 : (a0.toList != ([46, 110, 97, 110] : List UInt8)) = true := bne_iff_ne.mpr c25
                      by_cases c26 : a0.toList = ([46, 78, 97, 78] : List UInt8)
                      · rw [if_pos c26] at H
                        have c26b0 : (a0.toList == ([46, 78, 97, 78] : List UInt8)) = true := beq_iff_eq.mpr c26
                        have c26b1 : (a0.toList != ([46, 78, 97, 78] : List UInt8)) = false := bne_eq_false_iff_eq.mpr c26
                        clear c26
                        obtain rfl := Option.some.inj H
                        go_wp2
                        go_ret
                        exact ⟨by first | rfl | (simp; done) | (simp [*]; done), by repeat (first | exact Drawn0.refl _ | apply Drawn0.step)⟩
                      · rw [if_neg c26] at H
                        have c26b0 : (a0.toList == ([46, 78, 97, 78] : List UInt8)) = false := beq_eq_false_iff_ne.mpr c26
                        have c26b1 : (a0.toList != ([46, 78, 97, 78] : List UInt8)) = true := bne_iff_ne.mpr c26
                        by_cases c27 : a0.toList = ([46, 78, 65, 78] : List UInt8)
                        · rw [if_pos c27] at H
                          have c27b0 : (a0.toList == ([46, 78, 65, 78] : List UInt8)) = true := beq_iff_eq.mpr c27
                          have c27b1 : (a0.toList != ([46, 78, 65, 78] : List UInt8)) = false := bne_eq_false_iff_eq.mpr c27
                          clear c27
                          obtain rfl := Option.some.inj H
                          go_wp2
                          go_ret
                          exact ⟨by first | rfl | (simp; done) | (simp [*]; done), by repeat (first | exact Drawn0.refl _ | apply Drawn0.step)⟩
                        · rw [if_neg c27] at H
                          have c27b0 : (a0.toList == ([46, 78, 65, 78] : List UInt8)) = false := beq_eq_false_iff_ne.mpr c27
                          have c27b1 : (a0.toList != ([46, 78, 65, 78] : List UInt8)) = true := bne_iff_ne.mpr c27
                          replace H := Option.bind_eq_some_iff.mp H
                          obtain ⟨t166, A280, H⟩ := H
                          replace H : (some t166) = some r := H
                          have A28 := Aside0.mk A280
                          clear A280
                          obtain rfl := Option.some.inj H
                          go_wp2_with (first | ((with_reducible refine gate_callee (f := 78) rfl ?_); refine goesL_ (some 32) rfl rfl Tryz.func78 (by kernel_rfl) rfl #[.string a0] rfl (by (try simp only [List.map_toArray, List.map_cons, List.map_nil]); first | done | rfl | (simp only [List.length_drop, List.length_take]; rfl)) ?_; (with_reducible refine (spec_wrNumber.calls kj14 a0 t166 _ A28.out).mono ?_); rintro e w' ⟨rfl, ⟨nd, rfl⟩⟩; refine ⟨_, rfl, ?_⟩))
                          go_ret
                          exact ⟨by first | rfl | (simp; done) | (simp [*]; done), by repeat (first | exact Drawn0.refl _ | apply Drawn0.step)⟩

/-! ### laws_nbKnown: function 19 -/
def laws_nbKnown.f (k : Nat) (a0 : ByteArray) : Option (Int) := (spec_Known.f k a0).bind fun t167 => (if t167 = 1 then (if a0.toList = ([] : List UInt8) then (some 0) else (some 22)) else (if t167 = 2 then (some 32) else (if t167 = 5 then (if 0 < (a0.size : Int) then (if (bt a0 0) = 43 then (some 0) else (some 24)) else (none)) else (if t167 = 6 then (some 25) else (some 0)))))
theorem laws_nbKnown.mono : ∀ a0 k, LeO (laws_nbKnown.f k a0) (laws_nbKnown.f (k + 1) a0) := by
  intro a0 k
  unfold laws_nbKnown.f
  repeat' first
      | (with_reducible exact spec_Known.mono _ _)
      | (with_reducible exact LeO.refl _)
      | (with_reducible exact LeO.none _)
      | (with_reducible refine LeO.ite ?_ ?_)
      | (with_reducible refine LeO.bind ?_ (fun _ => ?_))
      | exact spec_Known.mono _ _
      | exact LeO.none _
      | refine LeO.ite ?_ ?_
      | refine LeO.bind ?_ (fun _ => ?_)
set_option maxHeartbeats 8000000 in
set_option maxRecDepth 100000 in
theorem laws_nbKnown.calls (k : Nat) (a0 : ByteArray) (r : Int) (w : World) (h : laws_nbKnown.f k a0 = some r) :
    Calls Tryz.prog 19 #[.string a0] w fun e w' => e = .returned (.int .i64 r) ∧ Drawn0 w w' := by
  have H : ((spec_Known.f k a0).bind fun t167 => (if t167 = 1 then (if a0.toList = ([] : List UInt8) then (some 0) else (some 22)) else (if t167 = 2 then (some 32) else (if t167 = 5 then (if 0 < (a0.size : Int) then (if (bt a0 0) = 43 then (some 0) else (some 24)) else (none)) else (if t167 = 6 then (some 25) else (some 0)))))) = some r := h
  clear h
  replace H := Option.bind_eq_some_iff.mp H
  obtain ⟨t167, A20, H⟩ := H
  replace H : (if t167 = 1 then (if a0.toList = ([] : List UInt8) then (some 0) else (some 22)) else (if t167 = 2 then (some 32) else (if t167 = 5 then (if 0 < (a0.size : Int) then (if (bt a0 0) = 43 then (some 0) else (some 24)) else (none)) else (if t167 = 6 then (some 25) else (some 0))))) = some r := H
  have A2 := Aside0.mk A20
  clear A20
  by_cases c3 : t167 = 1
  · rw [if_pos c3] at H
    have c3b0 : (t167 == 1) = true := beq_iff_eq.mpr c3
    have c3b1 : (t167 != 1) = false := bne_eq_false_iff_eq.mpr c3
    clear c3
    by_cases c4 : a0.toList = ([] : List UInt8)
    · rw [if_pos c4] at H
      have c4b0 : (a0.toList == ([] : List UInt8)) = true := beq_iff_eq.mpr c4
      have c4b1 : (a0.toList != ([] : List UInt8)) = false := bne_eq_false_iff_eq.mpr c4
      clear c4
      obtain rfl := Option.some.inj H
      go_enter Tryz.func19, Tryz.ntmps19
      go_wp2_with (first | ((with_reducible refine gate_callee (f := 29) rfl ?_); refine goesL_ (some 4) rfl rfl Tryz.func29 (by kernel_rfl) rfl #[.string a0] rfl (by (try simp only [List.map_toArray, List.map_cons, List.map_nil]); first | done | rfl | (simp only [List.length_drop, List.length_take]; rfl)) ?_; (with_reducible refine (spec_Known.calls k a0 t167 _ A2.out).mono ?_); rintro e w' ⟨rfl, ⟨nd, rfl⟩⟩; refine ⟨_, rfl, ?_⟩))
      go_ret
      exact ⟨by first | rfl | (simp; done) | (simp [*]; done), by repeat (first | exact Drawn0.refl _ | apply Drawn0.step)⟩
    · rw [if_neg c4] at H
      have c4b0 : (a0.toList == ([] : List UInt8)) = false := beq_eq_false_iff_ne.mpr c4
      have c4b1 : (a0.toList != ([] : List UInt8)) = true := bne_iff_ne.mpr c4
      obtain rfl := Option.some.inj H
      go_enter Tryz.func19, Tryz.ntmps19
      go_wp2_with (first | ((with_reducible refine gate_callee (f := 29) rfl ?_); refine goesL_ (some 4) rfl rfl Tryz.func29 (by kernel_rfl) rfl #[.string a0] rfl (by (try simp only [List.map_toArray, List.map_cons, List.map_nil]); first | done | rfl | (simp only [List.length_drop, List.length_take]; rfl)) ?_; (with_reducible refine (spec_Known.calls k a0 t167 _ A2.out).mono ?_); rintro e w' ⟨rfl, ⟨nd, rfl⟩⟩; refine ⟨_, rfl, ?_⟩))
      go_ret
      exact ⟨by first | rfl | (simp; done) | (simp [*]; done), by repeat (first | exact Drawn0.refl _ | apply Drawn0.step)⟩
  · rw [if_neg c3] at H
    have c3b0 : (t167 == 1) = false := beq_eq_false_iff_ne.mpr c3
    have c3b1 : (t167 != 1) = true := bne_iff_ne.mpr c3
    by_cases c5 : t167 = 2
    · rw [if_pos c5] at H
      have c5b0 : (t167 == 2) = true := beq_iff_eq.mpr c5
      have c5b1 : (t167 != 2) = false := bne_eq_false_iff_eq.mpr c5
      clear c5
      obtain rfl := Option.some.inj H
      go_enter Tryz.func19, Tryz.ntmps19
      go_wp2_with (first | ((with_reducible refine gate_callee (f := 29) rfl ?_); refine goesL_ (some 4) rfl rfl Tryz.func29 (by kernel_rfl) rfl #[.string a0] rfl (by (try simp only [List.map_toArray, List.map_cons, List.map_nil]); first | done | rfl | (simp only [List.length_drop, List.length_take]; rfl)) ?_; (with_reducible refine (spec_Known.calls k a0 t167 _ A2.out).mono ?_); rintro e w' ⟨rfl, ⟨nd, rfl⟩⟩; refine ⟨_, rfl, ?_⟩))
      go_ret
      exact ⟨by first | rfl | (simp; done) | (simp [*]; done), by repeat (first | exact Drawn0.refl _ | apply Drawn0.step)⟩
    · rw [if_neg c5] at H
      have c5b0 : (t167 == 2) = false := beq_eq_false_iff_ne.mpr c5
      have c5b1 : (t167 != 2) = true := bne_iff_ne.mpr c5
      by_cases c6 : t167 = 5
      · rw [if_pos c6] at H
        have c6b0 : (t167 == 5) = true := beq_iff_eq.mpr c6
        have c6b1 : (t167 != 5) = false := bne_eq_false_iff_eq.mpr c6
        clear c6
        by_cases c7 : 0 < (a0.size : Int)
        · rw [if_pos c7] at H
          have c7b0 : decide (0 < (a0.size : Int)) = true := decide_eq_true c7
          have c7b1 : decide (0 < a0.size) = true := decide_eq_true (by omega)
          clear c7
          by_cases c9 : (bt a0 0) = 43
          · rw [if_pos c9] at H
            have c9b0 : ((bt a0 0) == 43) = true := beq_iff_eq.mpr c9
            have c9b1 : ((bt a0 0) != 43) = false := bne_eq_false_iff_eq.mpr c9
            clear c9
            obtain rfl := Option.some.inj H
            go_enter Tryz.func19, Tryz.ntmps19
            go_wp2_with (first | ((with_reducible refine gate_callee (f := 29) rfl ?_); refine goesL_ (some 4) rfl rfl Tryz.func29 (by kernel_rfl) rfl #[.string a0] rfl (by (try simp only [List.map_toArray, List.map_cons, List.map_nil]); first | done | rfl | (simp only [List.length_drop, List.length_take]; rfl)) ?_; (with_reducible refine (spec_Known.calls k a0 t167 _ A2.out).mono ?_); rintro e w' ⟨rfl, ⟨nd, rfl⟩⟩; refine ⟨_, rfl, ?_⟩; have p8 : 0 ≤ (0 : Int) := (by omega); have q8 : 0 < a0.size := (by have : (0 : Int) < (a0.size : Int) := of_decide_eq_true (by first | (with_reducible assumption) | assumption); omega); have hx8 : ∀ h : 0 < a0.size, ((a0[0]'h).toNat : Int) = bt a0 0 := bt_at a0 0; clear p8; have qi8 : (0 < (a0.size : Int)) = True := eq_true (of_decide_eq_true (by first | (with_reducible assumption) | assumption)); replace q8 := eq_true q8))
            go_ret
            exact ⟨by first | rfl | (simp; done) | (simp [*]; done), by repeat (first | exact Drawn0.refl _ | apply Drawn0.step)⟩
          · rw [if_neg c9] at H
            have c9b0 : ((bt a0 0) == 43) = false := beq_eq_false_iff_ne.mpr c9
            have c9b1 : ((bt a0 0) != 43) = true := bne_iff_ne.mpr c9
            obtain rfl := Option.some.inj H
            go_enter Tryz.func19, Tryz.ntmps19
            go_wp2_with (first | ((with_reducible refine gate_callee (f := 29) rfl ?_); refine goesL_ (some 4) rfl rfl Tryz.func29 (by kernel_rfl) rfl #[.string a0] rfl (by (try simp only [List.map_toArray, List.map_cons, List.map_nil]); first | done | rfl | (simp only [List.length_drop, List.length_take]; rfl)) ?_; (with_reducible refine (spec_Known.calls k a0 t167 _ A2.out).mono ?_); rintro e w' ⟨rfl, ⟨nd, rfl⟩⟩; refine ⟨_, rfl, ?_⟩; have p8 : 0 ≤ (0 : Int) := (by omega); have q8 : 0 < a0.size := (by have : (0 : Int) < (a0.size : Int) := of_decide_eq_true (by first | (with_reducible assumption) | assumption); omega); have hx8 : ∀ h : 0 < a0.size, ((a0[0]'h).toNat : Int) = bt a0 0 := bt_at a0 0; clear p8; have qi8 : (0 < (a0.size : Int)) = True := eq_true (of_decide_eq_true (by first | (with_reducible assumption) | assumption)); replace q8 := eq_true q8))
            go_ret
            exact ⟨by first | rfl | (simp; done) | (simp [*]; done), by repeat (first | exact Drawn0.refl _ | apply Drawn0.step)⟩
        · rw [if_neg c7] at H
          exact absurd H (by simp)
      · rw [if_neg c6] at H
        have c6b0 : (t167 == 5) = false := beq_eq_false_iff_ne.mpr c6
        have c6b1 : (t167 != 5) = true := bne_iff_ne.mpr c6
        by_cases c10 : t167 = 6
        · rw [if_pos c10] at H
          have c10b0 : (t167 == 6) = true := beq_iff_eq.mpr c10
          have c10b1 : (t167 != 6) = false := bne_eq_false_iff_eq.mpr c10
          clear c10
          obtain rfl := Option.some.inj H
          go_enter Tryz.func19, Tryz.ntmps19
          go_wp2_with (first | ((with_reducible refine gate_callee (f := 29) rfl ?_); refine goesL_ (some 4) rfl rfl Tryz.func29 (by kernel_rfl) rfl #[.string a0] rfl (by (try simp only [List.map_toArray, List.map_cons, List.map_nil]); first | done | rfl | (simp only [List.length_drop, List.length_take]; rfl)) ?_; (with_reducible refine (spec_Known.calls k a0 t167 _ A2.out).mono ?_); rintro e w' ⟨rfl, ⟨nd, rfl⟩⟩; refine ⟨_, rfl, ?_⟩))
          go_ret
          exact ⟨by first | rfl | (simp; done) | (simp [*]; done), by repeat (first | exact Drawn0.refl _ | apply Drawn0.step)⟩
        · rw [if_neg c10] at H
          have c10b0 : (t167 == 6) = false := beq_eq_false_iff_ne.mpr c10
          have c10b1 : (t167 != 6) = true := bne_iff_ne.mpr c10
          obtain rfl := Option.some.inj H
          go_enter Tryz.func19, Tryz.ntmps19
          go_wp2_with (first | ((with_reducible refine gate_callee (f := 29) rfl ?_); refine goesL_ (some 4) rfl rfl Tryz.func29 (by kernel_rfl) rfl #[.string a0] rfl (by (try simp only [List.map_toArray, List.map_cons, List.map_nil]); first | done | rfl | (simp only [List.length_drop, List.length_take]; rfl)) ?_; (with_reducible refine (spec_Known.calls k a0 t167 _ A2.out).mono ?_); rintro e w' ⟨rfl, ⟨nd, rfl⟩⟩; refine ⟨_, rfl, ?_⟩))
          go_ret
          exact ⟨by first | rfl | (simp; done) | (simp [*]; done), by repeat (first | exact Drawn0.refl _ | apply Drawn0.step)⟩

end Go.Proofs.YtlkbhmmelejmjaaGreatDoor.WordsKnown
