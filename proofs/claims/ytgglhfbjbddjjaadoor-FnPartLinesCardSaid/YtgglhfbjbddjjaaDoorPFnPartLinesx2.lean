-- PRINTED BY print.sh 35421559b90ae4d0a3588c463048766b98c2df88dd9212a6774a882060cdf62d: not written by this session
import Derived.Test.YtgglhfbjbddjjaaDoorPFnPartLinesx0
import Derived.Test.YtgglhfbjbddjjaaDoorPFnPartLinesx1
namespace Go.Proofs.YtgglhfbjbddjjaaDoor.PFnPartLines
open Go.RowKit Go.Proofs.YtgglhfbjbddjjaaDoorW.PrintWords Go.Proofs.YtgglhfbjbddjjaaDoorW.PrintLast Go.Proofs.YtgglhfbjbddjjaaDoorW.PrintMore
attribute [local go_sem] max2_int min2_int max_two min_two max_three min_three max_four min_four   -- for this text's walks alone
set_option linter.unusedVariables false
set_option linter.unusedSimpArgs false

/-! ### spec_Calm: function 6 -/
mutual
def spec_Calm.l0 : Nat → ByteArray → Bool → Int → Option (Bool)
  | 0, _, _, _ => none
  | k + 1, x0, x3, x4 => if x4 < (x0.size : Int) then (if 0 ≤ x4 then (if (bt x0 x4) = 10 then (spec_Calm.l0 k x0 true (wrap64 (x4 + 1))) else (if x3 = true then (spec_Calm.j1 k x0 x3 x4 ((bt x0 x4) != 32)) else (spec_Calm.j1 k x0 x3 x4 false))) else (none)) else (some true)
def spec_Calm.j1 : Nat → ByteArray → Bool → Int → Bool → Option (Bool)
  | 0, _, _, _, _ => none
  | k + 1, x0, x3, x4, x21 => if x21 = true then (if 0 ≤ x4 then (if x4 ≤ (wrap64 (x4 + 1)) then (if (wrap64 (x4 + 1)) ≤ (x0.size : Int) then ((spec_Has.f k (x0.extract (x4 : Int).toNat ((wrap64 (x4 + 1)) : Int).toNat) (⟨#[45, 63, 58, 44, 91, 93, 123, 125, 35, 38, 42, 33, 124, 62, 39, 34, 37, 64, 96]⟩ : ByteArray)).bind fun t101 => (if t101 = true then (some false) else (spec_Calm.l0 k x0 false (wrap64 (x4 + 1))))) else (none)) else (none)) else (none)) else (spec_Calm.l0 k x0 x3 (wrap64 (x4 + 1)))
end
def spec_Calm.f (k : Nat) (a0 : ByteArray) : Option (Bool) := spec_Calm.l0 k a0 false 0
theorem spec_Calm.mono_l : ∀ k, (∀ y0 y1 y2, LeO (spec_Calm.l0 k y0 y1 y2) (spec_Calm.l0 (k + 1) y0 y1 y2)) ∧ (∀ y0 y1 y2 y3, LeO (spec_Calm.j1 k y0 y1 y2 y3) (spec_Calm.j1 (k + 1) y0 y1 y2 y3))
  | 0 => ⟨fun _ _ _ r h => by simp [spec_Calm.l0] at h, fun _ _ _ _ r h => by simp [spec_Calm.j1] at h⟩
  | k + 1 => by
    obtain ⟨ih0, ih1⟩ := spec_Calm.mono_l k
    refine ⟨?_, ?_⟩
    · intro y0 y1 y2
      unfold spec_Calm.l0
      repeat' first
      | (with_reducible exact ih0 _ _ _)
      | (with_reducible exact ih1 _ _ _ _)
      | (with_reducible exact spec_Has.mono _ _ _)
      | (with_reducible exact LeO.refl _)
      | (with_reducible exact LeO.none _)
      | (with_reducible refine LeO.ite ?_ ?_)
      | (with_reducible refine LeO.bind ?_ (fun _ => ?_))
      | exact ih0 _ _ _
      | exact ih1 _ _ _ _
      | exact spec_Has.mono _ _ _
      | exact LeO.none _
      | refine LeO.ite ?_ ?_
      | refine LeO.bind ?_ (fun _ => ?_)
    · intro y0 y1 y2 y3
      unfold spec_Calm.j1
      repeat' first
      | (with_reducible exact ih0 _ _ _)
      | (with_reducible exact ih1 _ _ _ _)
      | (with_reducible exact spec_Has.mono _ _ _)
      | (with_reducible exact LeO.refl _)
      | (with_reducible exact LeO.none _)
      | (with_reducible refine LeO.ite ?_ ?_)
      | (with_reducible refine LeO.bind ?_ (fun _ => ?_))
      | exact ih0 _ _ _
      | exact ih1 _ _ _ _
      | exact spec_Has.mono _ _ _
      | exact LeO.none _
      | refine LeO.ite ?_ ?_
      | refine LeO.bind ?_ (fun _ => ?_)
theorem spec_Calm.mono : ∀ a0 k, LeO (spec_Calm.f k a0) (spec_Calm.f (k + 1) a0) := by
  intro a0 k
  obtain ⟨ih0, ih1⟩ := spec_Calm.mono_l k
  unfold spec_Calm.f
  repeat' first
      | (with_reducible exact ih0 _ _ _)
      | (with_reducible exact ih1 _ _ _ _)
      | (with_reducible exact spec_Has.mono _ _ _)
      | (with_reducible exact LeO.refl _)
      | (with_reducible exact LeO.none _)
      | (with_reducible refine LeO.ite ?_ ?_)
      | (with_reducible refine LeO.bind ?_ (fun _ => ?_))
      | exact ih0 _ _ _
      | exact ih1 _ _ _ _
      | exact spec_Has.mono _ _ _
      | exact LeO.none _
      | refine LeO.ite ?_ ?_
      | refine LeO.bind ?_ (fun _ => ?_)
set_option maxHeartbeats 8000000 in
set_option maxRecDepth 100000 in
theorem spec_Calm.calls (k : Nat) (a0 : ByteArray) (r : Bool) (w : World) (h : spec_Calm.f k a0 = some r) :
    Calls Tryd.prog 6 #[.string a0] w fun e w' => e = .returned (.bool r) ∧ Drawn0 w w' := by
  have H : (spec_Calm.l0 k a0 false 0) = some r := h
  clear h
  have H' := Aside0.mk H
  clear H
  go_enter Tryd.func6, Tryd.ntmps6
  go_wp2
  go_loopg [3, 4] k (fun kq v3 v4 w' => ∃ (x3_1 : Bool) (x4_1 : Int), v3 = .bool x3_1 ∧ v4 = .int .i64 x4_1 ∧ Aside0 (spec_Calm.l0 kq a0 x3_1 x4_1 = some r) ∧ Aside0 (kq ≤ k) ∧ Drawn0 w w')
  case atStart => exact ⟨(false), (0), (by first | rfl | (simp; done) | (simp [*]; done)), (by first | rfl | (simp; done) | (simp [*]; done)), H', ⟨Nat.le_refl _⟩, by repeat (first | exact Drawn0.refl _ | apply Drawn0.step)⟩
  case round =>
    clear H'
    obtain ⟨x3_1, x4_1, rfl, rfl, HA, HK1, ⟨m1, rfl⟩⟩ := hrel
    cases gk with
    | zero => exact absurd HA.out (by simp [spec_Calm.l0])
    | succ k1 =>
      have H := HA.out
      clear HA
      simp only [spec_Calm.l0] at H
      by_cases c2 : x4_1 < (a0.size : Int)
      · rw [if_pos c2] at H
        have c2b0 : decide (x4_1 < (a0.size : Int)) = true := decide_eq_true c2
        clear c2
        by_cases c3 : 0 ≤ x4_1
        · rw [if_pos c3] at H
          have c3b0 : decide (0 ≤ x4_1) = true := decide_eq_true c3
          clear c3
          by_cases c5 : (bt a0 x4_1) = 10
          · rw [if_pos c5] at H
            have c5b0 : ((bt a0 x4_1) == 10) = true := beq_iff_eq.mpr c5
            have c5b1 : ((bt a0 x4_1) != 10) = false := bne_eq_false_iff_eq.mpr c5
            clear c5
            have H' := Aside0.mk H
            clear H
            have p4 : 0 ≤ (x4_1 : Int) := of_decide_eq_true (by first | (with_reducible assumption) | assumption)
            have q4 : x4_1 < (a0.size : Int) := of_decide_eq_true (by first | (with_reducible assumption) | assumption)
            have hx4 := bt_at a0 x4_1
            replace p4 := eq_true p4
            replace q4 := eq_true q4
            go_wp2
            go_roundg k1
            case measure => have := HK1.out; omega
            case rel => exact ⟨(true), (wrap64 (x4_1 + 1)), (by first | rfl | (simp; done) | (simp [*]; done)), (by first | rfl | (simp; done) | (simp [*]; done)), H', ⟨by have := HK1.out; omega⟩, by repeat (first | exact Drawn0.refl _ | apply Drawn0.step)⟩
          · rw [if_neg c5] at H
            have c5b0 : ((bt a0 x4_1) == 10) = false := beq_eq_false_iff_ne.mpr c5
            have c5b1 : ((bt a0 x4_1) != 10) = true := bne_iff_ne.mpr c5
            have HC6 := Aside0.mk H
            clear H
            have p4 : 0 ≤ (x4_1 : Int) := of_decide_eq_true (by first | (with_reducible assumption) | assumption)
            have q4 : x4_1 < (a0.size : Int) := of_decide_eq_true (by first | (with_reducible assumption) | assumption)
            have hx4 := bt_at a0 x4_1
            replace p4 := eq_true p4
            replace q4 := eq_true q4
            go_upto_region 7 with (fail)
            go_cut [21] (fun v21 wc => ∃ (kq : Nat) (x21_5 : Bool), v21 = .bool x21_5 ∧ Aside0 (spec_Calm.j1 kq a0 x3_1 x4_1 x21_5 = some r) ∧ Aside0 (kq ≤ k1) ∧ Drawn0 w wc)
            case first =>
              have H := HC6.out
              clear HC6
              by_cases c7 : x3_1 = true
              · subst c7
                have H1 : (spec_Calm.j1 k1 a0 true x4_1 ((bt a0 x4_1) != 32)) = some r := by rw [if_pos rfl] at H; exact H
                clear H
                have H := H1
                clear H1
                have H' := Aside0.mk H
                clear H
                have p8 : 0 ≤ (x4_1 : Int) := of_decide_eq_true (by first | (with_reducible assumption) | assumption)
                have q8 : x4_1 < (a0.size : Int) := of_decide_eq_true (by first | (with_reducible assumption) | assumption)
                have hx8 := bt_at a0 x4_1
                replace p8 := eq_true p8
                replace q8 := eq_true q8
                go_wp2
                go_meet
                case rel => exact ⟨_, (((bt a0 x4_1) != 32)), (by first | rfl | (simp; done) | (simp [*]; done)), H', ⟨by have := HK1.out; first | omega | exact Nat.le_refl _⟩, by repeat (first | exact Drawn0.refl _ | apply Drawn0.step)⟩
              · replace c7 := Bool.eq_false_iff.mpr c7
                subst c7
                have H1 : (spec_Calm.j1 k1 a0 false x4_1 false) = some r := by rw [if_neg (show ¬ (false = true) by decide)] at H; exact H
                clear H
                have H := H1
                clear H1
                have H' := Aside0.mk H
                clear H
                go_wp2
                go_meet
                case rel => exact ⟨_, (false), (by first | rfl | (simp; done) | (simp [*]; done)), H', ⟨by have := HK1.out; first | omega | exact Nat.le_refl _⟩, by repeat (first | exact Drawn0.refl _ | apply Drawn0.step)⟩
            case rest =>
              clear HC6
              try clear c2
              try clear c2b0
              try clear p2
              try clear c3
              try clear c3b0
              try clear p4
              try clear q4
              try clear hx4
              try clear c5
              try clear c5b0
              try clear c5b1
              try clear c6
              try clear p6
              try clear c7
              try clear p8
              try clear q8
              try clear hx8
              try clear p4
              try clear p8
              try clear q4
              try clear q8
              obtain ⟨kq, x21_5, rfl, HA, HJ5, ⟨mc5, rfl⟩⟩ := hcut
              cases kq with
              | zero => exact absurd HA.out (by simp [spec_Calm.j1])
              | succ kj5 =>
                have H := HA.out
                clear HA
                simp only [spec_Calm.j1] at H
                by_cases c9 : x21_5 = true
                · subst c9
                  have H1 : (if 0 ≤ x4_1 then (if x4_1 ≤ (wrap64 (x4_1 + 1)) then (if (wrap64 (x4_1 + 1)) ≤ (a0.size : Int) then ((spec_Has.f kj5 (a0.extract (x4_1 : Int).toNat ((wrap64 (x4_1 + 1)) : Int).toNat) (⟨#[45, 63, 58, 44, 91, 93, 123, 125, 35, 38, 42, 33, 124, 62, 39, 34, 37, 64, 96]⟩ : ByteArray)).bind fun t101 => (if t101 = true then (some false) else (spec_Calm.l0 kj5 a0 false (wrap64 (x4_1 + 1))))) else (none)) else (none)) else (none)) = some r := by rw [if_pos rfl] at H; exact H
                  clear H
                  have H := H1
                  clear H1
                  by_cases c10 : 0 ≤ x4_1
                  · rw [if_pos c10] at H
                    have c10b0 := eq_true c10
                    have c10b1 : decide (0 ≤ x4_1) = true := decide_eq_true c10
                    clear c10
                    by_cases c11 : x4_1 ≤ (wrap64 (x4_1 + 1))
                    · rw [if_pos c11] at H
                      have c11b0 := eq_true c11
                      have c11b1 : decide (x4_1 ≤ (wrap64 (x4_1 + 1))) = true := decide_eq_true c11
                      by_cases c12 : (wrap64 (x4_1 + 1)) ≤ (a0.size : Int)
                      · rw [if_pos c12] at H
                        have c12b0 := eq_true c12
                        have c12b1 : decide ((wrap64 (x4_1 + 1)) ≤ (a0.size : Int)) = true := decide_eq_true c12
                        replace H := Option.bind_eq_some_iff.mp H
                        obtain ⟨t101, A130, H⟩ := H
                        replace H : (if t101 = true then (some false) else (spec_Calm.l0 kj5 a0 false (wrap64 (x4_1 + 1)))) = some r := H
                        have A13 := Aside0.mk A130
                        clear A130
                        by_cases c14 : t101 = true
                        · subst c14
                          have H1 : (some false) = some r := by rw [if_pos rfl] at H; exact H
                          clear H
                          have H := H1
                          clear H1
                          obtain rfl := Option.some.inj H
                          go_wp2_with (first | ((with_reducible refine gate_callee (f := 4) rfl ?_); refine goesL_ (some 27) rfl rfl Tryd.func4 (by kernel_rfl) rfl #[.string (a0.extract (x4_1 : Int).toNat ((wrap64 (x4_1 + 1)) : Int).toNat), .string (⟨#[45, 63, 58, 44, 91, 93, 123, 125, 35, 38, 42, 33, 124, 62, 39, 34, 37, 64, 96]⟩ : ByteArray)] rfl (by (try simp only [List.map_toArray, List.map_cons, List.map_nil]); first | done | rfl | (simp only [List.length_drop, List.length_take]; rfl)) ?_; (with_reducible refine (spec_Has.calls kj5 (a0.extract (x4_1 : Int).toNat ((wrap64 (x4_1 + 1)) : Int).toNat) (⟨#[45, 63, 58, 44, 91, 93, 123, 125, 35, 38, 42, 33, 124, 62, 39, 34, 37, 64, 96]⟩ : ByteArray) true _ A13.out).mono ?_); rintro e w' ⟨rfl, ⟨nd, rfl⟩⟩; refine ⟨_, rfl, ?_⟩))
                          go_ret
                          exact ⟨by first | rfl | (simp; done) | (simp [*]; done), by repeat (first | exact Drawn0.refl _ | apply Drawn0.step)⟩
                        · replace c14 := Bool.eq_false_iff.mpr c14
                          subst c14
                          have H1 : (spec_Calm.l0 kj5 a0 false (wrap64 (x4_1 + 1))) = some r := by rw [if_neg (show ¬ (false = true) by decide)] at H; exact H
                          clear H
                          have H := H1
                          clear H1
                          have H' := Aside0.mk H
                          clear H
                          go_wp2_with (first | ((with_reducible refine gate_callee (f := 4) rfl ?_); refine goesL_ (some 27) rfl rfl Tryd.func4 (by kernel_rfl) rfl #[.string (a0.extract (x4_1 : Int).toNat ((wrap64 (x4_1 + 1)) : Int).toNat), .string (⟨#[45, 63, 58, 44, 91, 93, 123, 125, 35, 38, 42, 33, 124, 62, 39, 34, 37, 64, 96]⟩ : ByteArray)] rfl (by (try simp only [List.map_toArray, List.map_cons, List.map_nil]); first | done | rfl | (simp only [List.length_drop, List.length_take]; rfl)) ?_; (with_reducible refine (spec_Has.calls kj5 (a0.extract (x4_1 : Int).toNat ((wrap64 (x4_1 + 1)) : Int).toNat) (⟨#[45, 63, 58, 44, 91, 93, 123, 125, 35, 38, 42, 33, 124, 62, 39, 34, 37, 64, 96]⟩ : ByteArray) false _ A13.out).mono ?_); rintro e w' ⟨rfl, ⟨nd, rfl⟩⟩; refine ⟨_, rfl, ?_⟩))
                          go_roundg kj5
                          case measure => have := HK1.out; have := HJ5.out; omega
                          case rel => exact ⟨(false), (wrap64 (x4_1 + 1)), (by first | rfl | (simp; done) | (simp [*]; done)), (by first | rfl | (simp; done) | (simp [*]; done)), H', ⟨by have := HK1.out; have := HJ5.out; omega⟩, by repeat (first | exact Drawn0.refl _ | apply Drawn0.step)⟩
                      · rw [if_neg c12] at H
                        exact absurd H (by simp)
                    · rw [if_neg c11] at H
                      exact absurd H (by simp)
                  · rw [if_neg c10] at H
                    exact absurd H (by simp)
                · replace c9 := Bool.eq_false_iff.mpr c9
                  subst c9
                  have H1 : (spec_Calm.l0 kj5 a0 x3_1 (wrap64 (x4_1 + 1))) = some r := by rw [if_neg (show ¬ (false = true) by decide)] at H; exact H
                  clear H
                  have H := H1
                  clear H1
                  have H' := Aside0.mk H
                  clear H
                  go_wp2
                  go_roundg kj5
                  case measure => have := HK1.out; have := HJ5.out; omega
                  case rel => exact ⟨(x3_1), (wrap64 (x4_1 + 1)), (by first | rfl | (simp; done) | (simp [*]; done)), (by first | rfl | (simp; done) | (simp [*]; done)), H', ⟨by have := HK1.out; have := HJ5.out; omega⟩, by repeat (first | exact Drawn0.refl _ | apply Drawn0.step)⟩
        · rw [if_neg c3] at H
          exact absurd H (by simp)
      · rw [if_neg c2] at H
        have c2b0 : decide (x4_1 < (a0.size : Int)) = false := decide_eq_false c2
        clear c2
        obtain rfl := Option.some.inj H
        go_wp2
        go_ret
        exact ⟨by first | rfl | (simp; done) | (simp [*]; done), by repeat (first | exact Drawn0.refl _ | apply Drawn0.step)⟩

/-! ### spec_Steady: function 7 -/
def spec_Steady.l0 : Nat → ByteArray → Int → Option (Bool)
  | 0, _, _ => none
  | k + 1, x0, x3 => if x3 < (x0.size : Int) then (if 0 ≤ x3 then (if (bt x0 x3) = 10 then (if 0 ≤ (wrap64 (x3 - 2)) then (if (wrap64 (x3 - 2)) ≤ x3 then (if x3 ≤ (x0.size : Int) then (if (x0.extract ((wrap64 (x3 - 2)) : Int).toNat (x3 : Int).toNat).toList = ([50, 48] : List UInt8) then (some false) else (if (x0.extract ((wrap64 (x3 - 2)) : Int).toNat (x3 : Int).toNat).toList = ([48, 57] : List UInt8) then (some false) else (if (x0.extract ((wrap64 (x3 - 2)) : Int).toNat (x3 : Int).toNat).toList = ([92, 116] : List UInt8) then (some false) else (spec_Steady.l0 k x0 (wrap64 (x3 + 1)))))) else (none)) else (none)) else (none)) else (spec_Steady.l0 k x0 (wrap64 (x3 + 1)))) else (none)) else (some true)
def spec_Steady.f (k : Nat) (a0 : ByteArray) : Option (Bool) := spec_Steady.l0 k a0 2
theorem spec_Steady.mono_l : ∀ k, (∀ y0 y1, LeO (spec_Steady.l0 k y0 y1) (spec_Steady.l0 (k + 1) y0 y1))
  | 0 => fun _ _ r h => by simp [spec_Steady.l0] at h
  | k + 1 => by
    have ih0 := spec_Steady.mono_l k
    · intro y0 y1
      unfold spec_Steady.l0
      repeat' first
      | (with_reducible exact ih0 _ _)
      | (with_reducible exact LeO.refl _)
      | (with_reducible exact LeO.none _)
      | (with_reducible refine LeO.ite ?_ ?_)
      | (with_reducible refine LeO.bind ?_ (fun _ => ?_))
      | exact ih0 _ _
      | exact LeO.none _
      | refine LeO.ite ?_ ?_
      | refine LeO.bind ?_ (fun _ => ?_)
theorem spec_Steady.mono : ∀ a0 k, LeO (spec_Steady.f k a0) (spec_Steady.f (k + 1) a0) := by
  intro a0 k
  have ih0 := spec_Steady.mono_l k
  unfold spec_Steady.f
  repeat' first
      | (with_reducible exact ih0 _ _)
      | (with_reducible exact LeO.refl _)
      | (with_reducible exact LeO.none _)
      | (with_reducible refine LeO.ite ?_ ?_)
      | (with_reducible refine LeO.bind ?_ (fun _ => ?_))
      | exact ih0 _ _
      | exact LeO.none _
      | refine LeO.ite ?_ ?_
      | refine LeO.bind ?_ (fun _ => ?_)
set_option maxHeartbeats 8000000 in
set_option maxRecDepth 100000 in
theorem spec_Steady.calls (k : Nat) (a0 : ByteArray) (r : Bool) (w : World) (h : spec_Steady.f k a0 = some r) :
    Calls Tryd.prog 7 #[.string a0] w fun e w' => e = .returned (.bool r) ∧ Drawn0 w w' := by
  have H : (spec_Steady.l0 k a0 2) = some r := h
  clear h
  have H' := Aside0.mk H
  clear H
  go_enter Tryd.func7, Tryd.ntmps7
  go_wp2
  go_loopg [3] k (fun kq v3 w' => ∃ (x3_1 : Int), v3 = .int .i64 x3_1 ∧ Aside0 (spec_Steady.l0 kq a0 x3_1 = some r) ∧ Aside0 (kq ≤ k) ∧ Drawn0 w w')
  case atStart => exact ⟨(2), (by first | rfl | (simp; done) | (simp [*]; done)), H', ⟨Nat.le_refl _⟩, by repeat (first | exact Drawn0.refl _ | apply Drawn0.step)⟩
  case round =>
    clear H'
    obtain ⟨x3_1, rfl, HA, HK1, ⟨m1, rfl⟩⟩ := hrel
    cases gk with
    | zero => exact absurd HA.out (by simp [spec_Steady.l0])
    | succ k1 =>
      have H := HA.out
      clear HA
      simp only [spec_Steady.l0] at H
      by_cases c2 : x3_1 < (a0.size : Int)
      · rw [if_pos c2] at H
        have c2b0 : decide (x3_1 < (a0.size : Int)) = true := decide_eq_true c2
        clear c2
        by_cases c3 : 0 ≤ x3_1
        · rw [if_pos c3] at H
          have c3b0 : decide (0 ≤ x3_1) = true := decide_eq_true c3
          clear c3
          by_cases c5 : (bt a0 x3_1) = 10
          · rw [if_pos c5] at H
            have c5b0 : ((bt a0 x3_1) == 10) = true := beq_iff_eq.mpr c5
            have c5b1 : ((bt a0 x3_1) != 10) = false := bne_eq_false_iff_eq.mpr c5
            clear c5
            obtain ⟨ji6, hji6⟩ : ∃ j_ : Int, (wrap64 (x3_1 - 2)) = j_ := ⟨_, rfl⟩
            replace H : (if 0 ≤ (ji6) then (if (ji6) ≤ x3_1 then (if x3_1 ≤ (a0.size : Int) then (if (a0.extract ((ji6) : Int).toNat (x3_1 : Int).toNat).toList = ([50, 48] : List UInt8) then (some false) else (if (a0.extract ((ji6) : Int).toNat (x3_1 : Int).toNat).toList = ([48, 57] : List UInt8) then (some false) else (if (a0.extract ((ji6) : Int).toNat (x3_1 : Int).toNat).toList = ([92, 116] : List UInt8) then (some false) else (spec_Steady.l0 k1 a0 (wrap64 (x3_1 + 1)))))) else (none)) else (none)) else (none)) = some r := by first | (rw [hji6] at H; exact H) | (simp only [hji6] at H ⊢; exact H)
            have hji6w : (IntKind.i64.wrap (x3_1 - 2)) = ji6 := (i64_w _).trans hji6
            by_cases c7 : 0 ≤ (ji6)
            · rw [if_pos c7] at H
              have c7b0 := eq_true c7
              have c7b1 : decide (0 ≤ (ji6)) = true := decide_eq_true c7
              clear c7
              by_cases c8 : (ji6) ≤ x3_1
              · rw [if_pos c8] at H
                have c8b0 := eq_true c8
                have c8b1 : decide ((ji6) ≤ x3_1) = true := decide_eq_true c8
                clear c8
                by_cases c9 : x3_1 ≤ (a0.size : Int)
                · rw [if_pos c9] at H
                  have c9b0 := eq_true c9
                  have c9b1 : decide (x3_1 ≤ (a0.size : Int)) = true := decide_eq_true c9
                  clear c9
                  by_cases c10 : (a0.extract ((ji6) : Int).toNat (x3_1 : Int).toNat).toList = ([50, 48] : List UInt8)
                  · rw [if_pos c10] at H
                    have c10b0 : ((a0.extract ((ji6) : Int).toNat (x3_1 : Int).toNat).toList == ([50, 48] : List UInt8)) = true := beq_iff_eq.mpr c10
                    have c10b1 : ((a0.extract ((ji6) : Int).toNat (x3_1 : Int).toNat).toList != ([50, 48] : List UInt8)) = false := bne_eq_false_iff_eq.mpr c10
                    clear c10
                    obtain rfl := Option.some.inj H
                    have p4 : 0 ≤ (x3_1 : Int) := of_decide_eq_true (by first | (with_reducible assumption) | assumption)
                    have q4 : x3_1 < (a0.size : Int) := of_decide_eq_true (by first | (with_reducible assumption) | assumption)
                    have hx4 := bt_at a0 x3_1
                    replace p4 := eq_true p4
                    replace q4 := eq_true q4
                    go_wp2
                    go_ret
                    exact ⟨by first | rfl | (simp; done) | (simp only [← hji6] <;> (first | rfl | simp)) | (simp [*]; done), by repeat (first | exact Drawn0.refl _ | apply Drawn0.step)⟩
                  · rw [if_neg c10] at H
                    have c10b0 : ((a0.extract ((ji6) : Int).toNat (x3_1 : Int).toNat).toList == ([50, 48] : List UInt8)) = false := beq_eq_false_iff_ne.mpr c10
                    have c10b1 : ((a0.extract ((ji6) : Int).toNat (x3_1 : Int).toNat).toList != ([50, 48] : List UInt8)) = true := bne_iff_ne.mpr c10
                    have c11b0 := eq_true (of_decide_eq_true (by first | (with_reducible assumption) | assumption) : 0 ≤ (ji6))
                    have c12b0 := eq_true (of_decide_eq_true (by first | (with_reducible assumption) | assumption) : (ji6) ≤ x3_1)
                    have c13b0 := eq_true (of_decide_eq_true (by first | (with_reducible assumption) | assumption) : x3_1 ≤ (a0.size : Int))
                    by_cases c14 : (a0.extract ((ji6) : Int).toNat (x3_1 : Int).toNat).toList = ([48, 57] : List UInt8)
                    · rw [if_pos c14] at H
                      have c14b0 : ((a0.extract ((ji6) : Int).toNat (x3_1 : Int).toNat).toList == ([48, 57] : List UInt8)) = true := beq_iff_eq.mpr c14
                      have c14b1 : ((a0.extract ((ji6) : Int).toNat (x3_1 : Int).toNat).toList != ([48, 57] : List UInt8)) = false := bne_eq_false_iff_eq.mpr c14
                      clear c14
                      obtain rfl := Option.some.inj H
                      have p4 : 0 ≤ (x3_1 : Int) := of_decide_eq_true (by first | (with_reducible assumption) | assumption)
                      have q4 : x3_1 < (a0.size : Int) := of_decide_eq_true (by first | (with_reducible assumption) | assumption)
                      have hx4 := bt_at a0 x3_1
                      replace p4 := eq_true p4
                      replace q4 := eq_true q4
                      go_wp2
                      go_ret
                      exact ⟨by first | rfl | (simp; done) | (simp only [← hji6] <;> (first | rfl | simp)) | (simp [*]; done), by repeat (first | exact Drawn0.refl _ | apply Drawn0.step)⟩
                    · rw [if_neg c14] at H
                      have c14b0 : ((a0.extract ((ji6) : Int).toNat (x3_1 : Int).toNat).toList == ([48, 57] : List UInt8)) = false := beq_eq_false_iff_ne.mpr c14
                      have c14b1 : ((a0.extract ((ji6) : Int).toNat (x3_1 : Int).toNat).toList != ([48, 57] : List UInt8)) = true := bne_iff_ne.mpr c14
                      have c15b0 := eq_true (of_decide_eq_true (by first | (with_reducible assumption) | assumption) : 0 ≤ (ji6))
                      have c16b0 := eq_true (of_decide_eq_true (by first | (with_reducible assumption) | assumption) : (ji6) ≤ x3_1)
                      have c17b0 := eq_true (of_decide_eq_true (by first | (with_reducible assumption) | assumption) : x3_1 ≤ (a0.size : Int))
                      by_cases c18 : (a0.extract ((ji6) : Int).toNat (x3_1 : Int).toNat).toList = ([92, 116] : List UInt8)
                      · rw [if_pos c18] at H
                        have c18b0 : ((a0.extract ((ji6) : Int).toNat (x3_1 : Int).toNat).toList == ([92, 116] : List UInt8)) = true := beq_iff_eq.mpr c18
                        have c18b1 : ((a0.extract ((ji6) : Int).toNat (x3_1 : Int).toNat).toList != ([92, 116] : List UInt8)) = false := bne_eq_false_iff_eq.mpr c18
                        clear c18
                        obtain rfl := Option.some.inj H
                        have p4 : 0 ≤ (x3_1 : Int) := of_decide_eq_true (by first | (with_reducible assumption) | assumption)
                        have q4 : x3_1 < (a0.size : Int) := of_decide_eq_true (by first | (with_reducible assumption) | assumption)
                        have hx4 := bt_at a0 x3_1
                        replace p4 := eq_true p4
                        replace q4 := eq_true q4
                        go_wp2
                        go_ret
                        exact ⟨by first | rfl | (simp; done) | (simp only [← hji6] <;> (first | rfl | simp)) | (simp [*]; done), by repeat (first | exact Drawn0.refl _ | apply Drawn0.step)⟩
                      · rw [if_neg c18] at H
                        have c18b0 : ((a0.extract ((ji6) : Int).toNat (x3_1 : Int).toNat).toList == ([92, 116] : List UInt8)) = false := beq_eq_false_iff_ne.mpr c18
                        have c18b1 : ((a0.extract ((ji6) : Int).toNat (x3_1 : Int).toNat).toList != ([92, 116] : List UInt8)) = true := bne_iff_ne.mpr c18
                        have H' := Aside0.mk H
                        clear H
                        have p4 : 0 ≤ (x3_1 : Int) := of_decide_eq_true (by first | (with_reducible assumption) | assumption)
                        have q4 : x3_1 < (a0.size : Int) := of_decide_eq_true (by first | (with_reducible assumption) | assumption)
                        have hx4 := bt_at a0 x3_1
                        replace p4 := eq_true p4
                        replace q4 := eq_true q4
                        go_wp2
                        go_roundg k1
                        case measure => have := HK1.out; omega
                        case rel => exact ⟨(wrap64 (x3_1 + 1)), (by first | rfl | (simp; done) | (simp [*]; done)), H', ⟨by have := HK1.out; omega⟩, by repeat (first | exact Drawn0.refl _ | apply Drawn0.step)⟩
                · rw [if_neg c9] at H
                  exact absurd H (by simp)
              · rw [if_neg c8] at H
                exact absurd H (by simp)
            · rw [if_neg c7] at H
              exact absurd H (by simp)
          · rw [if_neg c5] at H
            have c5b0 : ((bt a0 x3_1) == 10) = false := beq_eq_false_iff_ne.mpr c5
            have c5b1 : ((bt a0 x3_1) != 10) = true := bne_iff_ne.mpr c5
            have H' := Aside0.mk H
            clear H
            have p4 : 0 ≤ (x3_1 : Int) := of_decide_eq_true (by first | (with_reducible assumption) | assumption)
            have q4 : x3_1 < (a0.size : Int) := of_decide_eq_true (by first | (with_reducible assumption) | assumption)
            have hx4 := bt_at a0 x3_1
            replace p4 := eq_true p4
            replace q4 := eq_true q4
            go_wp2
            go_roundg k1
            case measure => have := HK1.out; omega
            case rel => exact ⟨(wrap64 (x3_1 + 1)), (by first | rfl | (simp; done) | (simp [*]; done)), H', ⟨by have := HK1.out; omega⟩, by repeat (first | exact Drawn0.refl _ | apply Drawn0.step)⟩
        · rw [if_neg c3] at H
          exact absurd H (by simp)
      · rw [if_neg c2] at H
        have c2b0 : decide (x3_1 < (a0.size : Int)) = false := decide_eq_false c2
        clear c2
        obtain rfl := Option.some.inj H
        go_wp2
        go_ret
        exact ⟨by first | rfl | (simp; done) | (simp [*]; done), by repeat (first | exact Drawn0.refl _ | apply Drawn0.step)⟩

/-! ### utf8_word_string: function 32 -/
def utf8_word_string.f (a0 : ByteArray) : Option (Int) := if 0 < (a0.size : Int) then (if 1 < (a0.size : Int) then (if 2 < (a0.size : Int) then (if 3 < (a0.size : Int) then (if 4 < (a0.size : Int) then (if 5 < (a0.size : Int) then (if 6 < (a0.size : Int) then (if 7 < (a0.size : Int) then (some (Go.bits .or .u64 (Go.bits .or .u64 (Go.bits .or .u64 (Go.bits .or .u64 (Go.bits .or .u64 (Go.bits .or .u64 (Go.bits .or .u64 (IntKind.u64.wrap (bt a0 0)) (IntKind.u64.wrap ((IntKind.u64.wrap (bt a0 1)) * 256))) (IntKind.u64.wrap ((IntKind.u64.wrap (bt a0 2)) * 65536))) (IntKind.u64.wrap ((IntKind.u64.wrap (bt a0 3)) * 16777216))) (IntKind.u64.wrap ((IntKind.u64.wrap (bt a0 4)) * 4294967296))) (IntKind.u64.wrap ((IntKind.u64.wrap (bt a0 5)) * 1099511627776))) (IntKind.u64.wrap ((IntKind.u64.wrap (bt a0 6)) * 281474976710656))) (IntKind.u64.wrap ((IntKind.u64.wrap (bt a0 7)) * 72057594037927936)))) else (none)) else (none)) else (none)) else (none)) else (none)) else (none)) else (none)) else (none)
set_option maxHeartbeats 8000000 in
set_option maxRecDepth 100000 in
theorem utf8_word_string.calls (a0 : ByteArray) (r : Int) (w : World) (h : utf8_word_string.f a0 = some r) :
    Calls Tryd.prog 32 #[.string a0] w fun e w' => e = .returned (.int .u64 r) ∧ Drawn0 w w' := by
  have H : (if 0 < (a0.size : Int) then (if 1 < (a0.size : Int) then (if 2 < (a0.size : Int) then (if 3 < (a0.size : Int) then (if 4 < (a0.size : Int) then (if 5 < (a0.size : Int) then (if 6 < (a0.size : Int) then (if 7 < (a0.size : Int) then (some (Go.bits .or .u64 (Go.bits .or .u64 (Go.bits .or .u64 (Go.bits .or .u64 (Go.bits .or .u64 (Go.bits .or .u64 (Go.bits .or .u64 (IntKind.u64.wrap (bt a0 0)) (IntKind.u64.wrap ((IntKind.u64.wrap (bt a0 1)) * 256))) (IntKind.u64.wrap ((IntKind.u64.wrap (bt a0 2)) * 65536))) (IntKind.u64.wrap ((IntKind.u64.wrap (bt a0 3)) * 16777216))) (IntKind.u64.wrap ((IntKind.u64.wrap (bt a0 4)) * 4294967296))) (IntKind.u64.wrap ((IntKind.u64.wrap (bt a0 5)) * 1099511627776))) (IntKind.u64.wrap ((IntKind.u64.wrap (bt a0 6)) * 281474976710656))) (IntKind.u64.wrap ((IntKind.u64.wrap (bt a0 7)) * 72057594037927936)))) else (none)) else (none)) else (none)) else (none)) else (none)) else (none)) else (none)) else (none)) = some r := h
  clear h
  by_cases c2 : 0 < (a0.size : Int)
  · rw [if_pos c2] at H
    have c2b0 : decide (0 < (a0.size : Int)) = true := decide_eq_true c2
    have c2b1 : decide (0 < a0.size) = true := decide_eq_true (by omega)
    clear c2
    by_cases c4 : 1 < (a0.size : Int)
    · rw [if_pos c4] at H
      have c4b0 : decide (1 < (a0.size : Int)) = true := decide_eq_true c4
      have c4b1 : decide (1 < a0.size) = true := decide_eq_true (by omega)
      clear c4
      by_cases c6 : 2 < (a0.size : Int)
      · rw [if_pos c6] at H
        have c6b0 : decide (2 < (a0.size : Int)) = true := decide_eq_true c6
        have c6b1 : decide (2 < a0.size) = true := decide_eq_true (by omega)
        clear c6
        by_cases c8 : 3 < (a0.size : Int)
        · rw [if_pos c8] at H
          have c8b0 : decide (3 < (a0.size : Int)) = true := decide_eq_true c8
          have c8b1 : decide (3 < a0.size) = true := decide_eq_true (by omega)
          clear c8
          by_cases c10 : 4 < (a0.size : Int)
          · rw [if_pos c10] at H
            have c10b0 : decide (4 < (a0.size : Int)) = true := decide_eq_true c10
            have c10b1 : decide (4 < a0.size) = true := decide_eq_true (by omega)
            clear c10
            by_cases c12 : 5 < (a0.size : Int)
            · rw [if_pos c12] at H
              have c12b0 : decide (5 < (a0.size : Int)) = true := decide_eq_true c12
              have c12b1 : decide (5 < a0.size) = true := decide_eq_true (by omega)
              clear c12
              by_cases c14 : 6 < (a0.size : Int)
              · rw [if_pos c14] at H
                have c14b0 : decide (6 < (a0.size : Int)) = true := decide_eq_true c14
                have c14b1 : decide (6 < a0.size) = true := decide_eq_true (by omega)
                clear c14
                by_cases c16 : 7 < (a0.size : Int)
                · rw [if_pos c16] at H
                  have c16b0 : decide (7 < (a0.size : Int)) = true := decide_eq_true c16
                  have c16b1 : decide (7 < a0.size) = true := decide_eq_true (by omega)
                  clear c16
                  obtain rfl := Option.some.inj H
                  have p3 : 0 ≤ (0 : Int) := (by omega)
                  have q3 : 0 < a0.size := (by have : (0 : Int) < (a0.size : Int) := of_decide_eq_true (by first | (with_reducible assumption) | assumption); omega)
                  have hx3 : ∀ h : 0 < a0.size, ((a0[0]'h).toNat : Int) = bt a0 0 := bt_at a0 0
                  clear p3
                  have qi3 : (0 < (a0.size : Int)) = True := eq_true (of_decide_eq_true (by first | (with_reducible assumption) | assumption))
                  replace q3 := eq_true q3
                  have p5 : 0 ≤ (1 : Int) := (by omega)
                  have q5 : 1 < a0.size := (by have : (1 : Int) < (a0.size : Int) := of_decide_eq_true (by first | (with_reducible assumption) | assumption); omega)
                  have hx5 : ∀ h : 1 < a0.size, ((a0[1]'h).toNat : Int) = bt a0 1 := bt_at a0 1
                  clear p5
                  have qi5 : (1 < (a0.size : Int)) = True := eq_true (of_decide_eq_true (by first | (with_reducible assumption) | assumption))
                  replace q5 := eq_true q5
                  have p7 : 0 ≤ (2 : Int) := (by omega)
                  have q7 : 2 < a0.size := (by have : (2 : Int) < (a0.size : Int) := of_decide_eq_true (by first | (with_reducible assumption) | assumption); omega)
                  have hx7 : ∀ h : 2 < a0.size, ((a0[2]'h).toNat : Int) = bt a0 2 := bt_at a0 2
                  clear p7
                  have qi7 : (2 < (a0.size : Int)) = True := eq_true (of_decide_eq_true (by first | (with_reducible assumption) | assumption))
                  replace q7 := eq_true q7
                  have p9 : 0 ≤ (3 : Int) := (by omega)
                  have q9 : 3 < a0.size := (by have : (3 : Int) < (a0.size : Int) := of_decide_eq_true (by first | (with_reducible assumption) | assumption); omega)
                  have hx9 : ∀ h : 3 < a0.size, ((a0[3]'h).toNat : Int) = bt a0 3 := bt_at a0 3
                  clear p9
                  have qi9 : (3 < (a0.size : Int)) = True := eq_true (of_decide_eq_true (by first | (with_reducible assumption) | assumption))
                  replace q9 := eq_true q9
                  have p11 : 0 ≤ (4 : Int) := (by omega)
                  have q11 : 4 < a0.size := (by have : (4 : Int) < (a0.size : Int) := of_decide_eq_true (by first | (with_reducible assumption) | assumption); omega)
                  have hx11 : ∀ h : 4 < a0.size, ((a0[4]'h).toNat : Int) = bt a0 4 := bt_at a0 4
                  clear p11
                  have qi11 : (4 < (a0.size : Int)) = True := eq_true (of_decide_eq_true (by first | (with_reducible assumption) | assumption))
                  replace q11 := eq_true q11
                  have p13 : 0 ≤ (5 : Int) := (by omega)
                  have q13 : 5 < a0.size := (by have : (5 : Int) < (a0.size : Int) := of_decide_eq_true (by first | (with_reducible assumption) | assumption); omega)
                  have hx13 : ∀ h : 5 < a0.size, ((a0[5]'h).toNat : Int) = bt a0 5 := bt_at a0 5
                  clear p13
                  have qi13 : (5 < (a0.size : Int)) = True := eq_true (of_decide_eq_true (by first | (with_reducible assumption) | assumption))
                  replace q13 := eq_true q13
                  have p15 : 0 ≤ (6 : Int) := (by omega)
                  have q15 : 6 < a0.size := (by have : (6 : Int) < (a0.size : Int) := of_decide_eq_true (by first | (with_reducible assumption) | assumption); omega)
                  have hx15 : ∀ h : 6 < a0.size, ((a0[6]'h).toNat : Int) = bt a0 6 := bt_at a0 6
                  clear p15
                  have qi15 : (6 < (a0.size : Int)) = True := eq_true (of_decide_eq_true (by first | (with_reducible assumption) | assumption))
                  replace q15 := eq_true q15
                  have p17 : 0 ≤ (7 : Int) := (by omega)
                  have q17 : 7 < a0.size := (by have : (7 : Int) < (a0.size : Int) := of_decide_eq_true (by first | (with_reducible assumption) | assumption); omega)
                  have hx17 : ∀ h : 7 < a0.size, ((a0[7]'h).toNat : Int) = bt a0 7 := bt_at a0 7
                  clear p17
                  have qi17 : (7 < (a0.size : Int)) = True := eq_true (of_decide_eq_true (by first | (with_reducible assumption) | assumption))
                  replace q17 := eq_true q17
                  go_enter Tryd.func32, Tryd.ntmps32
                  go_wp2
                  repeat (go_quiet (fail); try go_wp2)
                  go_ret
                  exact ⟨by first | rfl | (simp; done) | (simp [*]; done), by repeat (first | exact Drawn0.refl _ | apply Drawn0.step)⟩
                · rw [if_neg c16] at H
                  exact absurd H (by simp)
              · rw [if_neg c14] at H
                exact absurd H (by simp)
            · rw [if_neg c12] at H
              exact absurd H (by simp)
          · rw [if_neg c10] at H
            exact absurd H (by simp)
        · rw [if_neg c8] at H
          exact absurd H (by simp)
      · rw [if_neg c6] at H
        exact absurd H (by simp)
    · rw [if_neg c4] at H
      exact absurd H (by simp)
  · rw [if_neg c2] at H
    exact absurd H (by simp)

-- NOT PRINTED: function 20 (utf8_ValidString)

-- NOT PRINTED: function 11 (spec_scRunes)

/-! ### spec_scContent: function 21 -/
def spec_scContent.j0 : Nat → Int → Bool → Option (Bool)
  | 0, _, _ => none
  | k + 1, x0, x3 => if x3 = true then (if x0 = 8232 then (some false) else (some (x0 != 8233))) else (if x0 ≥ 57344 then (if x0 ≤ 65533 then (some (x0 != 65279)) else (if x0 ≥ 65536 then (some (decide (x0 ≤ 1114111))) else (some false))) else (if x0 ≥ 65536 then (some (decide (x0 ≤ 1114111))) else (some false)))
def spec_scContent.f (k : Nat) (a0 : Int) : Option (Bool) := if a0 = 9 then (spec_scContent.j0 k a0 (a0 == 9)) else (if a0 ≥ 32 then (if a0 ≤ 126 then (spec_scContent.j0 k a0 (decide (a0 ≤ 126))) else (if a0 ≥ 160 then (spec_scContent.j0 k a0 (decide (a0 ≤ 55295))) else (spec_scContent.j0 k a0 false))) else (if a0 ≥ 160 then (spec_scContent.j0 k a0 (decide (a0 ≤ 55295))) else (spec_scContent.j0 k a0 false)))
theorem spec_scContent.mono_l : ∀ k, (∀ y0 y1, LeO (spec_scContent.j0 k y0 y1) (spec_scContent.j0 (k + 1) y0 y1))
  | 0 => fun _ _ r h => by simp [spec_scContent.j0] at h
  | k + 1 => by
    have ih0 := spec_scContent.mono_l k
    · intro y0 y1
      unfold spec_scContent.j0
      repeat' first
      | (with_reducible exact ih0 _ _)
      | (with_reducible exact LeO.refl _)
      | (with_reducible exact LeO.none _)
      | (with_reducible refine LeO.ite ?_ ?_)
      | (with_reducible refine LeO.bind ?_ (fun _ => ?_))
      | exact ih0 _ _
      | exact LeO.none _
      | refine LeO.ite ?_ ?_
      | refine LeO.bind ?_ (fun _ => ?_)
theorem spec_scContent.mono : ∀ a0 k, LeO (spec_scContent.f k a0) (spec_scContent.f (k + 1) a0) := by
  intro a0 k
  have ih0 := spec_scContent.mono_l k
  unfold spec_scContent.f
  repeat' first
      | (with_reducible exact ih0 _ _)
      | (with_reducible exact LeO.refl _)
      | (with_reducible exact LeO.none _)
      | (with_reducible refine LeO.ite ?_ ?_)
      | (with_reducible refine LeO.bind ?_ (fun _ => ?_))
      | exact ih0 _ _
      | exact LeO.none _
      | refine LeO.ite ?_ ?_
      | refine LeO.bind ?_ (fun _ => ?_)
set_option maxHeartbeats 8000000 in
set_option maxRecDepth 100000 in
theorem spec_scContent.calls (k : Nat) (a0 : Int) (r : Bool) (w : World) (h : spec_scContent.f k a0 = some r) :
    Calls Tryd.prog 21 #[.int .i32 a0] w fun e w' => e = .returned (.bool r) ∧ Drawn0 w w' := by
  have H : (if a0 = 9 then (spec_scContent.j0 k a0 (a0 == 9)) else (if a0 ≥ 32 then (if a0 ≤ 126 then (spec_scContent.j0 k a0 (decide (a0 ≤ 126))) else (if a0 ≥ 160 then (spec_scContent.j0 k a0 (decide (a0 ≤ 55295))) else (spec_scContent.j0 k a0 false))) else (if a0 ≥ 160 then (spec_scContent.j0 k a0 (decide (a0 ≤ 55295))) else (spec_scContent.j0 k a0 false)))) = some r := h
  clear h
  have HC2 := Aside0.mk H
  clear H
  go_enter Tryd.func21, Tryd.ntmps21
  go_upto_if 3 with (fail)
  go_cut [3] (fun v3 wc => ∃ (kq : Nat) (x3_1 : Bool), v3 = .bool x3_1 ∧ Aside0 (spec_scContent.j0 kq a0 x3_1 = some r) ∧ Aside0 (kq ≤ k) ∧ Drawn0 w wc)
  case first =>
    have H := HC2.out
    clear HC2
    by_cases c3 : a0 = 9
    · rw [if_pos c3] at H
      have c3b0 : (a0 == 9) = true := beq_iff_eq.mpr c3
      have c3b1 : (a0 != 9) = false := bne_eq_false_iff_eq.mpr c3
      clear c3
      (first | rw [c3b0] | (simp only [i64_w, i32_w]; rw [c3b0]) | skip)
      have H' := Aside0.mk H
      clear H
      go_wp2
      go_meet
      case rel => exact ⟨_, ((a0 == 9)), (by first | rfl | (simp; done) | (simp [*]; done)), H', ⟨by first | omega | exact Nat.le_refl _⟩, by repeat (first | exact Drawn0.refl _ | apply Drawn0.step)⟩
    · rw [if_neg c3] at H
      have c3b0 : (a0 == 9) = false := beq_eq_false_iff_ne.mpr c3
      have c3b1 : (a0 != 9) = true := bne_iff_ne.mpr c3
      (first | rw [c3b0] | (simp only [i64_w, i32_w]; rw [c3b0]) | skip)
      by_cases c4 : a0 ≥ 32
      · rw [if_pos c4] at H
        have c4b0 : decide (32 ≤ a0) = true := decide_eq_true c4
        clear c4
        by_cases c5 : a0 ≤ 126
        · rw [if_pos c5] at H
          have c5b0 : decide (a0 ≤ 126) = true := decide_eq_true c5
          clear c5
          have H' := Aside0.mk H
          clear H
          go_wp2
          go_meet
          case rel => exact ⟨_, (decide (a0 ≤ 126)), (by first | rfl | (simp; done) | (simp [*]; done)), H', ⟨by first | omega | exact Nat.le_refl _⟩, by repeat (first | exact Drawn0.refl _ | apply Drawn0.step)⟩
        · rw [if_neg c5] at H
          have c5b0 : decide (a0 ≤ 126) = false := decide_eq_false c5
          clear c5
          by_cases c6 : a0 ≥ 160
          · rw [if_pos c6] at H
            have c6b0 : decide (160 ≤ a0) = true := decide_eq_true c6
            clear c6
            have H' := Aside0.mk H
            clear H
            go_wp2
            go_meet
            case rel => exact ⟨_, (decide (a0 ≤ 55295)), (by first | rfl | (simp; done) | (simp [*]; done)), H', ⟨by first | omega | exact Nat.le_refl _⟩, by repeat (first | exact Drawn0.refl _ | apply Drawn0.step)⟩
          · rw [if_neg c6] at H
            have c6b0 : decide (160 ≤ a0) = false := decide_eq_false c6
            clear c6
            have H' := Aside0.mk H
            clear H
            go_wp2
            go_meet
            case rel => exact ⟨_, (false), (by first | rfl | (simp; done) | (simp [*]; done)), H', ⟨by first | omega | exact Nat.le_refl _⟩, by repeat (first | exact Drawn0.refl _ | apply Drawn0.step)⟩
      · rw [if_neg c4] at H
        have c4b0 : decide (32 ≤ a0) = false := decide_eq_false c4
        clear c4
        by_cases c7 : a0 ≥ 160
        · rw [if_pos c7] at H
          have c7b0 : decide (160 ≤ a0) = true := decide_eq_true c7
          clear c7
          have H' := Aside0.mk H
          clear H
          go_wp2
          go_meet
          case rel => exact ⟨_, (decide (a0 ≤ 55295)), (by first | rfl | (simp; done) | (simp [*]; done)), H', ⟨by first | omega | exact Nat.le_refl _⟩, by repeat (first | exact Drawn0.refl _ | apply Drawn0.step)⟩
        · rw [if_neg c7] at H
          have c7b0 : decide (160 ≤ a0) = false := decide_eq_false c7
          clear c7
          have H' := Aside0.mk H
          clear H
          go_wp2
          go_meet
          case rel => exact ⟨_, (false), (by first | rfl | (simp; done) | (simp [*]; done)), H', ⟨by first | omega | exact Nat.le_refl _⟩, by repeat (first | exact Drawn0.refl _ | apply Drawn0.step)⟩
  case rest =>
    clear HC2
    try clear c2
    try clear p2
    try clear c3
    try clear c3b0
    try clear c3b1
    try clear c4
    try clear c4b0
    try clear c5
    try clear c5b0
    try clear c6
    try clear c6b0
    try clear c7
    try clear c7b0
    obtain ⟨kq, x3_1, rfl, HA, HJ1, ⟨mc1, rfl⟩⟩ := hcut
    cases kq with
    | zero => exact absurd HA.out (by simp [spec_scContent.j0])
    | succ kj1 =>
      have H := HA.out
      clear HA
      simp only [spec_scContent.j0] at H
      by_cases c8 : x3_1 = true
      · subst c8
        have H1 : (if a0 = 8232 then (some false) else (some (a0 != 8233))) = some r := by rw [if_pos rfl] at H; exact H
        clear H
        have H := H1
        clear H1
        by_cases c9 : a0 = 8232
        · rw [if_pos c9] at H
          have c9b0 : (a0 == 8232) = true := beq_iff_eq.mpr c9
          have c9b1 : (a0 != 8232) = false := bne_eq_false_iff_eq.mpr c9
          clear c9
          obtain rfl := Option.some.inj H
          go_wp2
          go_ret
          exact ⟨by first | rfl | (simp; done) | (simp [*]; done), by repeat (first | exact Drawn0.refl _ | apply Drawn0.step)⟩
        · rw [if_neg c9] at H
          have c9b0 : (a0 == 8232) = false := beq_eq_false_iff_ne.mpr c9
          have c9b1 : (a0 != 8232) = true := bne_iff_ne.mpr c9
          obtain rfl := Option.some.inj H
          go_wp2
          go_ret
          exact ⟨by first | rfl | (simp; done) | (simp [*]; done), by repeat (first | exact Drawn0.refl _ | apply Drawn0.step)⟩
      · replace c8 := Bool.eq_false_iff.mpr c8
        subst c8
        have H1 : (if a0 ≥ 57344 then (if a0 ≤ 65533 then (some (a0 != 65279)) else (if a0 ≥ 65536 then (some (decide (a0 ≤ 1114111))) else (some false))) else (if a0 ≥ 65536 then (some (decide (a0 ≤ 1114111))) else (some false))) = some r := by rw [if_neg (show ¬ (false = true) by decide)] at H; exact H
        clear H
        have H := H1
        clear H1
        by_cases c10 : a0 ≥ 57344
        · rw [if_pos c10] at H
          have c10b0 : decide (57344 ≤ a0) = true := decide_eq_true c10
          clear c10
          by_cases c11 : a0 ≤ 65533
          · rw [if_pos c11] at H
            have c11b0 : decide (a0 ≤ 65533) = true := decide_eq_true c11
            clear c11
            obtain rfl := Option.some.inj H
            go_wp2
            go_ret
            exact ⟨by first | rfl | (simp; done) | (simp [*]; done), by repeat (first | exact Drawn0.refl _ | apply Drawn0.step)⟩
          · rw [if_neg c11] at H
            have c11b0 : decide (a0 ≤ 65533) = false := decide_eq_false c11
            clear c11
            by_cases c12 : a0 ≥ 65536
            · rw [if_pos c12] at H
              have c12b0 : decide (65536 ≤ a0) = true := decide_eq_true c12
              clear c12
              obtain rfl := Option.some.inj H
              go_wp2
              go_ret
              exact ⟨by first | rfl | (simp; done) | (simp [*]; done), by repeat (first | exact Drawn0.refl _ | apply Drawn0.step)⟩
            · rw [if_neg c12] at H
              have c12b0 : decide (65536 ≤ a0) = false := decide_eq_false c12
              clear c12
              obtain rfl := Option.some.inj H
              go_wp2
              go_ret
              exact ⟨by first | rfl | (simp; done) | (simp [*]; done), by repeat (first | exact Drawn0.refl _ | apply Drawn0.step)⟩
        · rw [if_neg c10] at H
          have c10b0 : decide (57344 ≤ a0) = false := decide_eq_false c10
          clear c10
          by_cases c13 : a0 ≥ 65536
          · rw [if_pos c13] at H
            have c13b0 : decide (65536 ≤ a0) = true := decide_eq_true c13
            clear c13
            obtain rfl := Option.some.inj H
            go_wp2
            go_ret
            exact ⟨by first | rfl | (simp; done) | (simp [*]; done), by repeat (first | exact Drawn0.refl _ | apply Drawn0.step)⟩
          · rw [if_neg c13] at H
            have c13b0 : decide (65536 ≤ a0) = false := decide_eq_false c13
            clear c13
            obtain rfl := Option.some.inj H
            go_wp2
            go_ret
            exact ⟨by first | rfl | (simp; done) | (simp [*]; done), by repeat (first | exact Drawn0.refl _ | apply Drawn0.step)⟩

end Go.Proofs.YtgglhfbjbddjjaaDoor.PFnPartLines
