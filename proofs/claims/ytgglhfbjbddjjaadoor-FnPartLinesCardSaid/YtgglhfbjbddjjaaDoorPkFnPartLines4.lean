/- Parts of the proof of FnPartLines, one behind the other: LEscape. Each part says ahead of itself what it proves. -/
import Derived.Test.YtgglhfbjbddjjaaDoorPFnPartLinesx1
import Derived.Test.YtgglhfbjbddjjaaDoorPkFnPartLines2

/- functions as print.sh prints them, cut out of its texts. -/
namespace Go.Proofs.YtgglhfbjbddjjaaDoor.LEscape
open Go.RowKit Go.Proofs.YtgglhfbjbddjjaaDoorW.PrintWords Go.Proofs.YtgglhfbjbddjjaaDoorW.PrintLast Go.Proofs.YtgglhfbjbddjjaaDoorW.PrintMore Go.Proofs.YtgglhfbjbddjjaaDoor.PFnPartLines Go.Proofs.YtgglhfbjbddjjaaDoor.LKnown
attribute [local go_sem] max2_int min2_int max_two min_two max_three min_three max_four min_four   -- for this text's walks alone
set_option linter.unusedVariables false
set_option linter.unusedSimpArgs false



/-! ### spec_scEscape: function 15 -/
def spec_scEscape.l0 : Nat → Int → Int → Int → List Int → Int → Int → Option (Int × Int × Bool)
  | 0, _, _, _, _, _, _ => none
  | k + 1, x1, x7, x8, x50, x51, x52 => if x52 < x51 then (if 0 ≤ x52 then (if x52 < (x50.length : Int) then ((spec_scHex.f k (rd x50 x52)).bind fun t140 => (if t140 < 0 then (some (0, 0, false)) else (spec_scEscape.l0 k x1 x7 (wrap64 ((wrap64 (x8 * 16)) + (wrap64 (t140)))) x50 x51 (wrap64 (x52 + 1))))) else (none)) else (none)) else (if x8 ≤ 1114111 then (if x8 < 55296 then (some (wrap32 (mn x8 1114112), wrap64 ((wrap64 (x1 + 2)) + x7), true)) else (some (wrap32 (mn x8 1114112), wrap64 ((wrap64 (x1 + 2)) + x7), decide (x8 > 57343)))) else (some (wrap32 (mn x8 1114112), wrap64 ((wrap64 (x1 + 2)) + x7), false)))
def spec_scEscape.f (k : Nat) (l0 : List Int) (a1 : Int) : Option (Int × Int × Bool) := if (wrap64 (a1 + 1)) = (l0.length : Int) then (some (0, 0, false)) else (if 0 ≤ (wrap64 (a1 + 1)) then (if (wrap64 (a1 + 1)) < (l0.length : Int) then ((spec_scLong.f (rd l0 (wrap64 (a1 + 1)))).bind fun t135 => (if t135 = 0 then ((spec_scNamed.f k (rd l0 (wrap64 (a1 + 1)))).bind fun t137 => (some (t137, wrap64 (a1 + 2), decide (t137 ≥ 0)))) else (if (wrap64 ((wrap64 (a1 + 2)) + t135)) > (l0.length : Int) then (some (0, 0, false)) else (if 0 ≤ (wrap64 (a1 + 2)) then (if (wrap64 (a1 + 2)) ≤ (wrap64 ((wrap64 (a1 + 2)) + t135)) then (if (wrap64 ((wrap64 (a1 + 2)) + t135)) ≤ (l0.length : Int) then (spec_scEscape.l0 k a1 t135 0 ((l0.take ((wrap64 ((wrap64 (a1 + 2)) + t135)) : Int).toNat).drop ((wrap64 (a1 + 2)) : Int).toNat) (((l0.take ((wrap64 ((wrap64 (a1 + 2)) + t135)) : Int).toNat).drop ((wrap64 (a1 + 2)) : Int).toNat).length : Int) 0) else (none)) else (none)) else (none))))) else (none)) else (none))
theorem spec_scEscape.mono_l : ∀ k, (∀ y0 y1 y2 y3 y4 y5, LeO (spec_scEscape.l0 k y0 y1 y2 y3 y4 y5) (spec_scEscape.l0 (k + 1) y0 y1 y2 y3 y4 y5))
  | 0 => fun _ _ _ _ _ _ r h => by simp [spec_scEscape.l0] at h
  | k + 1 => by
    have ih0 := spec_scEscape.mono_l k
    · intro y0 y1 y2 y3 y4 y5
      unfold spec_scEscape.l0
      repeat' first
      | (with_reducible exact ih0 _ _ _ _ _ _)
      | (with_reducible exact spec_scHex.mono _ _)
      | (with_reducible exact spec_scNamed.mono _ _)
      | (with_reducible exact LeO.refl _)
      | (with_reducible exact LeO.none _)
      | (with_reducible refine LeO.ite ?_ ?_)
      | (with_reducible refine LeO.bind ?_ (fun _ => ?_))
      | exact ih0 _ _ _ _ _ _
      | exact spec_scHex.mono _ _
      | exact spec_scNamed.mono _ _
      | exact LeO.none _
      | refine LeO.ite ?_ ?_
      | refine LeO.bind ?_ (fun _ => ?_)
theorem spec_scEscape.mono : ∀ a0 a1 k, LeO (spec_scEscape.f k a0 a1) (spec_scEscape.f (k + 1) a0 a1) := by
  intro a0 a1 k
  have ih0 := spec_scEscape.mono_l k
  unfold spec_scEscape.f
  repeat' first
      | (with_reducible exact ih0 _ _ _ _ _ _)
      | (with_reducible exact spec_scHex.mono _ _)
      | (with_reducible exact spec_scNamed.mono _ _)
      | (with_reducible exact LeO.refl _)
      | (with_reducible exact LeO.none _)
      | (with_reducible refine LeO.ite ?_ ?_)
      | (with_reducible refine LeO.bind ?_ (fun _ => ?_))
      | exact ih0 _ _ _ _ _ _
      | exact spec_scHex.mono _ _
      | exact spec_scNamed.mono _ _
      | exact LeO.none _
      | refine LeO.ite ?_ ?_
      | refine LeO.bind ?_ (fun _ => ?_)
set_option maxHeartbeats 8000000 in
set_option maxRecDepth 100000 in
theorem spec_scEscape.calls (k : Nat) (A0 : Option Addr) (c0 : Nat) (l0 : List Int) (a1 : Int) (r1 : Int) (r2 : Int) (r3 : Bool) (w : World) (hr0 : Kd.C (Kd.int .i32) w A0 l0.length l0) (hc0 : l0.length ≤ c0) (h : spec_scEscape.f k l0 a1 = some (r1, r2, r3)) :
    Calls Tryd.prog 15 #[.slice A0 l0.length c0, .int .i64 a1] w fun e w' => e = .returned (.tuple #[.int .i32 r1, .int .i64 r2, .bool r3]) ∧ Below w.heap.size w w' := by
  have HR0 := Aside0.mk hr0
  have HC0 := Aside0.mk hc0
  clear hr0 hc0
  have HB := Aside0.mk (Below.refl w.heap.size w)
  have H : (if (wrap64 (a1 + 1)) = (l0.length : Int) then (some (0, 0, false)) else (if 0 ≤ (wrap64 (a1 + 1)) then (if (wrap64 (a1 + 1)) < (l0.length : Int) then ((spec_scLong.f (rd l0 (wrap64 (a1 + 1)))).bind fun t135 => (if t135 = 0 then ((spec_scNamed.f k (rd l0 (wrap64 (a1 + 1)))).bind fun t137 => (some (t137, wrap64 (a1 + 2), decide (t137 ≥ 0)))) else (if (wrap64 ((wrap64 (a1 + 2)) + t135)) > (l0.length : Int) then (some (0, 0, false)) else (if 0 ≤ (wrap64 (a1 + 2)) then (if (wrap64 (a1 + 2)) ≤ (wrap64 ((wrap64 (a1 + 2)) + t135)) then (if (wrap64 ((wrap64 (a1 + 2)) + t135)) ≤ (l0.length : Int) then (spec_scEscape.l0 k a1 t135 0 ((l0.take ((wrap64 ((wrap64 (a1 + 2)) + t135)) : Int).toNat).drop ((wrap64 (a1 + 2)) : Int).toNat) (((l0.take ((wrap64 ((wrap64 (a1 + 2)) + t135)) : Int).toNat).drop ((wrap64 (a1 + 2)) : Int).toNat).length : Int) 0) else (none)) else (none)) else (none))))) else (none)) else (none))) = some (r1, r2, r3) := h
  clear h
  by_cases c3 : (wrap64 (a1 + 1)) = (l0.length : Int)
  · rw [if_pos c3] at H
    have c3b0 : ((wrap64 (a1 + 1)) == (l0.length : Int)) = true := beq_iff_eq.mpr c3
    have c3b1 : ((wrap64 (a1 + 1)) != (l0.length : Int)) = false := bne_eq_false_iff_eq.mpr c3
    clear c3
    simp only [Option.some.injEq, Prod.mk.injEq] at H
    obtain ⟨rfl, rfl, rfl⟩ := H
    go_enter Tryd.func15, Tryd.ntmps15
    go_wp2
    go_ret3
    exact ⟨by first | rfl | (simp [errW_none, errW_some] <;> rfl) | (simp [*, errW_none, errW_some] <;> rfl), by repeat (first | (with_reducible first | exact HB.out | apply below_alloc | apply pw_below_drewN | apply below_drew1) | exact HB.out)⟩
  · rw [if_neg c3] at H
    have c3b0 : ((wrap64 (a1 + 1)) == (l0.length : Int)) = false := beq_eq_false_iff_ne.mpr c3
    have c3b1 : ((wrap64 (a1 + 1)) != (l0.length : Int)) = true := bne_iff_ne.mpr c3
    obtain ⟨ji4, hji4⟩ : ∃ j_ : Int, (wrap64 (a1 + 1)) = j_ := ⟨_, rfl⟩
    replace H : (if 0 ≤ (ji4) then (if (ji4) < (l0.length : Int) then ((spec_scLong.f (rd l0 (ji4))).bind fun t135 => (if t135 = 0 then ((spec_scNamed.f k (rd l0 (ji4))).bind fun t137 => (some (t137, wrap64 (a1 + 2), decide (t137 ≥ 0)))) else (if (wrap64 ((wrap64 (a1 + 2)) + t135)) > (l0.length : Int) then (some (0, 0, false)) else (if 0 ≤ (wrap64 (a1 + 2)) then (if (wrap64 (a1 + 2)) ≤ (wrap64 ((wrap64 (a1 + 2)) + t135)) then (if (wrap64 ((wrap64 (a1 + 2)) + t135)) ≤ (l0.length : Int) then (spec_scEscape.l0 k a1 t135 0 ((l0.take ((wrap64 ((wrap64 (a1 + 2)) + t135)) : Int).toNat).drop ((wrap64 (a1 + 2)) : Int).toNat) (((l0.take ((wrap64 ((wrap64 (a1 + 2)) + t135)) : Int).toNat).drop ((wrap64 (a1 + 2)) : Int).toNat).length : Int) 0) else (none)) else (none)) else (none))))) else (none)) else (none)) = some (r1, r2, r3) := by first | (rw [hji4] at H; exact H) | (simp only [hji4] at H ⊢; exact H)
    (try rw [hji4] at c3b0)
    (try rw [hji4] at c3b1)
    have hji4w : (IntKind.i64.wrap (a1 + 1)) = ji4 := (i64_w _).trans hji4
    by_cases c5 : 0 ≤ (ji4)
    · rw [if_pos c5] at H
      have c5b0 : decide (0 ≤ (ji4)) = true := decide_eq_true c5
      clear c5
      by_cases c6 : (ji4) < (l0.length : Int)
      · rw [if_pos c6] at H
        have c6b0 : decide ((ji4) < (l0.length : Int)) = true := decide_eq_true c6
        clear c6
        replace H := Option.bind_eq_some_iff.mp H
        obtain ⟨t135, A70, H⟩ := H
        replace H : (if t135 = 0 then ((spec_scNamed.f k (rd l0 (ji4))).bind fun t137 => (some (t137, wrap64 (a1 + 2), decide (t137 ≥ 0)))) else (if (wrap64 ((wrap64 (a1 + 2)) + t135)) > (l0.length : Int) then (some (0, 0, false)) else (if 0 ≤ (wrap64 (a1 + 2)) then (if (wrap64 (a1 + 2)) ≤ (wrap64 ((wrap64 (a1 + 2)) + t135)) then (if (wrap64 ((wrap64 (a1 + 2)) + t135)) ≤ (l0.length : Int) then (spec_scEscape.l0 k a1 t135 0 ((l0.take ((wrap64 ((wrap64 (a1 + 2)) + t135)) : Int).toNat).drop ((wrap64 (a1 + 2)) : Int).toNat) (((l0.take ((wrap64 ((wrap64 (a1 + 2)) + t135)) : Int).toNat).drop ((wrap64 (a1 + 2)) : Int).toNat).length : Int) 0) else (none)) else (none)) else (none)))) = some (r1, r2, r3) := H
        have A7 := Aside0.mk A70
        clear A70
        by_cases c8 : t135 = 0
        · rw [if_pos c8] at H
          have c8b0 : (t135 == 0) = true := beq_iff_eq.mpr c8
          have c8b1 : (t135 != 0) = false := bne_eq_false_iff_eq.mpr c8
          clear c8
          replace H := Option.bind_eq_some_iff.mp H
          obtain ⟨t137, A90, H⟩ := H
          replace H : (some (t137, wrap64 (a1 + 2), decide (t137 ≥ 0))) = some (r1, r2, r3) := H
          have A9 := Aside0.mk A90
          clear A90
          simp only [Option.some.injEq, Prod.mk.injEq] at H
          obtain ⟨rfl, rfl, rfl⟩ := H
          have p134 : 0 ≤ ((ji4) : Int) := of_decide_eq_true (by first | (with_reducible assumption) | assumption)
          have q134 : (ji4) < (l0.length : Int) := of_decide_eq_true (by first | (with_reducible assumption) | assumption)
          obtain ⟨ad134, e134, hx134_0⟩ := Kd.at_int HR0.out (ji4) p134 q134
          cases e134
          replace p134 := eq_true p134
          replace q134 := eq_true q134
          go_enter Tryd.func15, Tryd.ntmps15
          go_wp2_with (first | ((go_at_call 23); (with_reducible refine (spec_scLong.calls (rd l0 (ji4)) t135 _ A7.out).mono ?_); rintro e w' ⟨rfl, ⟨nd, rfl⟩⟩; have p136 : 0 ≤ ((ji4) : Int) := of_decide_eq_true (by first | (with_reducible assumption) | assumption); have q136 : (ji4) < (l0.length : Int) := of_decide_eq_true (by first | (with_reducible assumption) | assumption); obtain ⟨ad136, e136, hx136_0⟩ := Kd.at_int HR0.out (ji4) p136 q136; obtain rfl : ad134 = ad136 := (by injection e136); replace p136 := eq_true p136; replace q136 := eq_true q136) | ((go_at_call 24); (with_reducible refine (spec_scNamed.calls k (rd l0 (ji4)) t137 _ A9.out).mono ?_); rintro e w' ⟨rfl, ⟨nd, rfl⟩⟩))
          go_ret3
          exact ⟨by first | rfl | (simp [errW_none, errW_some] <;> rfl) | (simp only [← hji4]; first | rfl | (simp [errW_none, errW_some] <;> rfl)) | (simp [*, errW_none, errW_some] <;> rfl), by repeat (first | (with_reducible first | exact HB.out | apply below_alloc | apply pw_below_drewN | apply below_drew1) | exact HB.out)⟩
        · rw [if_neg c8] at H
          have c8b0 : (t135 == 0) = false := beq_eq_false_iff_ne.mpr c8
          have c8b1 : (t135 != 0) = true := bne_iff_ne.mpr c8
          by_cases c10 : (wrap64 ((wrap64 (a1 + 2)) + t135)) > (l0.length : Int)
          · rw [if_pos c10] at H
            have c10b0 : decide ((l0.length : Int) < (wrap64 ((wrap64 (a1 + 2)) + t135))) = true := decide_eq_true c10
            clear c10
            simp only [Option.some.injEq, Prod.mk.injEq] at H
            obtain ⟨rfl, rfl, rfl⟩ := H
            have p134 : 0 ≤ ((ji4) : Int) := of_decide_eq_true (by first | (with_reducible assumption) | assumption)
            have q134 : (ji4) < (l0.length : Int) := of_decide_eq_true (by first | (with_reducible assumption) | assumption)
            obtain ⟨ad134, e134, hx134_0⟩ := Kd.at_int HR0.out (ji4) p134 q134
            cases e134
            replace p134 := eq_true p134
            replace q134 := eq_true q134
            go_enter Tryd.func15, Tryd.ntmps15
            go_wp2_with (first | ((go_at_call 23); (with_reducible refine (spec_scLong.calls (rd l0 (ji4)) t135 _ A7.out).mono ?_); rintro e w' ⟨rfl, ⟨nd, rfl⟩⟩))
            go_ret3
            exact ⟨by first | rfl | (simp [errW_none, errW_some] <;> rfl) | (simp only [← hji4]; first | rfl | (simp [errW_none, errW_some] <;> rfl)) | (simp [*, errW_none, errW_some] <;> rfl), by repeat (first | (with_reducible first | exact HB.out | apply below_alloc | apply pw_below_drewN | apply below_drew1) | exact HB.out)⟩
          · rw [if_neg c10] at H
            have c10b0 : decide ((l0.length : Int) < (wrap64 ((wrap64 (a1 + 2)) + t135))) = false := decide_eq_false c10
            clear c10
            obtain ⟨ji11, hji11⟩ : ∃ j_ : Int, (wrap64 (a1 + 2)) = j_ := ⟨_, rfl⟩
            replace H : (if 0 ≤ (ji11) then (if (ji11) ≤ (wrap64 ((ji11) + t135)) then (if (wrap64 ((ji11) + t135)) ≤ (l0.length : Int) then (spec_scEscape.l0 k a1 t135 0 ((l0.take ((wrap64 ((ji11) + t135)) : Int).toNat).drop ((ji11) : Int).toNat) (((l0.take ((wrap64 ((ji11) + t135)) : Int).toNat).drop ((ji11) : Int).toNat).length : Int) 0) else (none)) else (none)) else (none)) = some (r1, r2, r3) := by first | (rw [hji11] at H; exact H) | (simp only [hji11] at H ⊢; exact H)
            (try rw [hji11] at c10b0)
            (try rw [hji11] at A7)
            have hji11w : (IntKind.i64.wrap (a1 + 2)) = ji11 := (i64_w _).trans hji11
            by_cases c12 : 0 ≤ (ji11)
            · rw [if_pos c12] at H
              have c12b0 := eq_true c12
              have c12b1 : decide (0 ≤ (ji11)) = true := decide_eq_true c12
              clear c12
              by_cases c13 : (ji11) ≤ (wrap64 ((ji11) + t135))
              · rw [if_pos c13] at H
                have c13b0 := eq_true c13
                have c13b1 : decide ((ji11) ≤ (wrap64 ((ji11) + t135))) = true := decide_eq_true c13
                by_cases c14 : (wrap64 ((ji11) + t135)) ≤ (l0.length : Int)
                · rw [if_pos c14] at H
                  have c14b0 := eq_true c14
                  have c14b1 : decide ((wrap64 ((ji11) + t135)) ≤ (l0.length : Int)) = true := decide_eq_true c14
                  have HLN := Aside0.mk (show ((l0.take ((wrap64 ((ji11) + t135)) : Int).toNat).drop ((ji11) : Int).toNat).length = (wrap64 ((ji11) + t135)).toNat - (ji11).toNat by simp only [List.length_drop, List.length_take]; omega)
                  have H' := Aside0.mk H
                  clear H
                  have p134 : 0 ≤ ((ji4) : Int) := of_decide_eq_true (by first | (with_reducible assumption) | assumption)
                  have q134 : (ji4) < (l0.length : Int) := of_decide_eq_true (by first | (with_reducible assumption) | assumption)
                  obtain ⟨ad134, e134, hx134_0⟩ := Kd.at_int HR0.out (ji4) p134 q134
                  cases e134
                  replace p134 := eq_true p134
                  replace q134 := eq_true q134
                  go_enter Tryd.func15, Tryd.ntmps15
                  go_wp2_with (first | ((go_at_call 23); (with_reducible refine (spec_scLong.calls (rd l0 (ji4)) t135 _ A7.out).mono ?_); rintro e w' ⟨rfl, ⟨nd, rfl⟩⟩; obtain ⟨i015, hi015, _, hsz15, _⟩ := info_parts info21; obtain ⟨A15, hcut15, hA15, hC15⟩ := print_mid_of (P := Tryd.prog) (Value.int .i32) 0 32 21 .i64 .i64 Tryd.underlying32 hi015 hsz15 (some ad134) c0 l0 (ji11) (wrap64 ((ji11) + t135)) (of_decide_eq_true (by first | (with_reducible assumption) | assumption)) (by first | omega | exact of_decide_eq_true (by first | (with_reducible assumption) | assumption)) (of_decide_eq_true (by first | (with_reducible assumption) | assumption)) HC0.out; have HR138 := Aside0.mk (Kd.C_of_reads (h1 := fun _ => rfl) (hA15 _ (Kd.reads_of_C HR0.out))); have HC138 := Aside0.mk hC15; clear hA15 hC15 hi015 hsz15))
                  go_loopg [8, 52] k (fun kq v8 v52 w' => ∃ (x8_1 : Int) (x52_1 : Int), v8 = .int .i64 x8_1 ∧ v52 = .int .i64 x52_1 ∧ Aside0 (spec_scEscape.l0 kq a1 t135 x8_1 ((l0.take ((wrap64 ((ji11) + t135)) : Int).toNat).drop ((ji11) : Int).toNat) (((l0.take ((wrap64 ((ji11) + t135)) : Int).toNat).drop ((ji11) : Int).toNat).length : Int) x52_1 = some (r1, r2, r3)) ∧ Aside0 (kq ≤ k) ∧ Aside0 (Below w.heap.size w w'))
                  case atStart => exact ⟨(0), (0), (by first | rfl | (simp; done) | (simp [*]; done)), (by first | rfl | (simp; done) | (simp [*]; done)), H', ⟨Nat.le_refl _⟩, ⟨by repeat (first | (with_reducible first | exact HB.out | apply below_alloc | apply pw_below_drewN | apply below_drew1) | exact HB.out)⟩⟩
                  case round =>
                    clear H'
                    try clear c1
                    try clear p1
                    try clear q1
                    try clear hx1
                    try clear c2
                    try clear p2
                    try clear c3
                    try clear c3b0
                    try clear c3b1
                    try clear c5
                    try clear c5b0
                    try clear c6
                    try clear c6b0
                    try clear p6
                    try clear c8
                    try clear c8b0
                    try clear c8b1
                    try clear c10
                    try clear c10b0
                    try clear c12
                    try clear c12b0
                    try clear c12b1
                    try clear c13
                    try clear c13b0
                    try clear c13b1
                    try clear p13
                    try clear q13
                    try clear hx13
                    try clear c14
                    try clear c14b0
                    try clear c14b1
                    try clear c15
                    try clear hx134_0
                    try clear hx136_0
                    try clear p134
                    try clear p136
                    try clear q134
                    try clear q136
                    obtain ⟨x8_1, x52_1, rfl, rfl, HA, HK1, HB⟩ := hrel
                    cases gk with
                    | zero => exact absurd HA.out (by simp [spec_scEscape.l0])
                    | succ k1 =>
                      have H := HA.out
                      clear HA
                      simp only [spec_scEscape.l0] at H
                      by_cases c16 : x52_1 < (((l0.take ((wrap64 ((ji11) + t135)) : Int).toNat).drop ((ji11) : Int).toNat).length : Int)
                      · rw [if_pos c16] at H
                        have c16b0 : decide (x52_1 < (((l0.take ((wrap64 ((ji11) + t135)) : Int).toNat).drop ((ji11) : Int).toNat).length : Int)) = true := decide_eq_true c16; have c16b9 : decide (x52_1 < (((wrap64 ((ji11) + t135)).toNat - (ji11).toNat : Nat) : Int)) = true := decide_eq_true (by have := HLN.out; omega)
                        clear c16
                        by_cases c17 : 0 ≤ x52_1
                        · rw [if_pos c17] at H
                          have c17b0 : decide (0 ≤ x52_1) = true := decide_eq_true c17
                          clear c17
                          by_cases c18 : x52_1 < (((l0.take ((wrap64 ((ji11) + t135)) : Int).toNat).drop ((ji11) : Int).toNat).length : Int)
                          · rw [if_pos c18] at H
                            have c18b0 : decide (x52_1 < (((l0.take ((wrap64 ((ji11) + t135)) : Int).toNat).drop ((ji11) : Int).toNat).length : Int)) = true := decide_eq_true c18; have c18b9 : decide (x52_1 < (((wrap64 ((ji11) + t135)).toNat - (ji11).toNat : Nat) : Int)) = true := decide_eq_true (by have := HLN.out; omega)
                            clear c18
                            replace H := Option.bind_eq_some_iff.mp H
                            obtain ⟨t140, A190, H⟩ := H
                            replace H : (if t140 < 0 then (some (0, 0, false)) else (spec_scEscape.l0 k1 a1 t135 (wrap64 ((wrap64 (x8_1 * 16)) + (wrap64 (t140)))) ((l0.take ((wrap64 ((ji11) + t135)) : Int).toNat).drop ((ji11) : Int).toNat) (((l0.take ((wrap64 ((ji11) + t135)) : Int).toNat).drop ((ji11) : Int).toNat).length : Int) (wrap64 (x52_1 + 1)))) = some (r1, r2, r3) := H
                            have A19 := Aside0.mk A190
                            clear A190
                            by_cases c20 : t140 < 0
                            · rw [if_pos c20] at H
                              have c20b0 : decide (t140 < 0) = true := decide_eq_true c20
                              clear c20
                              simp only [Option.some.injEq, Prod.mk.injEq] at H
                              obtain ⟨rfl, rfl, rfl⟩ := H
                              have p139 : 0 ≤ (x52_1 : Int) := of_decide_eq_true (by first | (with_reducible assumption) | assumption)
                              have q139 : x52_1 < (((l0.take ((wrap64 ((ji11) + t135)) : Int).toNat).drop ((ji11) : Int).toNat).length : Int) := of_decide_eq_true (by first | (with_reducible assumption) | assumption)
                              obtain ⟨ad139, e139, hx139_0⟩ := Kd.at_int HR138.out x52_1 p139 q139
                              cases e139
                              replace hx139_0 := (HB.out.cell (World.block_lt_of_cell? w _ hx139_0)).trans hx139_0
                              replace p139 := eq_true p139
                              replace q139 := eq_true q139
                              go_wp2_with (first | ((go_at_call 25); (with_reducible refine (spec_scHex.calls k1 (rd ((l0.take ((wrap64 ((ji11) + t135)) : Int).toNat).drop ((ji11) : Int).toNat) x52_1) t140 _ A19.out).mono ?_); rintro e w' ⟨rfl, ⟨nd, rfl⟩⟩))
                              all_goals try (exfalso; have := of_decide_eq_true c16b9; omega)
                              go_ret3
                              exact ⟨by first | rfl | (simp [errW_none, errW_some] <;> rfl) | (simp only [← hji4, ← hji11]; first | rfl | (simp [errW_none, errW_some] <;> rfl)) | (simp [*, errW_none, errW_some] <;> rfl), by repeat (first | (with_reducible first | exact HB.out | apply below_alloc | apply pw_below_drewN | apply below_drew1) | exact HB.out)⟩
                            · rw [if_neg c20] at H
                              have c20b0 : decide (t140 < 0) = false := decide_eq_false c20
                              clear c20
                              have H' := Aside0.mk H
                              clear H
                              have p139 : 0 ≤ (x52_1 : Int) := of_decide_eq_true (by first | (with_reducible assumption) | assumption)
                              have q139 : x52_1 < (((l0.take ((wrap64 ((ji11) + t135)) : Int).toNat).drop ((ji11) : Int).toNat).length : Int) := of_decide_eq_true (by first | (with_reducible assumption) | assumption)
                              obtain ⟨ad139, e139, hx139_0⟩ := Kd.at_int HR138.out x52_1 p139 q139
                              cases e139
                              replace hx139_0 := (HB.out.cell (World.block_lt_of_cell? w _ hx139_0)).trans hx139_0
                              replace p139 := eq_true p139
                              replace q139 := eq_true q139
                              go_wp2_with (first | ((go_at_call 25); (with_reducible refine (spec_scHex.calls k1 (rd ((l0.take ((wrap64 ((ji11) + t135)) : Int).toNat).drop ((ji11) : Int).toNat) x52_1) t140 _ A19.out).mono ?_); rintro e w' ⟨rfl, ⟨nd, rfl⟩⟩))
                              all_goals try (exfalso; have := of_decide_eq_true c16b9; omega)
                              go_roundg k1
                              case measure => have := HK1.out; omega
                              case rel => exact ⟨(wrap64 ((wrap64 (x8_1 * 16)) + (wrap64 (t140)))), (wrap64 (x52_1 + 1)), (by first | rfl | (simp; done) | (simp [*]; done)), (by first | rfl | (simp; done) | (simp [*]; done)), H', ⟨by have := HK1.out; omega⟩, ⟨by repeat (first | (with_reducible first | exact HB.out | apply below_alloc | apply pw_below_drewN | apply below_drew1) | exact HB.out)⟩⟩
                          · rw [if_neg c18] at H
                            exact absurd H (by simp)
                        · rw [if_neg c17] at H
                          exact absurd H (by simp)
                      · rw [if_neg c16] at H
                        have c16b0 : decide (x52_1 < (((l0.take ((wrap64 ((ji11) + t135)) : Int).toNat).drop ((ji11) : Int).toNat).length : Int)) = false := decide_eq_false c16; have c16b9 : decide (x52_1 < (((wrap64 ((ji11) + t135)).toNat - (ji11).toNat : Nat) : Int)) = false := decide_eq_false (by have := HLN.out; omega)
                        clear c16
                        obtain ⟨ji21, hji21⟩ : ∃ j_ : Int, (mn x8_1 1114112) = j_ := ⟨_, rfl⟩
                        replace H : (if x8_1 ≤ 1114111 then (if x8_1 < 55296 then (some (wrap32 (ji21), wrap64 ((wrap64 (a1 + 2)) + t135), true)) else (some (wrap32 (ji21), wrap64 ((wrap64 (a1 + 2)) + t135), decide (x8_1 > 57343)))) else (some (wrap32 (ji21), wrap64 ((wrap64 (a1 + 2)) + t135), false))) = some (r1, r2, r3) := by first | (rw [hji21] at H; exact H) | (simp only [hji21] at H ⊢; exact H)
                        have hji21_ : (if 1114112 < x8_1 then 1114112 else x8_1) = ji21 := hji21
                        by_cases c22 : x8_1 ≤ 1114111
                        · rw [if_pos c22] at H
                          have c22b0 : decide (x8_1 ≤ 1114111) = true := decide_eq_true c22
                          clear c22
                          by_cases c23 : x8_1 < 55296
                          · rw [if_pos c23] at H
                            have c23b0 : decide (x8_1 < 55296) = true := decide_eq_true c23
                            clear c23
                            simp only [Option.some.injEq, Prod.mk.injEq] at H
                            obtain ⟨rfl, rfl, rfl⟩ := H
                            go_wp2
                            go_ret3
                            exact ⟨by first | rfl | (simp [errW_none, errW_some] <;> rfl) | (simp only [← hji4, ← hji11, ← hji21]; first | rfl | (simp [errW_none, errW_some] <;> rfl)) | (simp [*, errW_none, errW_some] <;> rfl), by repeat (first | (with_reducible first | exact HB.out | apply below_alloc | apply pw_below_drewN | apply below_drew1) | exact HB.out)⟩
                          · rw [if_neg c23] at H
                            have c23b0 : decide (x8_1 < 55296) = false := decide_eq_false c23
                            clear c23
                            simp only [Option.some.injEq, Prod.mk.injEq] at H
                            obtain ⟨rfl, rfl, rfl⟩ := H
                            go_wp2
                            go_ret3
                            exact ⟨by first | rfl | (simp [errW_none, errW_some] <;> rfl) | (simp only [← hji4, ← hji11, ← hji21]; first | rfl | (simp [errW_none, errW_some] <;> rfl)) | (simp [*, errW_none, errW_some] <;> rfl), by repeat (first | (with_reducible first | exact HB.out | apply below_alloc | apply pw_below_drewN | apply below_drew1) | exact HB.out)⟩
                        · rw [if_neg c22] at H
                          have c22b0 : decide (x8_1 ≤ 1114111) = false := decide_eq_false c22
                          clear c22
                          simp only [Option.some.injEq, Prod.mk.injEq] at H
                          obtain ⟨rfl, rfl, rfl⟩ := H
                          go_wp2
                          go_ret3
                          exact ⟨by first | rfl | (simp [errW_none, errW_some] <;> rfl) | (simp only [← hji4, ← hji11, ← hji21]; first | rfl | (simp [errW_none, errW_some] <;> rfl)) | (simp [*, errW_none, errW_some] <;> rfl), by repeat (first | (with_reducible first | exact HB.out | apply below_alloc | apply pw_below_drewN | apply below_drew1) | exact HB.out)⟩
                · rw [if_neg c14] at H
                  exact absurd H (by simp)
              · rw [if_neg c13] at H
                exact absurd H (by simp)
            · rw [if_neg c12] at H
              exact absurd H (by simp)
      · rw [if_neg c6] at H
        exact absurd H (by simp)
    · rw [if_neg c5] at H
      exact absurd H (by simp)

end Go.Proofs.YtgglhfbjbddjjaaDoor.LEscape
