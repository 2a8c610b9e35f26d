/- From the printed text PFnHeaderWrittenx2 (the tool print.sh wrote it), mended by mendhead.py. -/
import Derived.Test.YtmildhkegpmacaaDoorPFnHeaderWrittenx0
import Derived.Test.YtmildhkegpmacaaDoorPFnHeaderWrittenx1
namespace Go.Proofs.YtmildhkegpmacaaDoor.PFnHeaderWritten
open Go.RowKit Go.Proofs.YtmildhkegpmacaaDoorW.PrintWords Go.Proofs.YtmildhkegpmacaaDoorW.PrintLast Go.Proofs.YtmildhkegpmacaaDoorW.PrintMore
attribute [local go_sem] max2_int min2_int max_two min_two max_three min_three max_four min_four   -- for this text's walks alone
set_option linter.unusedVariables false
set_option linter.unusedSimpArgs false

/-! ### spec_scIndent: function 38 -/
mutual
def spec_scIndent.j0 : Nat → List (List Int) → Int → Int → Int → Option (Int × Bool)
  | 0, _, _, _, _ => none
  | k + 1, x0, x1, x2, x8 => spec_scIndent.l0 k x0 x1 x2 x8 x0 (x0.length : Int) 0
def spec_scIndent.l0 : Nat → List (List Int) → Int → Int → Int → List (List Int) → Int → Int → Option (Int × Bool)
  | 0, _, _, _, _, _, _, _ => none
  | k + 1, x0, x1, x2, x8, x21, x22, x23 => if x23 < x22 then (if 0 ≤ x23 then (if x23 < (x21.length : Int) then ((spec_scLeading.f k (rd_L1 x21 x23)).bind fun t114 => (if t114 = ((rd_L1 x21 x23).length : Int) then (spec_scIndent.l0 k x0 x1 x2 x8 x21 x22 (wrap64 (x23 + 1))) else (if x8 = 0 then (if 0 ≤ t114 then (if t114 < ((rd_L1 x21 x23).length : Int) then (if (rd (rd_L1 x21 x23) t114) = 9 then (spec_scIndent.j2 k x0 x1 x2 t114 t114 x21 x22 x23 true) else (spec_scIndent.j2 k x0 x1 x2 t114 t114 x21 x22 x23 (decide (t114 < (mx (wrap64 (x2 + 1)) 1))))) else (none)) else (none)) else (if t114 < x8 then (some (0, false)) else (spec_scIndent.l0 k x0 x1 x2 x8 x21 x22 (wrap64 (x23 + 1))))))) else (none)) else (none)) else (if x8 < (mx (wrap64 (x2 + 1)) 1) then (some (0, false)) else (spec_scIndent.l1 k x1 x8 x0 (x0.length : Int) 0))
def spec_scIndent.j2 : Nat → List (List Int) → Int → Int → Int → Int → List (List Int) → Int → Int → Bool → Option (Int × Bool)
  | 0, _, _, _, _, _, _, _, _, _ => none
  | k + 1, x0, x1, x2, x8, x11, x21, x22, x23, x47 => if x47 = true then (some (0, false)) else (if x11 < x8 then (some (0, false)) else (spec_scIndent.l0 k x0 x1 x2 x8 x21 x22 (wrap64 (x23 + 1))))
def spec_scIndent.l1 : Nat → Int → Int → List (List Int) → Int → Int → Option (Int × Bool)
  | 0, _, _, _, _, _ => none
  | k + 1, x1, x8, x57, x58, x59 => if x59 < x58 then (if 0 ≤ x59 then (if x59 < (x57.length : Int) then ((spec_scLeading.f k (rd_L1 x57 x59)).bind fun t117 => (if t117 < ((rd_L1 x57 x59).length : Int) then (some (x8, true)) else (if t117 > x8 then (if x1 = 0 then (some (0, false)) else (spec_scIndent.l1 k x1 x8 x57 x58 (wrap64 (x59 + 1)))) else (spec_scIndent.l1 k x1 x8 x57 x58 (wrap64 (x59 + 1)))))) else (none)) else (none)) else (some (x8, true))
end
def spec_scIndent.f (k : Nat) (l0 : List (List Int)) (a1 : Int) (a2 : Int) : Option (Int × Bool) := if a1 > 0 then (spec_scIndent.j0 k l0 a1 a2 (wrap64 ((mx a2 0) + a1))) else (spec_scIndent.j0 k l0 a1 a2 0)
theorem spec_scIndent.mono_l : ∀ k, (∀ y0 y1 y2 y3, LeO (spec_scIndent.j0 k y0 y1 y2 y3) (spec_scIndent.j0 (k + 1) y0 y1 y2 y3)) ∧ (∀ y0 y1 y2 y3 y4 y5 y6, LeO (spec_scIndent.l0 k y0 y1 y2 y3 y4 y5 y6) (spec_scIndent.l0 (k + 1) y0 y1 y2 y3 y4 y5 y6)) ∧ (∀ y0 y1 y2 y3 y4 y5 y6 y7 y8, LeO (spec_scIndent.j2 k y0 y1 y2 y3 y4 y5 y6 y7 y8) (spec_scIndent.j2 (k + 1) y0 y1 y2 y3 y4 y5 y6 y7 y8)) ∧ (∀ y0 y1 y2 y3 y4, LeO (spec_scIndent.l1 k y0 y1 y2 y3 y4) (spec_scIndent.l1 (k + 1) y0 y1 y2 y3 y4))
  | 0 => ⟨fun _ _ _ _ r h => by simp [spec_scIndent.j0] at h, fun _ _ _ _ _ _ _ r h => by simp [spec_scIndent.l0] at h, fun _ _ _ _ _ _ _ _ _ r h => by simp [spec_scIndent.j2] at h, fun _ _ _ _ _ r h => by simp [spec_scIndent.l1] at h⟩
  | k + 1 => by
    obtain ⟨ih0, ih1, ih2, ih3⟩ := spec_scIndent.mono_l k
    refine ⟨?_, ?_, ?_, ?_⟩
    · intro y0 y1 y2 y3
      unfold spec_scIndent.j0
      repeat' first
      | (with_reducible exact ih0 _ _ _ _)
      | (with_reducible exact ih1 _ _ _ _ _ _ _)
      | (with_reducible exact ih2 _ _ _ _ _ _ _ _ _)
      | (with_reducible exact ih3 _ _ _ _ _)
      | (with_reducible exact spec_scLeading.mono _ _)
      | (with_reducible exact LeO.refl _)
      | (with_reducible exact LeO.none _)
      | (with_reducible refine LeO.ite ?_ ?_)
      | (with_reducible refine LeO.bind ?_ (fun _ => ?_))
      | exact ih0 _ _ _ _
      | exact ih1 _ _ _ _ _ _ _
      | exact ih2 _ _ _ _ _ _ _ _ _
      | exact ih3 _ _ _ _ _
      | exact spec_scLeading.mono _ _
      | exact LeO.none _
      | refine LeO.ite ?_ ?_
      | refine LeO.bind ?_ (fun _ => ?_)
    · intro y0 y1 y2 y3 y4 y5 y6
      unfold spec_scIndent.l0
      repeat' first
      | (with_reducible exact ih0 _ _ _ _)
      | (with_reducible exact ih1 _ _ _ _ _ _ _)
      | (with_reducible exact ih2 _ _ _ _ _ _ _ _ _)
      | (with_reducible exact ih3 _ _ _ _ _)
      | (with_reducible exact spec_scLeading.mono _ _)
      | (with_reducible exact LeO.refl _)
      | (with_reducible exact LeO.none _)
      | (with_reducible refine LeO.ite ?_ ?_)
      | (with_reducible refine LeO.bind ?_ (fun _ => ?_))
      | exact ih0 _ _ _ _
      | exact ih1 _ _ _ _ _ _ _
      | exact ih2 _ _ _ _ _ _ _ _ _
      | exact ih3 _ _ _ _ _
      | exact spec_scLeading.mono _ _
      | exact LeO.none _
      | refine LeO.ite ?_ ?_
      | refine LeO.bind ?_ (fun _ => ?_)
    · intro y0 y1 y2 y3 y4 y5 y6 y7 y8
      unfold spec_scIndent.j2
      repeat' first
      | (with_reducible exact ih0 _ _ _ _)
      | (with_reducible exact ih1 _ _ _ _ _ _ _)
      | (with_reducible exact ih2 _ _ _ _ _ _ _ _ _)
      | (with_reducible exact ih3 _ _ _ _ _)
      | (with_reducible exact spec_scLeading.mono _ _)
      | (with_reducible exact LeO.refl _)
      | (with_reducible exact LeO.none _)
      | (with_reducible refine LeO.ite ?_ ?_)
      | (with_reducible refine LeO.bind ?_ (fun _ => ?_))
      | exact ih0 _ _ _ _
      | exact ih1 _ _ _ _ _ _ _
      | exact ih2 _ _ _ _ _ _ _ _ _
      | exact ih3 _ _ _ _ _
      | exact spec_scLeading.mono _ _
      | exact LeO.none _
      | refine LeO.ite ?_ ?_
      | refine LeO.bind ?_ (fun _ => ?_)
    · intro y0 y1 y2 y3 y4
      unfold spec_scIndent.l1
      repeat' first
      | (with_reducible exact ih0 _ _ _ _)
      | (with_reducible exact ih1 _ _ _ _ _ _ _)
      | (with_reducible exact ih2 _ _ _ _ _ _ _ _ _)
      | (with_reducible exact ih3 _ _ _ _ _)
      | (with_reducible exact spec_scLeading.mono _ _)
      | (with_reducible exact LeO.refl _)
      | (with_reducible exact LeO.none _)
      | (with_reducible refine LeO.ite ?_ ?_)
      | (with_reducible refine LeO.bind ?_ (fun _ => ?_))
      | exact ih0 _ _ _ _
      | exact ih1 _ _ _ _ _ _ _
      | exact ih2 _ _ _ _ _ _ _ _ _
      | exact ih3 _ _ _ _ _
      | exact spec_scLeading.mono _ _
      | exact LeO.none _
      | refine LeO.ite ?_ ?_
      | refine LeO.bind ?_ (fun _ => ?_)
theorem spec_scIndent.mono : ∀ a0 a1 a2 k, LeO (spec_scIndent.f k a0 a1 a2) (spec_scIndent.f (k + 1) a0 a1 a2) := by
  intro a0 a1 a2 k
  obtain ⟨ih0, ih1, ih2, ih3⟩ := spec_scIndent.mono_l k
  unfold spec_scIndent.f
  repeat' first
      | (with_reducible exact ih0 _ _ _ _)
      | (with_reducible exact ih1 _ _ _ _ _ _ _)
      | (with_reducible exact ih2 _ _ _ _ _ _ _ _ _)
      | (with_reducible exact ih3 _ _ _ _ _)
      | (with_reducible exact spec_scLeading.mono _ _)
      | (with_reducible exact LeO.refl _)
      | (with_reducible exact LeO.none _)
      | (with_reducible refine LeO.ite ?_ ?_)
      | (with_reducible refine LeO.bind ?_ (fun _ => ?_))
      | exact ih0 _ _ _ _
      | exact ih1 _ _ _ _ _ _ _
      | exact ih2 _ _ _ _ _ _ _ _ _
      | exact ih3 _ _ _ _ _
      | exact spec_scLeading.mono _ _
      | exact LeO.none _
      | refine LeO.ite ?_ ?_
      | refine LeO.bind ?_ (fun _ => ?_)
set_option maxHeartbeats 8000000 in
set_option maxRecDepth 100000 in
theorem spec_scIndent.calls (k : Nat) (A0 : Option Addr) (c0 : Nat) (l0 : List (List Int)) (a1 : Int) (a2 : Int) (r1 : Int) (r2 : Bool) (w : World) (hr0 : Kd.C (Kd.slice 21 (Kd.int .i32)) w A0 l0.length l0) (hc0 : l0.length ≤ c0) (h : spec_scIndent.f k l0 a1 a2 = some (r1, r2)) :
    Calls Tryd.prog 38 #[.slice A0 l0.length c0, .int .i64 a1, .int .i64 a2] w fun e w' => e = .returned (.tuple #[.int .i64 r1, .bool r2]) ∧ Below w.heap.size w w' := by
  have HR0 := Aside0.mk hr0
  have HC0 := Aside0.mk hc0
  clear hr0 hc0
  have HB := Aside0.mk (Below.refl w.heap.size w)
  have H : (if a1 > 0 then (spec_scIndent.j0 k l0 a1 a2 (wrap64 ((mx a2 0) + a1))) else (spec_scIndent.j0 k l0 a1 a2 0)) = some (r1, r2) := h
  clear h
  have HC4 := Aside0.mk H
  clear H
  go_enter Tryd.func38, Tryd.ntmps38
  go_upto_if 16 with (fail)
  go_cut [8] (fun v8 wc => ∃ (kq : Nat) (x8_3 : Int), v8 = .int .i64 x8_3 ∧ Aside0 (spec_scIndent.j0 kq l0 a1 a2 x8_3 = some (r1, r2)) ∧ Aside0 (kq ≤ k) ∧ Aside0 (Below w.heap.size w wc))
  case first =>
    have H := HC4.out
    clear HC4
    by_cases c5 : a1 > 0
    · rw [if_pos c5] at H
      have c5b0 : decide (0 < a1) = true := decide_eq_true c5
      clear c5
      (first | rw [c5b0] | (simp only [i64_w, i32_w]; rw [c5b0]) | skip)
      obtain ⟨ji6, hji6⟩ : ∃ j_ : Int, (mx a2 0) = j_ := ⟨_, rfl⟩
      replace H : (spec_scIndent.j0 k l0 a1 a2 (wrap64 ((ji6) + a1))) = some (r1, r2) := by first | (rw [hji6] at H; exact H) | (simp only [hji6] at H ⊢; exact H)
      (try (have hji6l : 0 ≤ ji6 := by (rw [← hji6]; unfold mx; (repeat' split) <;> omega)))
      (try (have hji6m : 0 ≤ ji6 := by omega))
      have hji6_ : (if a2 < 0 then 0 else a2) = ji6 := hji6
      have H' := Aside0.mk H
      clear H
      go_wp2
      go_meet
      case rel => exact ⟨_, (wrap64 ((ji6) + a1)), (by first | rfl | (simp; done) | (simp only [← hji6] <;> (first | rfl | simp)) | (simp [*]; done)), H', ⟨by first | omega | exact Nat.le_refl _⟩, ⟨by repeat (first | (with_reducible first | exact HB.out | apply below_alloc | apply pw_below_drewN | apply below_drew1) | exact HB.out)⟩⟩
    · rw [if_neg c5] at H
      have c5b0 : decide (0 < a1) = false := decide_eq_false c5
      clear c5
      (first | rw [c5b0] | (simp only [i64_w, i32_w]; rw [c5b0]) | skip)
      have H' := Aside0.mk H
      clear H
      go_wp2
      go_meet
      case rel => exact ⟨_, (0), (by first | rfl | (simp; done) | (simp [*]; done)), H', ⟨by first | omega | exact Nat.le_refl _⟩, ⟨by repeat (first | (with_reducible first | exact HB.out | apply below_alloc | apply pw_below_drewN | apply below_drew1) | exact HB.out)⟩⟩
  case rest =>
    clear HC4
    try clear p2
    try clear c3
    try clear c5
    try clear c5b0
    try clear p6
    obtain ⟨kq, x8_3, rfl, HA, HJ3, HB⟩ := hcut
    cases kq with
    | zero => exact absurd HA.out (by simp [spec_scIndent.j0])
    | succ kj3 =>
      have H := HA.out
      clear HA
      simp only [spec_scIndent.j0] at H
      have H' := Aside0.mk H
      clear H
      go_wp2
      go_loopg [8, 23] kj3 (fun kq v8 v23 w' => ∃ (x8_2 : Int) (x23_2 : Int), v8 = .int .i64 x8_2 ∧ v23 = .int .i64 x23_2 ∧ Aside0 (spec_scIndent.l0 kq l0 a1 a2 x8_2 l0 (l0.length : Int) x23_2 = some (r1, r2)) ∧ Aside0 (kq ≤ kj3) ∧ Aside0 (Below w.heap.size w w'))
      case atStart => exact ⟨(x8_3), (0), (by first | rfl | (simp; done) | (simp [*]; done)), (by first | rfl | (simp; done) | (simp [*]; done)), H', ⟨Nat.le_refl _⟩, ⟨by repeat (first | (with_reducible first | exact HB.out | apply below_alloc | apply pw_below_drewN | apply below_drew1) | exact HB.out)⟩⟩
      case round =>
        clear H'
        try clear p2
        try clear c3
        try clear c5
        try clear c5b0
        try clear p6
        try clear p2
        try clear p6
        obtain ⟨x8_2, x23_2, rfl, rfl, HA, HK2, HB⟩ := hrel
        cases gk with
        | zero => exact absurd HA.out (by simp [spec_scIndent.l0])
        | succ k2 =>
          have H := HA.out
          clear HA
          simp only [spec_scIndent.l0] at H
          by_cases c7 : x23_2 < (l0.length : Int)
          · rw [if_pos c7] at H
            have c7b0 : decide (x23_2 < (l0.length : Int)) = true := decide_eq_true c7
            clear c7
            by_cases c8 : 0 ≤ x23_2
            · rw [if_pos c8] at H
              have c8b0 : decide (0 ≤ x23_2) = true := decide_eq_true c8
              clear c8
              by_cases c9 : x23_2 < (l0.length : Int)
              · rw [if_pos c9] at H
                have c9b0 : decide (x23_2 < (l0.length : Int)) = true := decide_eq_true c9
                clear c9
                replace H := Option.bind_eq_some_iff.mp H
                obtain ⟨t114, A100, H⟩ := H
                replace H : (if t114 = ((rd_L1 l0 x23_2).length : Int) then (spec_scIndent.l0 k2 l0 a1 a2 x8_2 l0 (l0.length : Int) (wrap64 (x23_2 + 1))) else (if x8_2 = 0 then (if 0 ≤ t114 then (if t114 < ((rd_L1 l0 x23_2).length : Int) then (if (rd (rd_L1 l0 x23_2) t114) = 9 then (spec_scIndent.j2 k2 l0 a1 a2 t114 t114 l0 (l0.length : Int) x23_2 true) else (spec_scIndent.j2 k2 l0 a1 a2 t114 t114 l0 (l0.length : Int) x23_2 (decide (t114 < (mx (wrap64 (a2 + 1)) 1))))) else (none)) else (none)) else (if t114 < x8_2 then (some (0, false)) else (spec_scIndent.l0 k2 l0 a1 a2 x8_2 l0 (l0.length : Int) (wrap64 (x23_2 + 1)))))) = some (r1, r2) := H
                have A10 := Aside0.mk A100
                clear A100
                by_cases c11 : t114 = ((rd_L1 l0 x23_2).length : Int)
                · rw [if_pos c11] at H
                  have c11b0 : (t114 == ((rd_L1 l0 x23_2).length : Int)) = true := beq_iff_eq.mpr c11
                  have c11b1 : (t114 != ((rd_L1 l0 x23_2).length : Int)) = false := bne_eq_false_iff_eq.mpr c11
                  clear c11
                  have H' := Aside0.mk H
                  clear H
                  have p113 : 0 ≤ (x23_2 : Int) := of_decide_eq_true (by first | (with_reducible assumption) | assumption)
                  have q113 : x23_2 < (l0.length : Int) := of_decide_eq_true (by first | (with_reducible assumption) | assumption)
                  obtain ⟨ad113, A113_0, c113_0, e113, hx113_0, hl113_0, hi113_0⟩ := at_L1 HR0.out x23_2 p113 q113
                  cases e113
                  replace hx113_0 := (HB.out.cell (World.block_lt_of_cell? w _ hx113_0)).trans hx113_0
                  have HR113_0 := Aside0.mk hi113_0
                  have HC113_0 := Aside0.mk hl113_0
                  clear hi113_0 hl113_0
                  replace p113 := eq_true p113
                  replace q113 := eq_true q113
                  go_wp2_with (first | ((with_reducible refine gate_callee (f := 60) rfl ?_); refine goesL_ (some 28) rfl rfl Tryd.func60 (by kernel_rfl) rfl #[.slice A113_0 (rd_L1 l0 x23_2).length c113_0] rfl (by (try simp only [List.map_toArray, List.map_cons, List.map_nil]); first | done | rfl | (simp only [List.length_drop, List.length_take]; rfl)) ?_; (with_reducible refine (spec_scLeading.calls k2 _ _ (rd_L1 l0 x23_2) t114 _ ?side1 ?side2 A10.out).mono ?_); (case side1 => repeat (first | exact (Kd.C_below HR113_0.out HB.out) | (with_reducible refine Kd.C_alloc ?_ _) | (with_reducible refine Kd.C_drewN ?_ _) | (with_reducible refine Kd.C_drew ?_))); (case side2 => exact HC113_0.out); rintro e w' ⟨rfl, ⟨nd, rfl⟩⟩; refine ⟨_, rfl, ?_⟩))
                  go_roundg k2
                  case measure => have := HJ3.out; have := HK2.out; omega
                  case rel => exact ⟨(x8_2), (wrap64 (x23_2 + 1)), (by first | rfl | (simp; done) | (simp [*]; done)), (by first | rfl | (simp; done) | (simp [*]; done)), H', ⟨by have := HJ3.out; have := HK2.out; omega⟩, ⟨by repeat (first | (with_reducible first | exact HB.out | apply below_alloc | apply pw_below_drewN | apply below_drew1) | exact HB.out)⟩⟩
                · rw [if_neg c11] at H
                  have c11b0 : (t114 == ((rd_L1 l0 x23_2).length : Int)) = false := beq_eq_false_iff_ne.mpr c11
                  have c11b1 : (t114 != ((rd_L1 l0 x23_2).length : Int)) = true := bne_iff_ne.mpr c11
                  by_cases c12 : x8_2 = 0
                  · rw [if_pos c12] at H
                    have c12b0 : (x8_2 == 0) = true := beq_iff_eq.mpr c12
                    have c12b1 : (x8_2 != 0) = false := bne_eq_false_iff_eq.mpr c12
                    clear c12
                    have HC13 := Aside0.mk H
                    clear H
                    have p113 : 0 ≤ (x23_2 : Int) := of_decide_eq_true (by first | (with_reducible assumption) | assumption)
                    have q113 : x23_2 < (l0.length : Int) := of_decide_eq_true (by first | (with_reducible assumption) | assumption)
                    obtain ⟨ad113, A113_0, c113_0, e113, hx113_0, hl113_0, hi113_0⟩ := at_L1 HR0.out x23_2 p113 q113
                    cases e113
                    replace hx113_0 := (HB.out.cell (World.block_lt_of_cell? w _ hx113_0)).trans hx113_0
                    have HR113_0 := Aside0.mk hi113_0
                    have HC113_0 := Aside0.mk hl113_0
                    clear hi113_0 hl113_0
                    replace p113 := eq_true p113
                    replace q113 := eq_true q113
                    go_upto_region 11 with (first | ((with_reducible refine gate_callee (f := 60) rfl ?_); refine goesL_ (some 28) rfl rfl Tryd.func60 (by kernel_rfl) rfl #[.slice A113_0 (rd_L1 l0 x23_2).length c113_0] rfl (by (try simp only [List.map_toArray, List.map_cons, List.map_nil]); first | done | rfl | (simp only [List.length_drop, List.length_take]; rfl)) ?_; (with_reducible refine (spec_scLeading.calls k2 _ _ (rd_L1 l0 x23_2) t114 _ ?side1 ?side2 A10.out).mono ?_); (case side1 => repeat (first | exact (Kd.C_below HR113_0.out HB.out) | (with_reducible refine Kd.C_alloc ?_ _) | (with_reducible refine Kd.C_drewN ?_ _) | (with_reducible refine Kd.C_drew ?_))); (case side2 => exact HC113_0.out); rintro e w' ⟨rfl, ⟨nd, rfl⟩⟩; refine ⟨_, rfl, ?_⟩))
                    (try simp only [Act.put, List.setIfInBounds_toArray, List.set_cons_zero, List.set_cons_succ])
                    go_cut [47] (fun v47 wc => ∃ (kq : Nat) (x47_12 : Bool), v47 = .bool x47_12 ∧ Aside0 (spec_scIndent.j2 kq l0 a1 a2 t114 t114 l0 (l0.length : Int) x23_2 x47_12 = some (r1, r2)) ∧ Aside0 (kq ≤ k2) ∧ Aside0 (Below w.heap.size w wc))
                    case first =>
                      have H := HC13.out
                      clear HC13
                      by_cases c14 : 0 ≤ t114
                      · rw [if_pos c14] at H
                        have c14b0 : decide (0 ≤ t114) = true := decide_eq_true c14
                        clear c14
                        (first | rw [c14b0] | (simp only [i64_w, i32_w]; rw [c14b0]) | skip)
                        by_cases c15 : t114 < ((rd_L1 l0 x23_2).length : Int)
                        · rw [if_pos c15] at H
                          have c15b0 : decide (t114 < ((rd_L1 l0 x23_2).length : Int)) = true := decide_eq_true c15
                          clear c15
                          by_cases c16 : (rd (rd_L1 l0 x23_2) t114) = 9
                          · rw [if_pos c16] at H
                            have c16b0 : ((rd (rd_L1 l0 x23_2) t114) == 9) = true := beq_iff_eq.mpr c16
                            have c16b1 : ((rd (rd_L1 l0 x23_2) t114) != 9) = false := bne_eq_false_iff_eq.mpr c16
                            clear c16
                            have H' := Aside0.mk H
                            clear H
                            have p115 : 0 ≤ (t114 : Int) := of_decide_eq_true (by first | (with_reducible assumption) | assumption)
                            have q115 : t114 < ((rd_L1 l0 x23_2).length : Int) := of_decide_eq_true (by first | (with_reducible assumption) | assumption)
                            obtain ⟨ad115, e115, hx115_0⟩ := Kd.at_int HR113_0.out t114 p115 q115
                            cases e115
                            replace hx115_0 := (HB.out.cell (World.block_lt_of_cell? w _ hx115_0)).trans hx115_0
                            replace p115 := eq_true p115
                            replace q115 := eq_true q115
                            go_wp2
                            go_meet
                            case rel => exact ⟨_, (true), (by first | rfl | (simp; done) | (simp [*]; done)), H', ⟨by have := HJ3.out; have := HK2.out; first | omega | exact Nat.le_refl _⟩, ⟨by repeat (first | (with_reducible first | exact HB.out | apply below_alloc | apply pw_below_drewN | apply below_drew1) | exact HB.out)⟩⟩
                          · rw [if_neg c16] at H
                            have c16b0 : ((rd (rd_L1 l0 x23_2) t114) == 9) = false := beq_eq_false_iff_ne.mpr c16
                            have c16b1 : ((rd (rd_L1 l0 x23_2) t114) != 9) = true := bne_iff_ne.mpr c16
                            obtain ⟨ji17, hji17⟩ : ∃ j_ : Int, (mx (wrap64 (a2 + 1)) 1) = j_ := ⟨_, rfl⟩
                            replace H : (spec_scIndent.j2 k2 l0 a1 a2 t114 t114 l0 (l0.length : Int) x23_2 (decide (t114 < (ji17)))) = some (r1, r2) := by first | (rw [hji17] at H; exact H) | (simp only [hji17] at H ⊢; exact H)
                            have hji17_ : (if (wrap64 (a2 + 1)) < 1 then 1 else (wrap64 (a2 + 1))) = ji17 := hji17
                            have H' := Aside0.mk H
                            clear H
                            have p115 : 0 ≤ (t114 : Int) := of_decide_eq_true (by first | (with_reducible assumption) | assumption)
                            have q115 : t114 < ((rd_L1 l0 x23_2).length : Int) := of_decide_eq_true (by first | (with_reducible assumption) | assumption)
                            obtain ⟨ad115, e115, hx115_0⟩ := Kd.at_int HR113_0.out t114 p115 q115
                            cases e115
                            replace hx115_0 := (HB.out.cell (World.block_lt_of_cell? w _ hx115_0)).trans hx115_0
                            replace p115 := eq_true p115
                            replace q115 := eq_true q115
                            go_wp2
                            go_meet
                            case rel => exact ⟨_, (decide (t114 < (ji17))), (by first | rfl | (simp; done) | (simp only [← hji17] <;> (first | rfl | simp)) | (simp [*]; done)), H', ⟨by have := HJ3.out; have := HK2.out; first | omega | exact Nat.le_refl _⟩, ⟨by repeat (first | (with_reducible first | exact HB.out | apply below_alloc | apply pw_below_drewN | apply below_drew1) | exact HB.out)⟩⟩
                        · rw [if_neg c15] at H
                          exact absurd H (by simp)
                      · rw [if_neg c14] at H
                        exact absurd H (by simp)
                    case rest =>
                      clear HC13
                      try clear c1
                      try clear p1
                      try clear q1
                      try clear hx1
                      try clear p2
                      try clear c3
                      try clear c5
                      try clear c5b0
                      try clear c6
                      try clear p6
                      try clear c7
                      try clear c7b0
                      try clear c8
                      try clear c8b0
                      try clear c9
                      try clear c9b0
                      try clear c11
                      try clear c11b0
                      try clear c11b1
                      try clear p11
                      try clear q11
                      try clear hx11
                      try clear c12
                      try clear c12b0
                      try clear c12b1
                      try clear c14
                      try clear c14b0
                      try clear c15
                      try clear c15b0
                      try clear c16
                      try clear c16b0
                      try clear c16b1
                      try clear hx113_0
                      try clear hx115_0
                      try clear p113
                      try clear p115
                      try clear p2
                      try clear p6
                      try clear q113
                      try clear q115
                      obtain ⟨kq, x47_12, rfl, HA, HJ12, HB⟩ := hcut
                      cases kq with
                      | zero => exact absurd HA.out (by simp [spec_scIndent.j2])
                      | succ kj12 =>
                        have H := HA.out
                        clear HA
                        simp only [spec_scIndent.j2] at H
                        by_cases c18 : x47_12 = true
                        · subst c18
                          have H1 : (some (0, false)) = some (r1, r2) := by rw [if_pos rfl] at H; exact H
                          clear H
                          have H := H1
                          clear H1
                          simp only [Option.some.injEq, Prod.mk.injEq] at H
                          obtain ⟨rfl, rfl⟩ := H
                          go_wp2
                          go_ret2
                          exact ⟨by first | rfl | (simp [errW_none, errW_some] <;> rfl) | (simp [*, errW_none, errW_some] <;> rfl), by repeat (first | (with_reducible first | exact HB.out | apply below_alloc | apply pw_below_drewN | apply below_drew1) | exact HB.out)⟩
                        · replace c18 := Bool.eq_false_iff.mpr c18
                          subst c18
                          have H1 : (if t114 < t114 then (some (0, false)) else (spec_scIndent.l0 kj12 l0 a1 a2 t114 l0 (l0.length : Int) (wrap64 (x23_2 + 1)))) = some (r1, r2) := by rw [if_neg (show ¬ (false = true) by decide)] at H; exact H
                          clear H
                          have H := H1
                          clear H1
                          by_cases c19 : t114 < t114
                          · exact absurd c19 (by omega)
                          · rw [if_neg c19] at H
                            have c19b0 : decide (t114 < t114) = false := decide_eq_false c19
                            clear c19
                            have H' := Aside0.mk H
                            clear H
                            go_wp2
                            go_roundg kj12
                            case measure => have := HJ3.out; have := HK2.out; have := HJ12.out; omega
                            case rel => exact ⟨(t114), (wrap64 (x23_2 + 1)), (by first | rfl | (simp; done) | (simp [*]; done)), (by first | rfl | (simp; done) | (simp [*]; done)), H', ⟨by have := HJ3.out; have := HK2.out; have := HJ12.out; omega⟩, ⟨by repeat (first | (with_reducible first | exact HB.out | apply below_alloc | apply pw_below_drewN | apply below_drew1) | exact HB.out)⟩⟩
                  · rw [if_neg c12] at H
                    have c12b0 : (x8_2 == 0) = false := beq_eq_false_iff_ne.mpr c12
                    have c12b1 : (x8_2 != 0) = true := bne_iff_ne.mpr c12
                    by_cases c20 : t114 < x8_2
                    · rw [if_pos c20] at H
                      have c20b0 : decide (t114 < x8_2) = true := decide_eq_true c20
                      clear c20
                      simp only [Option.some.injEq, Prod.mk.injEq] at H
                      obtain ⟨rfl, rfl⟩ := H
                      have p113 : 0 ≤ (x23_2 : Int) := of_decide_eq_true (by first | (with_reducible assumption) | assumption)
                      have q113 : x23_2 < (l0.length : Int) := of_decide_eq_true (by first | (with_reducible assumption) | assumption)
                      obtain ⟨ad113, A113_0, c113_0, e113, hx113_0, hl113_0, hi113_0⟩ := at_L1 HR0.out x23_2 p113 q113
                      cases e113
                      replace hx113_0 := (HB.out.cell (World.block_lt_of_cell? w _ hx113_0)).trans hx113_0
                      have HR113_0 := Aside0.mk hi113_0
                      have HC113_0 := Aside0.mk hl113_0
                      clear hi113_0 hl113_0
                      replace p113 := eq_true p113
                      replace q113 := eq_true q113
                      go_wp2_with (first | ((with_reducible refine gate_callee (f := 60) rfl ?_); refine goesL_ (some 28) rfl rfl Tryd.func60 (by kernel_rfl) rfl #[.slice A113_0 (rd_L1 l0 x23_2).length c113_0] rfl (by (try simp only [List.map_toArray, List.map_cons, List.map_nil]); first | done | rfl | (simp only [List.length_drop, List.length_take]; rfl)) ?_; (with_reducible refine (spec_scLeading.calls k2 _ _ (rd_L1 l0 x23_2) t114 _ ?side1 ?side2 A10.out).mono ?_); (case side1 => repeat (first | exact (Kd.C_below HR113_0.out HB.out) | (with_reducible refine Kd.C_alloc ?_ _) | (with_reducible refine Kd.C_drewN ?_ _) | (with_reducible refine Kd.C_drew ?_))); (case side2 => exact HC113_0.out); rintro e w' ⟨rfl, ⟨nd, rfl⟩⟩; refine ⟨_, rfl, ?_⟩))
                      go_ret2
                      exact ⟨by first | rfl | (simp [errW_none, errW_some] <;> rfl) | (simp [*, errW_none, errW_some] <;> rfl), by repeat (first | (with_reducible first | exact HB.out | apply below_alloc | apply pw_below_drewN | apply below_drew1) | exact HB.out)⟩
                    · rw [if_neg c20] at H
                      have c20b0 : decide (t114 < x8_2) = false := decide_eq_false c20
                      clear c20
                      have H' := Aside0.mk H
                      clear H
                      have p113 : 0 ≤ (x23_2 : Int) := of_decide_eq_true (by first | (with_reducible assumption) | assumption)
                      have q113 : x23_2 < (l0.length : Int) := of_decide_eq_true (by first | (with_reducible assumption) | assumption)
                      obtain ⟨ad113, A113_0, c113_0, e113, hx113_0, hl113_0, hi113_0⟩ := at_L1 HR0.out x23_2 p113 q113
                      cases e113
                      replace hx113_0 := (HB.out.cell (World.block_lt_of_cell? w _ hx113_0)).trans hx113_0
                      have HR113_0 := Aside0.mk hi113_0
                      have HC113_0 := Aside0.mk hl113_0
                      clear hi113_0 hl113_0
                      replace p113 := eq_true p113
                      replace q113 := eq_true q113
                      go_wp2_with (first | ((with_reducible refine gate_callee (f := 60) rfl ?_); refine goesL_ (some 28) rfl rfl Tryd.func60 (by kernel_rfl) rfl #[.slice A113_0 (rd_L1 l0 x23_2).length c113_0] rfl (by (try simp only [List.map_toArray, List.map_cons, List.map_nil]); first | done | rfl | (simp only [List.length_drop, List.length_take]; rfl)) ?_; (with_reducible refine (spec_scLeading.calls k2 _ _ (rd_L1 l0 x23_2) t114 _ ?side1 ?side2 A10.out).mono ?_); (case side1 => repeat (first | exact (Kd.C_below HR113_0.out HB.out) | (with_reducible refine Kd.C_alloc ?_ _) | (with_reducible refine Kd.C_drewN ?_ _) | (with_reducible refine Kd.C_drew ?_))); (case side2 => exact HC113_0.out); rintro e w' ⟨rfl, ⟨nd, rfl⟩⟩; refine ⟨_, rfl, ?_⟩))
                      go_roundg k2
                      case measure => have := HJ3.out; have := HK2.out; omega
                      case rel => exact ⟨(x8_2), (wrap64 (x23_2 + 1)), (by first | rfl | (simp; done) | (simp [*]; done)), (by first | rfl | (simp; done) | (simp [*]; done)), H', ⟨by have := HJ3.out; have := HK2.out; omega⟩, ⟨by repeat (first | (with_reducible first | exact HB.out | apply below_alloc | apply pw_below_drewN | apply below_drew1) | exact HB.out)⟩⟩
              · rw [if_neg c9] at H
                exact absurd H (by simp)
            · rw [if_neg c8] at H
              exact absurd H (by simp)
          · rw [if_neg c7] at H
            have c7b0 : decide (x23_2 < (l0.length : Int)) = false := decide_eq_false c7
            clear c7
            obtain ⟨ji21, hji21⟩ : ∃ j_ : Int, (mx (wrap64 (a2 + 1)) 1) = j_ := ⟨_, rfl⟩
            replace H : (if x8_2 < (ji21) then (some (0, false)) else (spec_scIndent.l1 k2 a1 x8_2 l0 (l0.length : Int) 0)) = some (r1, r2) := by first | (rw [hji21] at H; exact H) | (simp only [hji21] at H ⊢; exact H)
            have hji21_ : (if (wrap64 (a2 + 1)) < 1 then 1 else (wrap64 (a2 + 1))) = ji21 := hji21
            by_cases c22 : x8_2 < (ji21)
            · rw [if_pos c22] at H
              have c22b0 : decide (x8_2 < (ji21)) = true := decide_eq_true c22
              clear c22
              simp only [Option.some.injEq, Prod.mk.injEq] at H
              obtain ⟨rfl, rfl⟩ := H
              go_wp2
              go_ret2
              exact ⟨by first | rfl | (simp [errW_none, errW_some] <;> rfl) | (simp only [← hji21]; first | rfl | (simp [errW_none, errW_some] <;> rfl)) | (simp [*, errW_none, errW_some] <;> rfl), by repeat (first | (with_reducible first | exact HB.out | apply below_alloc | apply pw_below_drewN | apply below_drew1) | exact HB.out)⟩
            · rw [if_neg c22] at H
              have c22b0 : decide (x8_2 < (ji21)) = false := decide_eq_false c22
              clear c22
              have H' := Aside0.mk H
              clear H
              go_wp2
              go_loopg [59] k2 (fun kq v59 w' => ∃ (x59_3 : Int), v59 = .int .i64 x59_3 ∧ Aside0 (spec_scIndent.l1 kq a1 x8_2 l0 (l0.length : Int) x59_3 = some (r1, r2)) ∧ Aside0 (kq ≤ k2) ∧ Aside0 (Below w.heap.size w w'))
              case atStart => exact ⟨(0), (by first | rfl | (simp; done) | (simp [*]; done)), H', ⟨Nat.le_refl _⟩, ⟨by repeat (first | (with_reducible first | exact HB.out | apply below_alloc | apply pw_below_drewN | apply below_drew1) | exact HB.out)⟩⟩
              case round =>
                clear H'
                try clear c1
                try clear p1
                try clear q1
                try clear hx1
                try clear c2
                try clear p2
                try clear c3
                try clear c5
                try clear c5b0
                try clear c6
                try clear p6
                try clear c7
                try clear c7b0
                try clear c8
                try clear c8b0
                try clear c9
                try clear c9b0
                try clear c11
                try clear c11b0
                try clear c11b1
                try clear p11
                try clear q11
                try clear hx11
                try clear c12
                try clear c12b0
                try clear c12b1
                try clear c14
                try clear c14b0
                try clear c15
                try clear c15b0
                try clear c16
                try clear c16b0
                try clear c16b1
                try clear c18
                try clear c19
                try clear c19b0
                try clear c20
                try clear c20b0
                try clear c22
                try clear c22b0
                try clear hx113_0
                try clear hx115_0
                try clear p1
                try clear p11
                try clear p113
                try clear p115
                try clear p2
                try clear p6
                try clear q1
                try clear q11
                try clear q113
                try clear q115
                obtain ⟨x59_3, rfl, HA, HK3, HB⟩ := hrel
                cases gk with
                | zero => exact absurd HA.out (by simp [spec_scIndent.l1])
                | succ k3 =>
                  have H := HA.out
                  clear HA
                  simp only [spec_scIndent.l1] at H
                  by_cases c23 : x59_3 < (l0.length : Int)
                  · rw [if_pos c23] at H
                    have c23b0 : decide (x59_3 < (l0.length : Int)) = true := decide_eq_true c23
                    clear c23
                    by_cases c24 : 0 ≤ x59_3
                    · rw [if_pos c24] at H
                      have c24b0 : decide (0 ≤ x59_3) = true := decide_eq_true c24
                      clear c24
                      by_cases c25 : x59_3 < (l0.length : Int)
                      · rw [if_pos c25] at H
                        have c25b0 : decide (x59_3 < (l0.length : Int)) = true := decide_eq_true c25
                        clear c25
                        replace H := Option.bind_eq_some_iff.mp H
                        obtain ⟨t117, A260, H⟩ := H
                        replace H : (if t117 < ((rd_L1 l0 x59_3).length : Int) then (some (x8_2, true)) else (if t117 > x8_2 then (if a1 = 0 then (some (0, false)) else (spec_scIndent.l1 k3 a1 x8_2 l0 (l0.length : Int) (wrap64 (x59_3 + 1)))) else (spec_scIndent.l1 k3 a1 x8_2 l0 (l0.length : Int) (wrap64 (x59_3 + 1))))) = some (r1, r2) := H
                        have A26 := Aside0.mk A260
                        clear A260
                        by_cases c27 : t117 < ((rd_L1 l0 x59_3).length : Int)
                        · rw [if_pos c27] at H
                          have c27b0 : decide (t117 < ((rd_L1 l0 x59_3).length : Int)) = true := decide_eq_true c27
                          clear c27
                          simp only [Option.some.injEq, Prod.mk.injEq] at H
                          obtain ⟨rfl, rfl⟩ := H
                          have p116 : 0 ≤ (x59_3 : Int) := of_decide_eq_true (by first | (with_reducible assumption) | assumption)
                          have q116 : x59_3 < (l0.length : Int) := of_decide_eq_true (by first | (with_reducible assumption) | assumption)
                          obtain ⟨ad116, A116_0, c116_0, e116, hx116_0, hl116_0, hi116_0⟩ := at_L1 HR0.out x59_3 p116 q116
                          cases e116
                          replace hx116_0 := (HB.out.cell (World.block_lt_of_cell? w _ hx116_0)).trans hx116_0
                          have HR116_0 := Aside0.mk hi116_0
                          have HC116_0 := Aside0.mk hl116_0
                          clear hi116_0 hl116_0
                          replace p116 := eq_true p116
                          replace q116 := eq_true q116
                          go_wp2_with (first | ((with_reducible refine gate_callee (f := 60) rfl ?_); refine goesL_ (some 64) rfl rfl Tryd.func60 (by kernel_rfl) rfl #[.slice A116_0 (rd_L1 l0 x59_3).length c116_0] rfl (by (try simp only [List.map_toArray, List.map_cons, List.map_nil]); first | done | rfl | (simp only [List.length_drop, List.length_take]; rfl)) ?_; (with_reducible refine (spec_scLeading.calls k3 _ _ (rd_L1 l0 x59_3) t117 _ ?side1 ?side2 A26.out).mono ?_); (case side1 => repeat (first | exact (Kd.C_below HR116_0.out HB.out) | (with_reducible refine Kd.C_alloc ?_ _) | (with_reducible refine Kd.C_drewN ?_ _) | (with_reducible refine Kd.C_drew ?_))); (case side2 => exact HC116_0.out); rintro e w' ⟨rfl, ⟨nd, rfl⟩⟩; refine ⟨_, rfl, ?_⟩))
                          go_ret2
                          exact ⟨by first | rfl | (simp [errW_none, errW_some] <;> rfl) | (simp only [← hji21]; first | rfl | (simp [errW_none, errW_some] <;> rfl)) | (simp [*, errW_none, errW_some] <;> rfl), by repeat (first | (with_reducible first | exact HB.out | apply below_alloc | apply pw_below_drewN | apply below_drew1) | exact HB.out)⟩
                        · rw [if_neg c27] at H
                          have c27b0 : decide (t117 < ((rd_L1 l0 x59_3).length : Int)) = false := decide_eq_false c27
                          clear c27
                          by_cases c28 : t117 > x8_2
                          · rw [if_pos c28] at H
                            have c28b0 : decide (x8_2 < t117) = true := decide_eq_true c28
                            clear c28
                            by_cases c29 : a1 = 0
                            · rw [if_pos c29] at H
                              have c29b0 : (a1 == 0) = true := beq_iff_eq.mpr c29
                              have c29b1 : (a1 != 0) = false := bne_eq_false_iff_eq.mpr c29
                              clear c29
                              simp only [Option.some.injEq, Prod.mk.injEq] at H
                              obtain ⟨rfl, rfl⟩ := H
                              have p116 : 0 ≤ (x59_3 : Int) := of_decide_eq_true (by first | (with_reducible assumption) | assumption)
                              have q116 : x59_3 < (l0.length : Int) := of_decide_eq_true (by first | (with_reducible assumption) | assumption)
                              obtain ⟨ad116, A116_0, c116_0, e116, hx116_0, hl116_0, hi116_0⟩ := at_L1 HR0.out x59_3 p116 q116
                              cases e116
                              replace hx116_0 := (HB.out.cell (World.block_lt_of_cell? w _ hx116_0)).trans hx116_0
                              have HR116_0 := Aside0.mk hi116_0
                              have HC116_0 := Aside0.mk hl116_0
                              clear hi116_0 hl116_0
                              replace p116 := eq_true p116
                              replace q116 := eq_true q116
                              go_wp2_with (first | ((with_reducible refine gate_callee (f := 60) rfl ?_); refine goesL_ (some 64) rfl rfl Tryd.func60 (by kernel_rfl) rfl #[.slice A116_0 (rd_L1 l0 x59_3).length c116_0] rfl (by (try simp only [List.map_toArray, List.map_cons, List.map_nil]); first | done | rfl | (simp only [List.length_drop, List.length_take]; rfl)) ?_; (with_reducible refine (spec_scLeading.calls k3 _ _ (rd_L1 l0 x59_3) t117 _ ?side1 ?side2 A26.out).mono ?_); (case side1 => repeat (first | exact (Kd.C_below HR116_0.out HB.out) | (with_reducible refine Kd.C_alloc ?_ _) | (with_reducible refine Kd.C_drewN ?_ _) | (with_reducible refine Kd.C_drew ?_))); (case side2 => exact HC116_0.out); rintro e w' ⟨rfl, ⟨nd, rfl⟩⟩; refine ⟨_, rfl, ?_⟩))
                              go_ret2
                              exact ⟨by first | rfl | (simp [errW_none, errW_some] <;> rfl) | (simp only [← hji21]; first | rfl | (simp [errW_none, errW_some] <;> rfl)) | (simp [*, errW_none, errW_some] <;> rfl), by repeat (first | (with_reducible first | exact HB.out | apply below_alloc | apply pw_below_drewN | apply below_drew1) | exact HB.out)⟩
                            · rw [if_neg c29] at H
                              have c29b0 : (a1 == 0) = false := beq_eq_false_iff_ne.mpr c29
                              have c29b1 : (a1 != 0) = true := bne_iff_ne.mpr c29
                              have H' := Aside0.mk H
                              clear H
                              have p116 : 0 ≤ (x59_3 : Int) := of_decide_eq_true (by first | (with_reducible assumption) | assumption)
                              have q116 : x59_3 < (l0.length : Int) := of_decide_eq_true (by first | (with_reducible assumption) | assumption)
                              obtain ⟨ad116, A116_0, c116_0, e116, hx116_0, hl116_0, hi116_0⟩ := at_L1 HR0.out x59_3 p116 q116
                              cases e116
                              replace hx116_0 := (HB.out.cell (World.block_lt_of_cell? w _ hx116_0)).trans hx116_0
                              have HR116_0 := Aside0.mk hi116_0
                              have HC116_0 := Aside0.mk hl116_0
                              clear hi116_0 hl116_0
                              replace p116 := eq_true p116
                              replace q116 := eq_true q116
                              go_wp2_with (first | ((with_reducible refine gate_callee (f := 60) rfl ?_); refine goesL_ (some 64) rfl rfl Tryd.func60 (by kernel_rfl) rfl #[.slice A116_0 (rd_L1 l0 x59_3).length c116_0] rfl (by (try simp only [List.map_toArray, List.map_cons, List.map_nil]); first | done | rfl | (simp only [List.length_drop, List.length_take]; rfl)) ?_; (with_reducible refine (spec_scLeading.calls k3 _ _ (rd_L1 l0 x59_3) t117 _ ?side1 ?side2 A26.out).mono ?_); (case side1 => repeat (first | exact (Kd.C_below HR116_0.out HB.out) | (with_reducible refine Kd.C_alloc ?_ _) | (with_reducible refine Kd.C_drewN ?_ _) | (with_reducible refine Kd.C_drew ?_))); (case side2 => exact HC116_0.out); rintro e w' ⟨rfl, ⟨nd, rfl⟩⟩; refine ⟨_, rfl, ?_⟩))
                              go_roundg k3
                              case measure => have := HJ3.out; have := HK2.out; have := HK3.out; omega
                              case rel => exact ⟨(wrap64 (x59_3 + 1)), (by first | rfl | (simp; done) | (simp [*]; done)), H', ⟨by have := HJ3.out; have := HK2.out; have := HK3.out; omega⟩, ⟨by repeat (first | (with_reducible first | exact HB.out | apply below_alloc | apply pw_below_drewN | apply below_drew1) | exact HB.out)⟩⟩
                          · rw [if_neg c28] at H
                            have c28b0 : decide (x8_2 < t117) = false := decide_eq_false c28
                            clear c28
                            have H' := Aside0.mk H
                            clear H
                            have p116 : 0 ≤ (x59_3 : Int) := of_decide_eq_true (by first | (with_reducible assumption) | assumption)
                            have q116 : x59_3 < (l0.length : Int) := of_decide_eq_true (by first | (with_reducible assumption) | assumption)
                            obtain ⟨ad116, A116_0, c116_0, e116, hx116_0, hl116_0, hi116_0⟩ := at_L1 HR0.out x59_3 p116 q116
                            cases e116
                            replace hx116_0 := (HB.out.cell (World.block_lt_of_cell? w _ hx116_0)).trans hx116_0
                            have HR116_0 := Aside0.mk hi116_0
                            have HC116_0 := Aside0.mk hl116_0
                            clear hi116_0 hl116_0
                            replace p116 := eq_true p116
                            replace q116 := eq_true q116
                            go_wp2_with (first | ((with_reducible refine gate_callee (f := 60) rfl ?_); refine goesL_ (some 64) rfl rfl Tryd.func60 (by kernel_rfl) rfl #[.slice A116_0 (rd_L1 l0 x59_3).length c116_0] rfl (by (try simp only [List.map_toArray, List.map_cons, List.map_nil]); first | done | rfl | (simp only [List.length_drop, List.length_take]; rfl)) ?_; (with_reducible refine (spec_scLeading.calls k3 _ _ (rd_L1 l0 x59_3) t117 _ ?side1 ?side2 A26.out).mono ?_); (case side1 => repeat (first | exact (Kd.C_below HR116_0.out HB.out) | (with_reducible refine Kd.C_alloc ?_ _) | (with_reducible refine Kd.C_drewN ?_ _) | (with_reducible refine Kd.C_drew ?_))); (case side2 => exact HC116_0.out); rintro e w' ⟨rfl, ⟨nd, rfl⟩⟩; refine ⟨_, rfl, ?_⟩))
                            go_roundg k3
                            case measure => have := HJ3.out; have := HK2.out; have := HK3.out; omega
                            case rel => exact ⟨(wrap64 (x59_3 + 1)), (by first | rfl | (simp; done) | (simp [*]; done)), H', ⟨by have := HJ3.out; have := HK2.out; have := HK3.out; omega⟩, ⟨by repeat (first | (with_reducible first | exact HB.out | apply below_alloc | apply pw_below_drewN | apply below_drew1) | exact HB.out)⟩⟩
                      · rw [if_neg c25] at H
                        exact absurd H (by simp)
                    · rw [if_neg c24] at H
                      exact absurd H (by simp)
                  · rw [if_neg c23] at H
                    have c23b0 : decide (x59_3 < (l0.length : Int)) = false := decide_eq_false c23
                    clear c23
                    simp only [Option.some.injEq, Prod.mk.injEq] at H
                    obtain ⟨rfl, rfl⟩ := H
                    go_wp2
                    go_ret2
                    exact ⟨by first | rfl | (simp [errW_none, errW_some] <;> rfl) | (simp only [← hji21]; first | rfl | (simp [errW_none, errW_some] <;> rfl)) | (simp [*, errW_none, errW_some] <;> rfl), by repeat (first | (with_reducible first | exact HB.out | apply below_alloc | apply pw_below_drewN | apply below_drew1) | exact HB.out)⟩

/-! ### spec_scFeeds: function 39 -/
def spec_scFeeds.l0 : Nat → List Int → Int → Int → Option (ByteArray)
  | 0, _, _, _ => none
  | k + 1, x3, x9, x10 => if x10 < x9 then (if 0 ≤ x10 then (if x10 < (x3.length : Int) then (spec_scFeeds.l0 k (x3.set (x10 : Int).toNat 10) x9 (wrap64 (x10 + 1))) else (none)) else (none)) else (some (strOfNums x3))
def spec_scFeeds.f (k : Nat) (a0 : Int) : Option (ByteArray) := if 0 ≤ (mx a0 0) then (if (mx a0 0 : Int).toNat ≤ 281474976710656 then ((some (List.replicate (mx a0 0 : Int).toNat 0 : List Int)).bind fun y118 => (spec_scFeeds.l0 k y118 (y118.length : Int) 0)) else (none)) else (none)
theorem spec_scFeeds.mono_l : ∀ k, (∀ y0 y1 y2, LeO (spec_scFeeds.l0 k y0 y1 y2) (spec_scFeeds.l0 (k + 1) y0 y1 y2))
  | 0 => fun _ _ _ r h => by simp [spec_scFeeds.l0] at h
  | k + 1 => by
    have ih0 := spec_scFeeds.mono_l k
    · intro y0 y1 y2
      unfold spec_scFeeds.l0
      repeat' first
      | (with_reducible exact ih0 _ _ _)
      | (with_reducible exact LeO.refl _)
      | (with_reducible exact LeO.none _)
      | (with_reducible refine LeO.ite ?_ ?_)
      | (with_reducible refine LeO.bind ?_ (fun _ => ?_))
      | exact ih0 _ _ _
      | exact LeO.none _
      | refine LeO.ite ?_ ?_
      | refine LeO.bind ?_ (fun _ => ?_)
theorem spec_scFeeds.mono : ∀ a0 k, LeO (spec_scFeeds.f k a0) (spec_scFeeds.f (k + 1) a0) := by
  intro a0 k
  have ih0 := spec_scFeeds.mono_l k
  unfold spec_scFeeds.f
  repeat' first
      | (with_reducible exact ih0 _ _ _)
      | (with_reducible exact LeO.refl _)
      | (with_reducible exact LeO.none _)
      | (with_reducible refine LeO.ite ?_ ?_)
      | (with_reducible refine LeO.bind ?_ (fun _ => ?_))
      | exact ih0 _ _ _
      | exact LeO.none _
      | refine LeO.ite ?_ ?_
      | refine LeO.bind ?_ (fun _ => ?_)
set_option maxHeartbeats 8000000 in
set_option maxRecDepth 100000 in
theorem spec_scFeeds.calls (k : Nat) (a0 : Int) (r : ByteArray) (w : World) (h : spec_scFeeds.f k a0 = some r) :
    Calls Tryd.prog 39 #[.int .i64 a0] w fun e w' => e = .returned (.string r) ∧ Below w.heap.size w w' := by
  have HB := Aside0.mk (Below.refl w.heap.size w)
  have H : (if 0 ≤ (mx a0 0) then (if (mx a0 0 : Int).toNat ≤ 281474976710656 then ((some (List.replicate (mx a0 0 : Int).toNat 0 : List Int)).bind fun y118 => (spec_scFeeds.l0 k y118 (y118.length : Int) 0)) else (none)) else (none)) = some r := h
  clear h
  obtain ⟨ji2, hji2⟩ : ∃ j_ : Int, (mx a0 0) = j_ := ⟨_, rfl⟩
  replace H : (if 0 ≤ (ji2) then (if (ji2 : Int).toNat ≤ 281474976710656 then ((some (List.replicate (ji2 : Int).toNat 0 : List Int)).bind fun y118 => (spec_scFeeds.l0 k y118 (y118.length : Int) 0)) else (none)) else (none)) = some r := by first | (rw [hji2] at H; exact H) | (simp only [hji2] at H ⊢; exact H)
  (try (have hji2l : 0 ≤ ji2 := by (rw [← hji2]; unfold mx; (repeat' split) <;> omega)))
  (try (have hji2m : 0 ≤ ji2 := by omega))
  have hji2_ : (if a0 < 0 then 0 else a0) = ji2 := hji2
  by_cases c3 : 0 ≤ (ji2)
  · rw [if_pos c3] at H
    have c3b0 := eq_true c3
    have c3b1 : decide (0 ≤ (ji2)) = true := decide_eq_true c3
    clear c3
    by_cases c4 : (ji2 : Int).toNat ≤ 281474976710656
    · rw [if_pos c4] at H
      have c4b0 := eq_true c4
      have c4b1 : decide ((ji2 : Int).toNat ≤ 281474976710656) = true := decide_eq_true c4
      clear c4
      obtain ⟨y118, hy118⟩ : ∃ y_ : List Int, y_ = (List.replicate (ji2 : Int).toNat 0) := ⟨_, rfl⟩
      replace H : (spec_scFeeds.l0 k y118 (y118.length : Int) 0) = some r := by first | (rw [hy118]; with_reducible exact H) | (have H2_ := (Option.bind_some _ _).symm.trans H; rw [hy118]; with_reducible exact H2_) | (have H2_ := (Option.bind_some _ _).symm.trans H; with_reducible exact H2_) | with_reducible exact H | (rw [hy118]; exact H) | exact H
      have Ny118 := Aside0.mk hy118
      clear hy118
      have H' := Aside0.mk H
      clear H
      go_enter Tryd.func39, Tryd.ntmps39
      go_wp2_with (first | ((with_reducible refine gate_dst (N := 7) rfl ?_); refine Kd.R_make (Kd.int .u8) _ 5 rfl (N := 7) rfl 40 _ _ rfl ji2 rfl rfl Tryd.underlying40 (.int .u8 0) 1 info5 rfl (by decide) (by omega) 0 (ok := fun _ => True) (okp := fun _ => True) rfl (fun _ hk => hk) trivial (of_decide_eq_true (by first | (with_reducible assumption) | assumption)) (Nat.le_trans (Nat.mul_le_mul_right _ (of_decide_eq_true (by first | (with_reducible assumption) | assumption) : ji2.toNat ≤ 281474976710656)) (by omega)) (Below.refl _ _) (Nat.le_refl _) ?_; intro v119 w5 ho6 hb hg_ hnew_; clear hg_ hnew_; (first | rw [← Ny118.out] at ho6 | (simp only [Int.reduceToNat] at ho6; rw [← Ny118.out] at ho6)); have n0_ := Aside0.mk (Kd.R_lower ho6 (below_size (by repeat (first | (with_reducible first | exact HB.out | apply below_alloc | apply pw_below_drewN | apply below_drew1) | exact HB.out)))); have n1_ := Aside0.mk (below_step (by repeat (first | (with_reducible first | exact HB.out | apply below_alloc | apply pw_below_drewN | apply below_drew1) | exact HB.out)) hb); clear HB; have HO120 := n0_; have HB := n1_; clear n0_ n1_; clear hb ho6; obtain ⟨Ao7, co7, eo7⟩ := Kd.R_slice HO120.out; subst eo7))
      go_loopg [10] k (fun kq v10 w' => ∃ (x3_1 : List Int) (x10_1 : Int), v10 = .int .i64 x10_1 ∧ Aside0 (spec_scFeeds.l0 kq x3_1 (y118.length : Int) x10_1 = some r) ∧ Aside0 (kq ≤ k) ∧ Aside0 (Kd.R (Kd.int .u8) 5 w' w.heap.size (fun _ => True) (.slice Ao7 y118.length co7) x3_1) ∧ Aside0 (Below w.heap.size w w'))
      case atStart => exact ⟨(y118), (0), (by first | rfl | (simp; done) | (simp [*]; done)), H', ⟨Nat.le_refl _⟩, ⟨by (with_reducible repeat (first | apply Kd.R_alloc | apply Kd.R_drewN | apply Kd.R_drew)); exact HO120.out⟩, ⟨by repeat (first | (with_reducible first | exact HB.out | apply below_alloc | apply pw_below_drewN | apply below_drew1) | exact HB.out)⟩⟩
      case round =>
        clear H'
        try clear p2
        try clear c3
        try clear c3b0
        try clear c3b1
        try clear c4
        try clear c4b0
        try clear c4b1
        obtain ⟨x3_1, x10_1, rfl, HA, HK1, HO_3, HB⟩ := hrel
        have hl3_1 := (Kd.R_reads' HO_3.out).1
        rw [hl3_1] at HO_3
        (try simp only [hl3_1])
        cases gk with
        | zero => exact absurd HA.out (by simp [spec_scFeeds.l0])
        | succ k1 =>
          have H := HA.out
          clear HA
          simp only [spec_scFeeds.l0] at H
          by_cases c8 : x10_1 < (y118.length : Int)
          · rw [if_pos c8] at H
            have c8b0 : decide (x10_1 < (y118.length : Int)) = true := decide_eq_true c8
            clear c8
            by_cases c9 : 0 ≤ x10_1
            · rw [if_pos c9] at H
              have c9b0 : decide (0 ≤ x10_1) = true := decide_eq_true c9
              clear c9
              by_cases c10 : x10_1 < (x3_1.length : Int)
              · rw [if_pos c10] at H
                have c10b0 : decide (x10_1 < (x3_1.length : Int)) = true := decide_eq_true c10
                clear c10
                obtain ⟨y121, hy121⟩ : ∃ y_ : List Int, y_ = (x3_1.set (x10_1 : Int).toNat 10) := ⟨_, rfl⟩
                replace H : (spec_scFeeds.l0 k1 y121 (y118.length : Int) (wrap64 (x10_1 + 1))) = some r := by first | (rw [hy121]; with_reducible exact H) | (have H2_ := (Option.bind_some _ _).symm.trans H; rw [hy121]; with_reducible exact H2_) | (have H2_ := (Option.bind_some _ _).symm.trans H; with_reducible exact H2_) | with_reducible exact H | (rw [hy121]; exact H) | exact H
                have Ny121 := Aside0.mk hy121
                clear hy121
                have H' := Aside0.mk H
                clear H
                have p11 : 0 ≤ (x10_1 : Int) := of_decide_eq_true (by first | (with_reducible assumption) | assumption)
                have q11 : (x10_1 : Int) < ((x3_1.length : Int) : Int) := of_decide_eq_true (by first | (with_reducible assumption) | assumption)
                obtain ⟨go11, co11, eo11, gb11, gl11, cl11, HG11⟩ := Kd.R_form HO_3.out (by omega)
                (first | cases eo11 | (injection eo11 with ea_ en_ ec_; (first | subst ea_ | (injection ea_ with ea_; subst ea_)); subst ec_; clear en_))
                have GB11 := Aside0.mk gb11
                have GG11 := Aside0.mk HG11
                clear gb11 gl11 HG11
                obtain ⟨hx11_0, hf11_0⟩ := Kd.R_celln 0 HO_3.out (x10_1 : Int) p11 q11
                replace p11 := eq_true p11
                replace q11 := eq_true q11
                have HP12 := Kd.R_putg HO_3.out (x10_1 : Int) 10
                go_wp2_with (first | ((with_reducible refine gate_store (t := 5) (p := 15) rfl ?_); refine store_event (t := 5) (p := 15) (v := ?vo_w13) (w1 := (wr.setCell ⟨go11, (x10_1 : Int).toNat, none⟩ (.int .u8 10))) ?hg ?ho ?hn ?hr ?_; (case ho => rfl); (case hg => rfl); (case hn => rfl); (case hr => first | (go_simp; done) | (go_simp; rfl)); intro w13 hw; have hg : wr.grownBy w13 (some go11) := (by rw [hw]; exact HP12.2); have hp_ : Kd.R (Kd.int .u8) 5 w13 w.heap.size (fun _ => True) (.slice (some ⟨go11, 0, none⟩) x3_1.length co7) y121 := (by rw [hw, Ny121.out]; exact HP12.1); clear HP12; have n0_ := Aside0.mk (hp_); have n1_ := Aside0.mk ((by rw [hw]; exact below_set (HB.out) GB11.out : Below w.heap.size w w13)); clear HO_3; clear HB; have HO_3 := n0_; have HB := n1_; clear n0_ n1_; clear hg hw hp_))
                (try simp only [← hl3_1])
                go_roundg k1
                case measure => have := HK1.out; omega
                case rel => exact ⟨(y121), (wrap64 (x10_1 + 1)), (by first | rfl | (simp; done) | (simp [*]; done)), H', ⟨by have := HK1.out; omega⟩, ⟨by (try simp only [hl3_1]); (with_reducible repeat (first | apply Kd.R_alloc | apply Kd.R_drewN | apply Kd.R_drew)); exact HO_3.out⟩, ⟨by repeat (first | (with_reducible first | exact HB.out | apply below_alloc | apply pw_below_drewN | apply below_drew1) | exact HB.out)⟩⟩
              · rw [if_neg c10] at H
                exact absurd H (by simp)
            · rw [if_neg c9] at H
              exact absurd H (by simp)
          · rw [if_neg c8] at H
            have c8b0 : decide (x10_1 < (y118.length : Int)) = false := decide_eq_false c8
            clear c8
            obtain rfl := Option.some.inj H
            have hcv14 := own_string (P := Tryd.prog) Tryd.underlying40 Tryd.underlying5 Tryd.underlying9 (Kd.own_of_R HO_3.out)
            simp only [hl3_1] at c8b0
            go_wp2
            go_ret
            exact ⟨by first | rfl | (simp [errW_none, errW_some] <;> rfl) | (simp only [← hji2]; first | rfl | (simp [errW_none, errW_some] <;> rfl)) | (simp [*, errW_none, errW_some] <;> rfl), by repeat (first | (with_reducible first | exact HB.out | apply below_alloc | apply pw_below_drewN | apply below_drew1) | exact HB.out)⟩
    · rw [if_neg c4] at H
      exact absurd H (by simp)
  · rw [if_neg c3] at H
    exact absurd H (by simp)

-- NOT PRINTED: function 14 (spec_ReadBlock)

end Go.Proofs.YtmildhkegpmacaaDoor.PFnHeaderWritten
