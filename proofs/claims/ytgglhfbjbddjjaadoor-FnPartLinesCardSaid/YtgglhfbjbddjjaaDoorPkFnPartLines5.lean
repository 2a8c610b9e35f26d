/- Parts of the proof of FnPartLines, one behind the other: LFeeds, LBreak, LnSpec. Each part says ahead of itself what it proves. -/
import Derived.Test.YtgglhfbjbddjjaaDoorPFnPartLinesx1
import Derived.Test.YtgglhfbjbddjjaaDoorPkFnPartLines2
import Derived.Test.YtgglhfbjbddjjaaDoorPkFnPartLines3
import Derived.Test.YtgglhfbjbddjjaaDoorPkFnPartLines1
import Derived.Test.YtgglhfbjbddjjaaDoorPkFnPartLines4

/- functions as print.sh prints them, cut out of its texts. -/
namespace Go.Proofs.YtgglhfbjbddjjaaDoor.LFeeds
open Go.RowKit Go.Proofs.YtgglhfbjbddjjaaDoorW.PrintWords Go.Proofs.YtgglhfbjbddjjaaDoorW.PrintLast Go.Proofs.YtgglhfbjbddjjaaDoorW.PrintMore Go.Proofs.YtgglhfbjbddjjaaDoor.PFnPartLines Go.Proofs.YtgglhfbjbddjjaaDoor.LKnown
attribute [local go_sem] max2_int min2_int max_two min_two max_three min_three max_four min_four   -- for this text's walks alone
set_option linter.unusedVariables false
set_option linter.unusedSimpArgs false



/-! ### spec_scFeeds: function 14 -/
def spec_scFeeds.l0 : Nat → List Int → Int → Int → Option (ByteArray)
  | 0, _, _, _ => none
  | k + 1, x3, x9, x10 => if x10 < x9 then (if 0 ≤ x10 then (if x10 < (x3.length : Int) then (spec_scFeeds.l0 k (x3.set (x10 : Int).toNat 10) x9 (wrap64 (x10 + 1))) else (none)) else (none)) else (some (strOfNums x3))
def spec_scFeeds.f (k : Nat) (a0 : Int) : Option (ByteArray) := if 0 ≤ (mx a0 0) then (if (mx a0 0 : Int).toNat ≤ 281474976710656 then ((some (List.replicate (mx a0 0 : Int).toNat 0 : List Int)).bind fun y130 => (spec_scFeeds.l0 k y130 (y130.length : Int) 0)) else (none)) else (none)
theorem spec_scFeeds.mono_l : ∀ k, (∀ y0 y1 y2, LeO (spec_scFeeds.l0 k y0 y1 y2) (spec_scFeeds.l0 (k + 1) y0 y1 y2))
  | 0 => fun _ _ _ r h => by simp [spec_scFeeds.l0] at h
  | k + 1 => by
    have ih0 := spec_scFeeds.mono_l k
    · intro y0 y1 y2
      unfold spec_scFeeds.l0
      repeat' first
      | (with_reducible exact ih0 _ _ _)
      | (with_reducible exact LeO.refl _)
      | (with_reducible exact LeO.none _)
      | (with_reducible refine LeO.ite ?_ ?_)
      | (with_reducible refine LeO.bind ?_ (fun _ => ?_))
      | exact ih0 _ _ _
      | exact LeO.none _
      | refine LeO.ite ?_ ?_
      | refine LeO.bind ?_ (fun _ => ?_)
theorem spec_scFeeds.mono : ∀ a0 k, LeO (spec_scFeeds.f k a0) (spec_scFeeds.f (k + 1) a0) := by
  intro a0 k
  have ih0 := spec_scFeeds.mono_l k
  unfold spec_scFeeds.f
  repeat' first
      | (with_reducible exact ih0 _ _ _)
      | (with_reducible exact LeO.refl _)
      | (with_reducible exact LeO.none _)
      | (with_reducible refine LeO.ite ?_ ?_)
      | (with_reducible refine LeO.bind ?_ (fun _ => ?_))
      | exact ih0 _ _ _
      | exact LeO.none _
      | refine LeO.ite ?_ ?_
      | refine LeO.bind ?_ (fun _ => ?_)
set_option maxHeartbeats 8000000 in
set_option maxRecDepth 100000 in
theorem spec_scFeeds.calls (k : Nat) (a0 : Int) (r : ByteArray) (w : World) (h : spec_scFeeds.f k a0 = some r) :
    Calls Tryd.prog 14 #[.int .i64 a0] w fun e w' => e = .returned (.string r) ∧ Below w.heap.size w w' := by
  have HB := Aside0.mk (Below.refl w.heap.size w)
  have H : (if 0 ≤ (mx a0 0) then (if (mx a0 0 : Int).toNat ≤ 281474976710656 then ((some (List.replicate (mx a0 0 : Int).toNat 0 : List Int)).bind fun y130 => (spec_scFeeds.l0 k y130 (y130.length : Int) 0)) else (none)) else (none)) = some r := h
  clear h
  obtain ⟨ji2, hji2⟩ : ∃ j_ : Int, (mx a0 0) = j_ := ⟨_, rfl⟩
  replace H : (if 0 ≤ (ji2) then (if (ji2 : Int).toNat ≤ 281474976710656 then ((some (List.replicate (ji2 : Int).toNat 0 : List Int)).bind fun y130 => (spec_scFeeds.l0 k y130 (y130.length : Int) 0)) else (none)) else (none)) = some r := by first | (rw [hji2] at H; exact H) | (simp only [hji2] at H ⊢; exact H)
  (try (have hji2l : 0 ≤ ji2 := by (rw [← hji2]; unfold mx; (repeat' split) <;> omega)))
  (try (have hji2m : 0 ≤ ji2 := by omega))
  have hji2_ : (if a0 < 0 then 0 else a0) = ji2 := hji2
  by_cases c3 : 0 ≤ (ji2)
  · rw [if_pos c3] at H
    have c3b0 := eq_true c3
    have c3b1 : decide (0 ≤ (ji2)) = true := decide_eq_true c3
    clear c3
    by_cases c4 : (ji2 : Int).toNat ≤ 281474976710656
    · rw [if_pos c4] at H
      have c4b0 := eq_true c4
      have c4b1 : decide ((ji2 : Int).toNat ≤ 281474976710656) = true := decide_eq_true c4
      clear c4
      obtain ⟨y130, hy130⟩ : ∃ y_ : List Int, y_ = (List.replicate (ji2 : Int).toNat 0) := ⟨_, rfl⟩
      replace H : (spec_scFeeds.l0 k y130 (y130.length : Int) 0) = some r := by first | (rw [hy130]; with_reducible exact H) | (have H2_ := (Option.bind_some _ _).symm.trans H; rw [hy130]; with_reducible exact H2_) | (have H2_ := (Option.bind_some _ _).symm.trans H; with_reducible exact H2_) | with_reducible exact H | (rw [hy130]; exact H) | exact H
      have Ny130 := Aside0.mk hy130
      clear hy130
      have H' := Aside0.mk H
      clear H
      go_enter Tryd.func14, Tryd.ntmps14
      go_wp2_with (first | ((with_reducible refine gate_dst (N := 7) rfl ?_); refine Kd.R_make (Kd.int .u8) _ 5 rfl (N := 7) rfl 55 _ _ rfl ji2 rfl rfl Tryd.underlying55 (.int .u8 0) 1 info5 rfl (by decide) (by omega) 0 (ok := fun _ => True) (okp := fun _ => True) rfl (fun _ hk => hk) trivial (of_decide_eq_true (by first | (with_reducible assumption) | assumption)) (Nat.le_trans (Nat.mul_le_mul_right _ (of_decide_eq_true (by first | (with_reducible assumption) | assumption) : ji2.toNat ≤ 281474976710656)) (by omega)) (Below.refl _ _) (Nat.le_refl _) ?_; intro v131 w5 ho6 hb hg_ hnew_; clear hg_ hnew_; (first | rw [← Ny130.out] at ho6 | (simp only [Int.reduceToNat] at ho6; rw [← Ny130.out] at ho6)); have n0_ := Aside0.mk (Kd.R_lower ho6 (below_size (by repeat (first | (with_reducible first | exact HB.out | apply below_alloc | apply pw_below_drewN | apply below_drew1) | exact HB.out)))); have n1_ := Aside0.mk (below_step (by repeat (first | (with_reducible first | exact HB.out | apply below_alloc | apply pw_below_drewN | apply below_drew1) | exact HB.out)) hb); clear HB; have HO132 := n0_; have HB := n1_; clear n0_ n1_; clear hb ho6; obtain ⟨Ao7, co7, eo7⟩ := Kd.R_slice HO132.out; subst eo7))
      go_loopg [10] k (fun kq v10 w' => ∃ (x3_1 : List Int) (x10_1 : Int), v10 = .int .i64 x10_1 ∧ Aside0 (spec_scFeeds.l0 kq x3_1 (y130.length : Int) x10_1 = some r) ∧ Aside0 (kq ≤ k) ∧ Aside0 (Kd.R (Kd.int .u8) 5 w' w.heap.size (fun _ => True) (.slice Ao7 y130.length co7) x3_1) ∧ Aside0 (Below w.heap.size w w'))
      case atStart => exact ⟨(y130), (0), (by first | rfl | (simp; done) | (simp [*]; done)), H', ⟨Nat.le_refl _⟩, ⟨by (with_reducible repeat (first | apply Kd.R_alloc | apply Kd.R_drewN | apply Kd.R_drew)); exact HO132.out⟩, ⟨by repeat (first | (with_reducible first | exact HB.out | apply below_alloc | apply pw_below_drewN | apply below_drew1) | exact HB.out)⟩⟩
      case round =>
        clear H'
        try clear c1
        try clear p2
        try clear c3
        try clear c3b0
        try clear c3b1
        try clear c4
        try clear c4b0
        try clear c4b1
        obtain ⟨x3_1, x10_1, rfl, HA, HK1, HO_3, HB⟩ := hrel
        have hl3_1 := (Kd.R_reads' HO_3.out).1
        rw [hl3_1] at HO_3
        (try simp only [hl3_1])
        cases gk with
        | zero => exact absurd HA.out (by simp [spec_scFeeds.l0])
        | succ k1 =>
          have H := HA.out
          clear HA
          simp only [spec_scFeeds.l0] at H
          by_cases c8 : x10_1 < (y130.length : Int)
          · rw [if_pos c8] at H
            have c8b0 : decide (x10_1 < (y130.length : Int)) = true := decide_eq_true c8
            clear c8
            by_cases c9 : 0 ≤ x10_1
            · rw [if_pos c9] at H
              have c9b0 : decide (0 ≤ x10_1) = true := decide_eq_true c9
              clear c9
              by_cases c10 : x10_1 < (x3_1.length : Int)
              · rw [if_pos c10] at H
                have c10b0 : decide (x10_1 < (x3_1.length : Int)) = true := decide_eq_true c10
                clear c10
                obtain ⟨y133, hy133⟩ : ∃ y_ : List Int, y_ = (x3_1.set (x10_1 : Int).toNat 10) := ⟨_, rfl⟩
                replace H : (spec_scFeeds.l0 k1 y133 (y130.length : Int) (wrap64 (x10_1 + 1))) = some r := by first | (rw [hy133]; with_reducible exact H) | (have H2_ := (Option.bind_some _ _).symm.trans H; rw [hy133]; with_reducible exact H2_) | (have H2_ := (Option.bind_some _ _).symm.trans H; with_reducible exact H2_) | with_reducible exact H | (rw [hy133]; exact H) | exact H
                have Ny133 := Aside0.mk hy133
                clear hy133
                have H' := Aside0.mk H
                clear H
                have p11 : 0 ≤ (x10_1 : Int) := of_decide_eq_true (by first | (with_reducible assumption) | assumption)
                have q11 : (x10_1 : Int) < ((x3_1.length : Int) : Int) := of_decide_eq_true (by first | (with_reducible assumption) | assumption)
                obtain ⟨go11, co11, eo11, gb11, gl11, cl11, HG11⟩ := Kd.R_form HO_3.out (by omega)
                (first | cases eo11 | (injection eo11 with ea_ en_ ec_; (first | subst ea_ | (injection ea_ with ea_; subst ea_)); subst ec_; clear en_))
                have GB11 := Aside0.mk gb11
                have GG11 := Aside0.mk HG11
                clear gb11 gl11 HG11
                obtain ⟨hx11_0, hf11_0⟩ := Kd.R_celln 0 HO_3.out (x10_1 : Int) p11 q11
                replace p11 := eq_true p11
                replace q11 := eq_true q11
                have HP12 := Kd.R_putg HO_3.out (x10_1 : Int) 10
                go_wp2_with (first | ((with_reducible refine gate_store (t := 5) (p := 15) rfl ?_); refine store_event (t := 5) (p := 15) (v := ?vo_w13) (w1 := (wr.setCell ⟨go11, (x10_1 : Int).toNat, none⟩ (.int .u8 10))) ?hg ?ho ?hn ?hr ?_; (case ho => rfl); (case hg => rfl); (case hn => rfl); (case hr => first | (go_simp; done) | (go_simp; rfl)); intro w13 hw; have hg : wr.grownBy w13 (some go11) := (by rw [hw]; exact HP12.2); have hp_ : Kd.R (Kd.int .u8) 5 w13 w.heap.size (fun _ => True) (.slice (some ⟨go11, 0, none⟩) x3_1.length co7) y133 := (by rw [hw, Ny133.out]; exact HP12.1); clear HP12; have n0_ := Aside0.mk (hp_); have n1_ := Aside0.mk ((by rw [hw]; exact below_set (HB.out) GB11.out : Below w.heap.size w w13)); clear HO_3; clear HB; have HO_3 := n0_; have HB := n1_; clear n0_ n1_; clear hg hw hp_))
                (try simp only [← hl3_1])
                go_roundg k1
                case measure => have := HK1.out; omega
                case rel => exact ⟨(y133), (wrap64 (x10_1 + 1)), (by first | rfl | (simp; done) | (simp [*]; done)), H', ⟨by have := HK1.out; omega⟩, ⟨by (try simp only [hl3_1]); (with_reducible repeat (first | apply Kd.R_alloc | apply Kd.R_drewN | apply Kd.R_drew)); exact HO_3.out⟩, ⟨by repeat (first | (with_reducible first | exact HB.out | apply below_alloc | apply pw_below_drewN | apply below_drew1) | exact HB.out)⟩⟩
              · rw [if_neg c10] at H
                exact absurd H (by simp)
            · rw [if_neg c9] at H
              exact absurd H (by simp)
          · rw [if_neg c8] at H
            have c8b0 : decide (x10_1 < (y130.length : Int)) = false := decide_eq_false c8
            clear c8
            obtain rfl := Option.some.inj H
            have hcv14 := own_string (P := Tryd.prog) Tryd.underlying55 Tryd.underlying5 Tryd.underlying9 (Kd.own_of_R HO_3.out)
            simp only [hl3_1] at c8b0
            go_wp2
            go_ret
            exact ⟨by first | rfl | (simp [errW_none, errW_some] <;> rfl) | (simp only [← hji2]; first | rfl | (simp [errW_none, errW_some] <;> rfl)) | (simp [*, errW_none, errW_some] <;> rfl), by repeat (first | (with_reducible first | exact HB.out | apply below_alloc | apply pw_below_drewN | apply below_drew1) | exact HB.out)⟩
    · rw [if_neg c4] at H
      exact absurd H (by simp)
  · rw [if_neg c3] at H
    exact absurd H (by simp)

end Go.Proofs.YtgglhfbjbddjjaaDoor.LFeeds

/- functions as print.sh prints them, cut out of its texts. -/
namespace Go.Proofs.YtgglhfbjbddjjaaDoor.LBreak
open Go.RowKit Go.Proofs.YtgglhfbjbddjjaaDoorW.PrintWords Go.Proofs.YtgglhfbjbddjjaaDoorW.PrintLast Go.Proofs.YtgglhfbjbddjjaaDoorW.PrintMore Go.Proofs.YtgglhfbjbddjjaaDoor.PFnPartLines Go.Proofs.YtgglhfbjbddjjaaDoor.LKnown Go.Proofs.YtgglhfbjbddjjaaDoor.LFeeds Go.Proofs.YtgglhfbjbddjjaaDoor.LEmpty
attribute [local go_sem] max2_int min2_int max_two min_two max_three min_three max_four min_four   -- for this text's walks alone
set_option linter.unusedVariables false
set_option linter.unusedSimpArgs false



/-! ### spec_scBreak: function 16 -/
def spec_scBreak.f (k : Nat) (l0 : List Int) (a1 : Int) : Option (ByteArray × Int × Bool) := (spec_scEmpty.f k l0 (wrap64 (a1 + 1))).bind fun bt141 => (if bt141.1 = 0 then (some ((⟨#[32]⟩ : ByteArray), bt141.2.1, bt141.2.2)) else ((spec_scFeeds.f k bt141.1).bind fun t144 => (some (t144, bt141.2.1, bt141.2.2))))
theorem spec_scBreak.mono : ∀ a0 a1 k, LeO (spec_scBreak.f k a0 a1) (spec_scBreak.f (k + 1) a0 a1) := by
  intro a0 a1 k
  unfold spec_scBreak.f
  repeat' first
      | (with_reducible exact spec_scEmpty.mono _ _ _)
      | (with_reducible exact spec_scFeeds.mono _ _)
      | (with_reducible exact LeO.refl _)
      | (with_reducible exact LeO.none _)
      | (with_reducible refine LeO.ite ?_ ?_)
      | (with_reducible refine LeO.bind ?_ (fun _ => ?_))
      | exact spec_scEmpty.mono _ _ _
      | exact spec_scFeeds.mono _ _
      | exact LeO.none _
      | refine LeO.ite ?_ ?_
      | refine LeO.bind ?_ (fun _ => ?_)
set_option maxHeartbeats 8000000 in
set_option maxRecDepth 100000 in
theorem spec_scBreak.calls (k : Nat) (A0 : Option Addr) (c0 : Nat) (l0 : List Int) (a1 : Int) (r1 : ByteArray) (r2 : Int) (r3 : Bool) (w : World) (hr0 : Kd.C (Kd.int .i32) w A0 l0.length l0) (hc0 : l0.length ≤ c0) (h : spec_scBreak.f k l0 a1 = some (r1, r2, r3)) :
    Calls Tryd.prog 16 #[.slice A0 l0.length c0, .int .i64 a1] w fun e w' => e = .returned (.tuple #[.string r1, .int .i64 r2, .bool r3]) ∧ Below w.heap.size w w' := by
  have HR0 := Aside0.mk hr0
  have HC0 := Aside0.mk hc0
  clear hr0 hc0
  have HB := Aside0.mk (Below.refl w.heap.size w)
  have H : ((spec_scEmpty.f k l0 (wrap64 (a1 + 1))).bind fun bt141 => (if bt141.1 = 0 then (some ((⟨#[32]⟩ : ByteArray), bt141.2.1, bt141.2.2)) else ((spec_scFeeds.f k bt141.1).bind fun t144 => (some (t144, bt141.2.1, bt141.2.2))))) = some (r1, r2, r3) := h
  clear h
  replace H := Option.bind_eq_some_iff.mp H
  obtain ⟨⟨t141, t142, t143⟩, A30, H⟩ := H
  replace H : (if t141 = 0 then (some ((⟨#[32]⟩ : ByteArray), t142, t143)) else ((spec_scFeeds.f k t141).bind fun t144 => (some (t144, t142, t143)))) = some (r1, r2, r3) := H
  have A3 := Aside0.mk A30
  clear A30
  by_cases c4 : t141 = 0
  · rw [if_pos c4] at H
    have c4b0 : (t141 == 0) = true := beq_iff_eq.mpr c4
    have c4b1 : (t141 != 0) = false := bne_eq_false_iff_eq.mpr c4
    clear c4
    simp only [Option.some.injEq, Prod.mk.injEq] at H
    obtain ⟨rfl, rfl, rfl⟩ := H
    go_enter Tryd.func16, Tryd.ntmps16
    go_wp2_with (first | ((go_at_call 13); (with_reducible refine (spec_scEmpty.calls k _ _ l0 (wrap64 (a1 + 1)) t141 t142 t143 _ ?side1 ?side2 A3.out).mono ?_); (case side1 => repeat (first | exact HR0.out | (with_reducible refine Kd.C_alloc ?_ _) | (with_reducible refine Kd.C_drewN ?_ _) | (with_reducible refine Kd.C_drew ?_))); (case side2 => exact HC0.out); rintro e w' ⟨rfl, ⟨nd, rfl⟩⟩))
    go_ret3
    exact ⟨by first | rfl | (simp [errW_none, errW_some] <;> rfl) | (simp [*, errW_none, errW_some] <;> rfl), by repeat (first | (with_reducible first | exact HB.out | apply below_alloc | apply pw_below_drewN | apply below_drew1) | exact HB.out)⟩
  · rw [if_neg c4] at H
    have c4b0 : (t141 == 0) = false := beq_eq_false_iff_ne.mpr c4
    have c4b1 : (t141 != 0) = true := bne_iff_ne.mpr c4
    replace H := Option.bind_eq_some_iff.mp H
    obtain ⟨t144, A50, H⟩ := H
    replace H : (some (t144, t142, t143)) = some (r1, r2, r3) := H
    have A5 := Aside0.mk A50
    clear A50
    simp only [Option.some.injEq, Prod.mk.injEq] at H
    obtain ⟨rfl, rfl, rfl⟩ := H
    go_enter Tryd.func16, Tryd.ntmps16
    go_wp2_with (first | ((go_at_call 13); (with_reducible refine (spec_scEmpty.calls k _ _ l0 (wrap64 (a1 + 1)) t141 t142 t143 _ ?side1 ?side2 A3.out).mono ?_); (case side1 => repeat (first | exact HR0.out | (with_reducible refine Kd.C_alloc ?_ _) | (with_reducible refine Kd.C_drewN ?_ _) | (with_reducible refine Kd.C_drew ?_))); (case side2 => exact HC0.out); rintro e w' ⟨rfl, ⟨nd, rfl⟩⟩) | ((go_at_call 14); (with_reducible refine (spec_scFeeds.calls k t141 t144 _ A5.out).mono ?_); rintro e w6 ⟨rfl, hb⟩; have n0_ := Aside0.mk (below_step (by repeat (first | (with_reducible first | exact HB.out | apply below_alloc | apply pw_below_drewN | apply below_drew1) | exact HB.out)) hb); clear HB; have HB := n0_; clear n0_; (try clear hb); (try clear hb2); (try clear hk); (try clear hi)))
    go_ret3
    exact ⟨by first | rfl | (simp [errW_none, errW_some] <;> rfl) | (simp [*, errW_none, errW_some] <;> rfl), by repeat (first | (with_reducible first | exact HB.out | apply below_alloc | apply pw_below_drewN | apply below_drew1) | exact HB.out)⟩

-- NOT PRINTED: function 8 (spec_ReadDouble)

-- NOT PRINTED: function 9 (spec_ReadSingle)

-- NOT PRINTED: function 34 (scanner_Scanner_clearState)

-- NOT PRINTED: function 26 (scanner_Scanner_Init)

-- NOT PRINTED: function 46 (scanner_createContext)

-- NOT PRINTED: function 51 (scanner_Context_resetBuffer)

-- NOT PRINTED: function 47 (scanner_Context_reset)

-- NOT PRINTED: function 29 (scanner_newContext)

-- NOT PRINTED: function 18 (scanner_ZzQuoted)

-- NOT PRINTED: function 30 (impl_place)

-- NOT PRINTED: function 31 (impl_index)

-- NOT PRINTED: function 19 (impl_list)

-- NOT PRINTED: function 10 (impl_ScanQuoted)

-- NOT PRINTED: function 3 (laws_FnPartLines)

end Go.Proofs.YtgglhfbjbddjjaaDoor.LBreak

/- Plain: the reference's helpers (markers, empty lines, feeds, escapes), as the printed functions compute them, in the words of LnPure. -/
namespace Go.Proofs.YtgglhfbjbddjjaaDoor.LnSpec
open Go.RowKit Go.Proofs.YtgglhfbjbddjjaaDoorW.PrintWords Go.Proofs.YtgglhfbjbddjjaaDoorW.PrintMore Go.Proofs.YtgglhfbjbddjjaaDoor.PFnPartLines Go.Proofs.YtgglhfbjbddjjaaDoor.LKnown Go.Proofs.YtgglhfbjbddjjaaDoor.LFeeds Go.Proofs.YtgglhfbjbddjjaaDoor.LEmpty Go.Proofs.YtgglhfbjbddjjaaDoor.LEscape Go.Proofs.YtgglhfbjbddjjaaDoor.LBreak Go.Proofs.YtgglhfbjbddjjaaDoor.Utf Go.Proofs.YtgglhfbjbddjjaaDoor.LnPure
set_option linter.unusedVariables false
set_option linter.unusedSimpArgs false

theorem white_f (c : Int) : spec_scWhite.f c = some (decide (c = 32 ∨ c = 9)) := by
  unfold spec_scWhite.f
  by_cases h : c = 32
  · rw [if_pos h]; simp [h]
  · rw [if_neg h]; congr 1; rw [Bool.eq_iff_iff]; simp [h]
theorem marker_f (l : List Int) : spec_scMarker.f l = some (l.take 3 == [45, 45, 45] || l.take 3 == [46, 46, 46]) := by
  unfold spec_scMarker.f
  match l with
  | [] => rfl
  | [a] => rw [if_neg (by simp)]; simp
  | [a, b] => rw [if_neg (by simp)]; simp
  | a :: b :: c :: r =>
    rw [if_pos (by simp; omega), if_pos (by simp; omega)]
    simp only [rd, List.getD_cons_zero, List.getD_cons_succ, Int.toNat_zero, show (1 : Int).toNat = 1 from rfl, show (2 : Int).toNat = 2 from rfl, List.take_succ_cons, List.take_zero]
    rw [if_pos (show (1 : Int) < ((a :: b :: c :: r).length : Int) by simp; omega), if_pos (show (2 : Int) < ((a :: b :: c :: r).length : Int) by simp; omega)]
    by_cases h1 : a = 45
    · subst h1; rw [if_pos rfl]
      by_cases h2 : b = 45
      · subst h2; rw [if_pos rfl]; by_cases h3 : c = 45 <;> simp [h3]
      · rw [if_neg h2]; simp [h2]
    · rw [if_neg h1]
      by_cases h4 : a = 46
      · subst h4; rw [if_pos rfl]
        by_cases h2 : b = 46
        · subst h2; rw [if_pos rfl]; by_cases h3 : c = 46 <;> simp [h3]
        · rw [if_neg h2]; simp [h2]
      · rw [if_neg h4]; simp [h1, h4]
theorem mark_f (l : List Int) (hl : l.length ≤ 65536) (i : Nat) (hi : i ≤ l.length) : spec_scMarkerAt.f l (i : Int) = some (mkr (l.drop i)) := by
  unfold spec_scMarkerAt.f
  rw [if_pos (by omega), if_pos (by omega), show ((i : Int)).toNat = i by omega, marker_f]
  simp only [Option.bind_some]
  unfold mkr
  rw [show wrap64 ((i : Int) + 3) = ((i + 3 : Nat) : Int) by unfold wrap64; omega]
  by_cases h : ((l.drop i).take 3 == [45, 45, 45] || (l.drop i).take 3 == [46, 46, 46]) = true
  · rw [if_pos h, h, Bool.true_and]
    by_cases h3 : i + 3 < l.length
    · rw [if_pos (by omega), if_pos (by omega), white_f]
      simp only [Option.bind_some]
      rw [List.drop_drop, List.head?_drop, show rd l ((i + 3 : Nat) : Int) = l[i + 3] by unfold rd; rw [Int.toNat_natCast]; simp [List.getD, h3], List.getElem?_eq_getElem h3]
      generalize l[i + 3] = c
      by_cases e1 : c = 32
      · simp [e1]
      · by_cases e2 : c = 9
        · simp [e2]
        · simp [e1, e2]
    · rw [if_neg (by omega), List.drop_drop, List.head?_drop, List.getElem?_eq_none (by omega)]
      rfl
  · rw [if_neg h]
    rw [Bool.not_eq_true] at h
    rw [h]; rfl

/-! ### empty lines -/
theorem empt_mono : ∀ (k1 k2 a : Nat) (l : List Int), l.length < k1 → l.length < k2 → empt k1 a l = empt k2 a l
  | 0, _, _, _, h, _ => absurd h (by omega)
  | _, 0, _, _, _, h => absurd h (by omega)
  | k1 + 1, k2 + 1, a, l, h1, h2 => by
    unfold empt
    split
    · rfl
    · split
      · rename_i hh
        have h3 := skip_len l
        have h4 : 1 ≤ (skip l).length := by
          cases e : skip l with
          | nil => rw [e] at hh; cases hh
          | cons c t => simp
        exact empt_mono k1 k2 (a + 1) _ (by simp; omega) (by simp; omega)
      · rfl
def E (l : List Int) : Option (Nat × List Int) → Int × Int × Bool
  | none => (0, 0, false)
  | some (n, r) => ((n : Int), ((l.length - r.length : Nat) : Int), true)
/-- Behind the look at a line's beginning. -/
def rest1 (a : Nat) (x : List Int) : Option (Nat × List Int) := if (skip x).head? = some 10 then empt (x.length + 1) (a + 1) ((skip x).drop 1) else some (a, skip x)
theorem empt_rest (k a : Nat) (x : List Int) (h : x.length < k) : empt k a x = if mkr x = true then none else rest1 a x := by
  obtain ⟨k, rfl⟩ : ∃ m, k = m + 1 := ⟨k - 1, by omega⟩
  conv => lhs; unfold empt
  split
  · rfl
  · unfold rest1
    split
    · rename_i hh
      have h3 := skip_len x
      have h4 : 1 ≤ (skip x).length := by
        cases e : skip x with
        | nil => rw [e] at hh; cases hh
        | cons c t => simp
      exact empt_mono _ _ _ _ (by simp; omega) (by simp; omega)
    · rfl
theorem l0_of (l : List Int) (hl : l.length ≤ 65536) (k i a : Nat) (hi : i ≤ l.length) (h1 : spec_scEmpty.l1 k l (i : Int) (a : Int) = some (E l (rest1 a (l.drop i)))) : spec_scEmpty.l0 (k + 1) l (i : Int) (a : Int) = some (E l (empt (l.length + 1) a (l.drop i))) := by
  simp only [spec_scEmpty.l0]
  rw [mark_f l hl i hi, empt_rest _ _ _ (by simp; omega)]
  simp only [Option.bind_some]
  split
  · rfl
  · exact h1
theorem l1_any (l : List Int) (hl : l.length ≤ 65536) : ∀ (d k i a : Nat), l.length - i = d → i ≤ l.length → 2 * d + 2 ≤ k → a ≤ i → spec_scEmpty.l1 k l (i : Int) (a : Int) = some (E l (rest1 a (l.drop i)))
  | 0, k, i, a, hd, hi, hk, ha => by
    obtain ⟨k, rfl⟩ : ∃ m, k = m + 1 := ⟨k - 1, by omega⟩
    obtain rfl : i = l.length := by omega
    simp only [spec_scEmpty.l1]
    rw [if_neg (by omega), if_pos (by trivial), List.drop_length]
    simp [rest1, skip, E]
  | d + 1, k, i, a, hd, hi, hk, ha => by
    obtain ⟨k, rfl⟩ : ∃ m, k = m + 1 := ⟨k - 1, by omega⟩
    have hlt : i < l.length := by omega
    have e : l.drop i = l[i] :: l.drop (i + 1) := List.drop_eq_getElem_cons hlt
    have hr : rd l (i : Int) = l[i] := by simp [rd, hlt]
    simp only [spec_scEmpty.l1]
    rw [if_pos (by omega), if_pos (by omega), white_f, hr, e]
    simp only [Option.bind_some]
    rw [show wrap64 ((i : Int) + 1) = ((i + 1 : Nat) : Int) by unfold wrap64; omega, show wrap64 ((a : Int) + 1) = ((a + 1 : Nat) : Int) by unfold wrap64; omega]
    have ih := l1_any l hl d
    have hlen : (l.drop i).length = (l.drop (i + 1)).length + 1 := by rw [e]; rfl
    generalize l[i] = c at e
    by_cases hw : c = 32 ∨ c = 9
    · rw [if_pos (by simpa using hw), ih k (i + 1) a (by omega) (by omega) (by omega) (by omega)]
      congr 2
      have es : skip (c :: l.drop (i + 1)) = skip (l.drop (i + 1)) := by rw [skip, if_pos hw]
      unfold rest1
      rw [es]
      split
      · rename_i hh
        have h3 := skip_len (l.drop (i + 1))
        have h5 : (l.drop (i + 1)).length = l.length - (i + 1) := List.length_drop
        have h4 : 1 ≤ (skip (l.drop (i + 1))).length := by
          cases e : skip (l.drop (i + 1)) with
          | nil => rw [e] at hh; cases hh
          | cons c t => simp
        exact empt_mono _ _ _ _ (by simp; omega) (by simp; omega)
      · rfl
    · rw [if_neg (by simpa using hw), if_neg (by omega)]
      have es : skip (c :: l.drop (i + 1)) = c :: l.drop (i + 1) := by rw [skip, if_neg hw]
      by_cases h10 : c = 10
      · subst h10
        rw [if_pos rfl]
        obtain ⟨k, rfl⟩ : ∃ m, k = m + 1 := ⟨k - 1, by omega⟩
        have h0 := l0_of l hl k (i + 1) (a + 1) (by omega) (ih k (i + 1) (a + 1) (by omega) (by omega) (by omega) (by omega))
        rw [h0]
        congr 2
        unfold rest1
        rw [es, if_pos (show (10 :: l.drop (i + 1)).head? = some (10 : Int) from rfl)]
        exact empt_mono _ _ _ _ (by simp; omega) (by simp; omega)
      · rw [if_neg h10]
        unfold rest1
        rw [es, if_neg (by simpa using h10)]
        simp only [E, ← e]
        congr 3
        have : (l.drop i).length = l.length - i := List.length_drop
        omega
theorem empty_f (l : List Int) (hl : l.length ≤ 65536) (i : Nat) (hi : i ≤ l.length) : spec_scEmpty.f (2 * l.length + 3) l (i : Int) = some (E l (empt (l.length + 1) 0 (l.drop i))) := by
  have h := l1_any l hl (l.length - i) (2 * l.length + 2) i 0 rfl hi (by omega) (by omega)
  exact l0_of l hl _ i 0 hi h

/-! ### line feeds -/
def feeds (n : Nat) : List Int := List.replicate n 10
theorem strOf_tens (n : Nat) : strOfNums (List.replicate n 10) = ba (List.replicate n 10) := by
  refine eq_of_B ?_
  unfold strOfNums
  simp [B, ba]
theorem feeds_l0 (n : Nat) (hn : n ≤ 65536) (d : Nat) : ∀ (k i : Nat), i ≤ n → n - i = d → d < k →
    spec_scFeeds.l0 k (List.replicate i 10 ++ List.replicate (n - i) 0) (n : Int) (i : Int) = some (ba (List.replicate n 10)) := by
  induction d with
  | zero =>
    intro k i h1 h2 h3
    obtain ⟨k, rfl⟩ : ∃ m, k = m + 1 := ⟨k - 1, by omega⟩
    obtain rfl : i = n := by omega
    simp only [spec_scFeeds.l0]
    rw [if_neg (by omega), Nat.sub_self, List.replicate_zero, List.append_nil, strOf_tens]
  | succ d ih =>
    intro k i h1 h2 h3
    obtain ⟨k, rfl⟩ : ∃ m, k = m + 1 := ⟨k - 1, by omega⟩
    simp only [spec_scFeeds.l0]
    have hl : (List.replicate i (10 : Int) ++ List.replicate (n - i) 0).length = n := by simp; omega
    rw [if_pos (by omega), if_pos (by omega), if_pos (by omega), show wrap64 ((i : Int) + 1) = ((i + 1 : Nat) : Int) by unfold wrap64; omega]
    have e : (List.replicate i (10 : Int) ++ List.replicate (n - i) 0).set ((i : Int)).toNat 10 = List.replicate (i + 1) 10 ++ List.replicate (n - (i + 1)) 0 := by
      rw [show ((i : Int)).toNat = i by omega, show n - i = (n - (i + 1)) + 1 by omega, List.replicate_succ, List.replicate_succ']
      rw [List.set_append_right _ _ (by simp)]
      simp
    rw [e]
    exact ih k (i + 1) (by omega) (by omega) (by omega)
theorem feeds_f (n : Nat) (hn : n ≤ 65536) (k : Nat) (hk : n < k) : spec_scFeeds.f k (n : Int) = some (ba (List.replicate n 10)) := by
  unfold spec_scFeeds.f
  have hm : mx (n : Int) 0 = (n : Int) := by unfold mx; split <;> omega
  rw [hm, if_pos (by omega), if_pos (by omega), show ((n : Int)).toNat = n by omega]
  simp only [Option.bind_some]
  have := feeds_l0 n hn n k 0 (by omega) (by omega) hk
  simpa using this
/-- What a break and empty lines are in the value. -/
def gap (n : Nat) : ByteArray := if n = 0 then ba [32] else ba (List.replicate n 10)
theorem break_f (l : List Int) (hl : l.length ≤ 65535) (i : Nat) (hi : i < l.length) :
    spec_scBreak.f (2 * l.length + 3) l (i : Int) = some (match empt (l.length + 1) 0 (l.drop (i + 1)) with | none => (ba [32], 0, false) | some (n, r) => (gap n, ((l.length - r.length : Nat) : Int), true)) := by
  unfold spec_scBreak.f
  rw [show wrap64 ((i : Int) + 1) = ((i + 1 : Nat) : Int) by unfold wrap64; omega, empty_f l (by omega) (i + 1) (by omega)]
  simp only [Option.bind_some]
  cases h : empt (l.length + 1) 0 (l.drop (i + 1)) with
  | none => simp only [E, if_pos]; rfl
  | some p =>
    obtain ⟨n, r⟩ := p
    have hb := empt_len _ _ _ h
    simp only [List.length_drop] at hb
    show (if (n : Int) = 0 then some ((⟨#[32]⟩ : ByteArray), ((l.length - r.length : Nat) : Int), true) else ((spec_scFeeds.f (2 * l.length + 3) (n : Int)).bind fun t144 => some (t144, ((l.length - r.length : Nat) : Int), true))) = some (gap n, ((l.length - r.length : Nat) : Int), true)
    unfold gap
    by_cases hn : n = 0
    · subst hn; rfl
    · rw [if_neg (by omega), if_neg hn, feeds_f n (by omega) _ (by omega)]
      rfl
end Go.Proofs.YtgglhfbjbddjjaaDoor.LnSpec
