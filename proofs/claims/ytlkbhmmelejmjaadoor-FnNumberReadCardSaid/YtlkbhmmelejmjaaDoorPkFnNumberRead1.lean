/- Parts of the proof of FnNumberRead, one behind the other: Base0, NumKnown, NumPure, FltDec, FltPure, FltLeft. Each part says ahead of itself what it proves. -/
import Derived.Test.YtlkbhmmelejmjaaDoorProg
import Derived.Below
import Derived.Deep.Draws
import Derived.Deep.AppendLies
import Derived.Maps.AppendAt
import Derived.OwnWalk
import Derived.Laws.BytesArg
import Derived.Laws.MakeOwn
import Derived.Laws.OwnMore
import Derived.Deep.OwnRows
import Derived.Tactics
import Derived.Lib.ConvBytes
import Derived.Laws.Slices
import Derived.WalkKit
import Derived.KernelRfl
import Derived.RowKit3
import Derived.Deep.LoopGhost
import Derived.Deep.QuietTactic
import Derived.BigQuiet
import Derived.WideLaws
import Derived.Deep.DeepCutAuto
import Derived.Deep.CutBlock
import Derived.Deep.RegionHeld3
import Derived.Laws.Rows
import Derived.Lib.AppendStr
import Derived.ArgAppend
import Derived.Laws.IdiomCopy
import Derived.OrdersHeld
import Derived.Laws.BitsLemmas
import Derived.RowKit
import Derived.Test.YtlkbhmmelejmjaaDoorWMore
import Derived.Lib.Strings
import Derived.Lib.IndexBytes
import Derived.Laws.Strings3
import Derived.WalkSpells

/- The errors of one type as values, and the modules that the printed functions stand on. -/
namespace Go.Proofs.YtlkbhmmelejmjaaDoor.Base0
open Go.RowKit
def errW : Option Int → Value
  | none => .nilIface
  | some c => .iface 65 (.int .i64 c)
theorem errW_none : errW none = .nilIface := rfl
theorem errW_some (c : Int) : errW (some c) = .iface 65 (.int .i64 c) := rfl
theorem info5 : (Tryd.prog.info? 5).map (fun i => (i.zero, i.size, i.bytes)) = some (some (.int .u8 0), 1, 1) := by kernel_rfl
end Go.Proofs.YtlkbhmmelejmjaaDoor.Base0

/- Numbers: plain functions of the library and the reference, as print.sh prints them, cut out of its texts. -/
namespace Go.Proofs.YtlkbhmmelejmjaaDoor.NumKnown
open Go.RowKit Go.Proofs.YtlkbhmmelejmjaaDoorW.PrintWords Go.Proofs.YtlkbhmmelejmjaaDoorW.PrintLast Go.Proofs.YtlkbhmmelejmjaaDoorW.PrintMore Go.Proofs.YtlkbhmmelejmjaaDoor.Base0
attribute [local go_sem] max2_int min2_int max_two min_two max_three min_three max_four min_four   -- for this text's walks alone
set_option linter.unusedVariables false
set_option linter.unusedSimpArgs false

-- NOT PRINTED: function 53 (strconv_readFloat)

-- NOT PRINTED: function 56 (strconv_float32frombits)

-- NOT PRINTED: function 54 (strconv_atofHex)

/-! ### token_zzIndex: function 39 -/
def token_zzIndex.l0 : Nat → ByteArray → ByteArray → Int → Option (Int)
  | 0, _, _, _ => none
  | k + 1, x0, x1, x5 => if (wrap64 (x5 + (x1.size : Int))) ≤ (x0.size : Int) then (if 0 ≤ x5 then (if x5 ≤ (wrap64 (x5 + (x1.size : Int))) then (if (x0.extract (x5 : Int).toNat ((wrap64 (x5 + (x1.size : Int))) : Int).toNat).toList = x1.toList then (some x5) else (token_zzIndex.l0 k x0 x1 (wrap64 (x5 + 1)))) else (none)) else (none)) else (some (-1))
def token_zzIndex.f (k : Nat) (a0 : ByteArray) (a1 : ByteArray) : Option (Int) := token_zzIndex.l0 k a0 a1 0
theorem token_zzIndex.mono_l : ∀ k, (∀ y0 y1 y2, LeO (token_zzIndex.l0 k y0 y1 y2) (token_zzIndex.l0 (k + 1) y0 y1 y2))
  | 0 => fun _ _ _ r h => by simp [token_zzIndex.l0] at h
  | k + 1 => by
    have ih0 := token_zzIndex.mono_l k
    · intro y0 y1 y2
      unfold token_zzIndex.l0
      repeat' first
      | (with_reducible exact ih0 _ _ _)
      | (with_reducible exact LeO.refl _)
      | (with_reducible exact LeO.none _)
      | (with_reducible refine LeO.ite ?_ ?_)
      | (with_reducible refine LeO.bind ?_ (fun _ => ?_))
      | exact ih0 _ _ _
      | exact LeO.none _
      | refine LeO.ite ?_ ?_
      | refine LeO.bind ?_ (fun _ => ?_)
theorem token_zzIndex.mono : ∀ a0 a1 k, LeO (token_zzIndex.f k a0 a1) (token_zzIndex.f (k + 1) a0 a1) := by
  intro a0 a1 k
  have ih0 := token_zzIndex.mono_l k
  unfold token_zzIndex.f
  repeat' first
      | (with_reducible exact ih0 _ _ _)
      | (with_reducible exact LeO.refl _)
      | (with_reducible exact LeO.none _)
      | (with_reducible refine LeO.ite ?_ ?_)
      | (with_reducible refine LeO.bind ?_ (fun _ => ?_))
      | exact ih0 _ _ _
      | exact LeO.none _
      | refine LeO.ite ?_ ?_
      | refine LeO.bind ?_ (fun _ => ?_)
set_option maxHeartbeats 8000000 in
set_option maxRecDepth 100000 in
theorem token_zzIndex.calls (k : Nat) (a0 : ByteArray) (a1 : ByteArray) (r : Int) (w : World) (h : token_zzIndex.f k a0 a1 = some r) :
    Calls Tryd.prog 39 #[.string a0, .string a1] w fun e w' => e = .returned (.int .i64 r) ∧ Drawn0 w w' := by
  have H : (token_zzIndex.l0 k a0 a1 0) = some r := h
  clear h
  have H' := Aside0.mk H
  clear H
  go_enter Tryd.func39, Tryd.ntmps39
  go_wp2
  go_loopg [5] k (fun kq v5 w' => ∃ (x5_1 : Int), v5 = .int .i64 x5_1 ∧ Aside0 (token_zzIndex.l0 kq a0 a1 x5_1 = some r) ∧ Aside0 (kq ≤ k) ∧ Drawn0 w w')
  case atStart => exact ⟨(0), (by first | rfl | (simp; done) | (simp [*]; done)), H', ⟨Nat.le_refl _⟩, by repeat (first | exact Drawn0.refl _ | apply Drawn0.step)⟩
  case round =>
    clear H'
    try clear p2
    obtain ⟨x5_1, rfl, HA, HK1, ⟨m1, rfl⟩⟩ := hrel
    cases gk with
    | zero => exact absurd HA.out (by simp [token_zzIndex.l0])
    | succ k1 =>
      have H := HA.out
      clear HA
      simp only [token_zzIndex.l0] at H
      by_cases c3 : (wrap64 (x5_1 + (a1.size : Int))) ≤ (a0.size : Int)
      · rw [if_pos c3] at H
        have c3b0 : decide ((wrap64 (x5_1 + (a1.size : Int))) ≤ (a0.size : Int)) = true := decide_eq_true c3
        clear c3
        by_cases c4 : 0 ≤ x5_1
        · rw [if_pos c4] at H
          have c4b0 := eq_true c4
          have c4b1 : decide (0 ≤ x5_1) = true := decide_eq_true c4
          clear c4
          by_cases c5 : x5_1 ≤ (wrap64 (x5_1 + (a1.size : Int)))
          · rw [if_pos c5] at H
            have c5b0 := eq_true c5
            have c5b1 : decide (x5_1 ≤ (wrap64 (x5_1 + (a1.size : Int)))) = true := decide_eq_true c5
            have c6b0 := eq_true (of_decide_eq_true (by first | (with_reducible assumption) | assumption) : (wrap64 (x5_1 + (a1.size : Int))) ≤ (a0.size : Int))
            by_cases c7 : (a0.extract (x5_1 : Int).toNat ((wrap64 (x5_1 + (a1.size : Int))) : Int).toNat).toList = a1.toList
            · rw [if_pos c7] at H
              have c7b0 : ((a0.extract (x5_1 : Int).toNat ((wrap64 (x5_1 + (a1.size : Int))) : Int).toNat).toList == a1.toList) = true := beq_iff_eq.mpr c7
              have c7b1 : ((a0.extract (x5_1 : Int).toNat ((wrap64 (x5_1 + (a1.size : Int))) : Int).toNat).toList != a1.toList) = false := bne_eq_false_iff_eq.mpr c7
              clear c7
              obtain rfl := Option.some.inj H
              go_wp2
              go_ret
              exact ⟨by first | rfl | (simp; done) | (simp [*]; done), by repeat (first | exact Drawn0.refl _ | apply Drawn0.step)⟩
            · rw [if_neg c7] at H
              have c7b0 : ((a0.extract (x5_1 : Int).toNat ((wrap64 (x5_1 + (a1.size : Int))) : Int).toNat).toList == a1.toList) = false := beq_eq_false_iff_ne.mpr c7
              have c7b1 : ((a0.extract (x5_1 : Int).toNat ((wrap64 (x5_1 + (a1.size : Int))) : Int).toNat).toList != a1.toList) = true := bne_iff_ne.mpr c7
              have H' := Aside0.mk H
              clear H
              go_wp2
              go_roundg k1
              case measure => have := HK1.out; omega
              case rel => exact ⟨(wrap64 (x5_1 + 1)), (by first | rfl | (simp; done) | (simp [*]; done)), H', ⟨by have := HK1.out; omega⟩, by repeat (first | exact Drawn0.refl _ | apply Drawn0.step)⟩
          · rw [if_neg c5] at H
            exact absurd H (by simp)
        · rw [if_neg c4] at H
          exact absurd H (by simp)
      · rw [if_neg c3] at H
        have c3b0 : decide ((wrap64 (x5_1 + (a1.size : Int))) ≤ (a0.size : Int)) = false := decide_eq_false c3
        clear c3
        obtain rfl := Option.some.inj H
        go_wp2
        go_ret
        exact ⟨by first | rfl | (simp; done) | (simp [*]; done), by repeat (first | exact Drawn0.refl _ | apply Drawn0.step)⟩

/-! ### strconv_lower: function 50 -/
def strconv_lower.f (a0 : Int) : Option (Int) := some (Go.bits .or .u8 a0 32)
set_option maxHeartbeats 8000000 in
set_option maxRecDepth 100000 in
theorem strconv_lower.calls (a0 : Int) (r : Int) (w : World) (h : strconv_lower.f a0 = some r) :
    Calls Tryd.prog 50 #[.int .u8 a0] w fun e w' => e = .returned (.int .u8 r) ∧ Drawn0 w w' := by
  have H : (some (Go.bits .or .u8 a0 32)) = some r := h
  clear h
  obtain rfl := Option.some.inj H
  go_enter Tryd.func50, Tryd.ntmps50
  go_wp2
  go_ret
  exact ⟨by first | rfl | (simp; done) | (simp [*]; done), by repeat (first | exact Drawn0.refl _ | apply Drawn0.step)⟩

/-! ### stringslite_HasPrefix: function 41 -/
def stringslite_HasPrefix.f (a0 : ByteArray) (a1 : ByteArray) : Option (Bool) := if (a0.size : Int) ≥ (a1.size : Int) then (if 0 ≤ (a1.size : Int) then (if (a1.size : Int) ≤ (a0.size : Int) then (some ((a0.extract 0 ((a1.size : Int) : Int).toNat).toList == a1.toList)) else (none)) else (none)) else (some false)
set_option maxHeartbeats 8000000 in
set_option maxRecDepth 100000 in
theorem stringslite_HasPrefix.calls (a0 : ByteArray) (a1 : ByteArray) (r : Bool) (w : World) (h : stringslite_HasPrefix.f a0 a1 = some r) :
    Calls Tryd.prog 41 #[.string a0, .string a1] w fun e w' => e = .returned (.bool r) ∧ Drawn0 w w' := by
  have H : (if (a0.size : Int) ≥ (a1.size : Int) then (if 0 ≤ (a1.size : Int) then (if (a1.size : Int) ≤ (a0.size : Int) then (some ((a0.extract 0 ((a1.size : Int) : Int).toNat).toList == a1.toList)) else (none)) else (none)) else (some false)) = some r := h
  clear h
  by_cases c3 : (a0.size : Int) ≥ (a1.size : Int)
  · rw [if_pos c3] at H
    have c3b0 : decide ((a1.size : Int) ≤ (a0.size : Int)) = true := decide_eq_true c3
    have c3b1 : decide (a1.size ≤ a0.size) = true := decide_eq_true (Int.ofNat_le.mp c3)
    clear c3
    by_cases c4 : 0 ≤ (a1.size : Int)
    · rw [if_pos c4] at H
      have c4b0 := eq_true c4
      have c4b1 : decide (0 ≤ (a1.size : Int)) = true := decide_eq_true c4
      clear c4
      by_cases c5 : (a1.size : Int) ≤ (a0.size : Int)
      · rw [if_pos c5] at H
        have c5b0 := eq_true c5
        have c5b1 : decide ((a1.size : Int) ≤ (a0.size : Int)) = true := decide_eq_true c5
        clear c5
        obtain rfl := Option.some.inj H
        go_enter Tryd.func41, Tryd.ntmps41
        go_wp2
        go_ret
        exact ⟨by first | rfl | (simp; done) | (simp [*]; done), by repeat (first | exact Drawn0.refl _ | apply Drawn0.step)⟩
      · rw [if_neg c5] at H
        exact absurd H (by simp)
    · rw [if_neg c4] at H
      exact absurd H (by simp)
  · rw [if_neg c3] at H
    have c3b0 : decide ((a1.size : Int) ≤ (a0.size : Int)) = false := decide_eq_false c3
    have c3b1 : decide (a1.size ≤ a0.size) = false := decide_eq_false (fun h => c3 (Int.ofNat_le.mpr h))
    clear c3
    obtain rfl := Option.some.inj H
    go_enter Tryd.func41, Tryd.ntmps41
    go_wp2
    go_ret
    exact ⟨by first | rfl | (simp; done) | (simp [*]; done), by repeat (first | exact Drawn0.refl _ | apply Drawn0.step)⟩

/-! ### strings_HasPrefix: function 28 -/
def strings_HasPrefix.f (a0 : ByteArray) (a1 : ByteArray) : Option (Bool) := (stringslite_HasPrefix.f a0 a1).bind fun t143 => (some t143)
set_option maxHeartbeats 8000000 in
set_option maxRecDepth 100000 in
theorem strings_HasPrefix.calls (a0 : ByteArray) (a1 : ByteArray) (r : Bool) (w : World) (h : strings_HasPrefix.f a0 a1 = some r) :
    Calls Tryd.prog 28 #[.string a0, .string a1] w fun e w' => e = .returned (.bool r) ∧ Drawn0 w w' := by
  have H : ((stringslite_HasPrefix.f a0 a1).bind fun t143 => (some t143)) = some r := h
  clear h
  replace H := Option.bind_eq_some_iff.mp H
  obtain ⟨t143, A30, H⟩ := H
  replace H : (some t143) = some r := H
  have A3 := Aside0.mk A30
  clear A30
  obtain rfl := Option.some.inj H
  go_enter Tryd.func28, Tryd.ntmps28
  go_wp2_with (first | ((with_reducible refine gate_callee (f := 41) rfl ?_); refine goesL_ (some 7) rfl rfl Tryd.func41 (by kernel_rfl) rfl #[.string a0, .string a1] rfl (by (try simp only [List.map_toArray, List.map_cons, List.map_nil]); first | done | rfl | (simp only [List.length_drop, List.length_take]; rfl)) ?_; (with_reducible refine (stringslite_HasPrefix.calls a0 a1 t143 _ A3.out).mono ?_); rintro e w' ⟨rfl, ⟨nd, rfl⟩⟩; refine ⟨_, rfl, ?_⟩))
  go_ret
  exact ⟨by first | rfl | (simp; done) | (simp [*]; done), by repeat (first | exact Drawn0.refl _ | apply Drawn0.step)⟩

/-! ### token_zzReplaceAll: function 30 -/
def token_zzReplaceAll.l0 : Nat → ByteArray → ByteArray → ByteArray → List Int → Option (ByteArray)
  | 0, _, _, _, _ => none
  | k + 1, x0, x1, x2, x7 => (token_zzIndex.f k x0 x1).bind fun t144 => (if t144 < 0 then (if x7.length + x0.size < 140737488355328 then (some (strOfNums (x7 ++ bytesOf x0))) else (none)) else (if 0 ≤ t144 then (if t144 ≤ (x0.size : Int) then (if x7.length + (x0.extract 0 (t144 : Int).toNat).size < 140737488355328 then ((some (x7 ++ bytesOf (x0.extract 0 (t144 : Int).toNat) : List Int)).bind fun y148 => (if y148.length + x2.size < 140737488355328 then (if 0 ≤ (wrap64 (t144 + (x1.size : Int))) then (if (wrap64 (t144 + (x1.size : Int))) ≤ (x0.size : Int) then (token_zzReplaceAll.l0 k (x0.extract ((wrap64 (t144 + (x1.size : Int))) : Int).toNat x0.size) x1 x2 (y148 ++ bytesOf x2)) else (none)) else (none)) else (none))) else (none)) else (none)) else (none)))
def token_zzReplaceAll.f (k : Nat) (a0 : ByteArray) (a1 : ByteArray) (a2 : ByteArray) : Option (ByteArray) := token_zzReplaceAll.l0 k a0 a1 a2 ([] : List Int)
theorem token_zzReplaceAll.mono_l : ∀ k, (∀ y0 y1 y2 y3, LeO (token_zzReplaceAll.l0 k y0 y1 y2 y3) (token_zzReplaceAll.l0 (k + 1) y0 y1 y2 y3))
  | 0 => fun _ _ _ _ r h => by simp [token_zzReplaceAll.l0] at h
  | k + 1 => by
    have ih0 := token_zzReplaceAll.mono_l k
    · intro y0 y1 y2 y3
      unfold token_zzReplaceAll.l0
      repeat' first
      | (with_reducible exact ih0 _ _ _ _)
      | (with_reducible exact token_zzIndex.mono _ _ _)
      | (with_reducible exact LeO.refl _)
      | (with_reducible exact LeO.none _)
      | (with_reducible refine LeO.ite ?_ ?_)
      | (with_reducible refine LeO.bind ?_ (fun _ => ?_))
      | exact ih0 _ _ _ _
      | exact token_zzIndex.mono _ _ _
      | exact LeO.none _
      | refine LeO.ite ?_ ?_
      | refine LeO.bind ?_ (fun _ => ?_)
theorem token_zzReplaceAll.mono : ∀ a0 a1 a2 k, LeO (token_zzReplaceAll.f k a0 a1 a2) (token_zzReplaceAll.f (k + 1) a0 a1 a2) := by
  intro a0 a1 a2 k
  have ih0 := token_zzReplaceAll.mono_l k
  unfold token_zzReplaceAll.f
  repeat' first
      | (with_reducible exact ih0 _ _ _ _)
      | (with_reducible exact token_zzIndex.mono _ _ _)
      | (with_reducible exact LeO.refl _)
      | (with_reducible exact LeO.none _)
      | (with_reducible refine LeO.ite ?_ ?_)
      | (with_reducible refine LeO.bind ?_ (fun _ => ?_))
      | exact ih0 _ _ _ _
      | exact token_zzIndex.mono _ _ _
      | exact LeO.none _
      | refine LeO.ite ?_ ?_
      | refine LeO.bind ?_ (fun _ => ?_)
set_option maxHeartbeats 8000000 in
set_option maxRecDepth 100000 in
theorem token_zzReplaceAll.calls (k : Nat) (a0 : ByteArray) (a1 : ByteArray) (a2 : ByteArray) (r : ByteArray) (w : World) (h : token_zzReplaceAll.f k a0 a1 a2 = some r) :
    Calls Tryd.prog 30 #[.string a0, .string a1, .string a2] w fun e w' => e = .returned (.string r) ∧ Below w.heap.size w w' := by
  have HB := Aside0.mk (Below.refl w.heap.size w)
  have H : (token_zzReplaceAll.l0 k a0 a1 a2 ([] : List Int)) = some r := h
  clear h
  have H' := Aside0.mk H
  clear H
  go_enter Tryd.func30, Tryd.ntmps30
  go_wp2
  go_loopg [0, 7] k (fun kq v0 v7 w' => ∃ (x0_1 : ByteArray) (x7_1 : List Int), v0 = .string x0_1 ∧ Aside0 (token_zzReplaceAll.l0 kq x0_1 a1 a2 x7_1 = some r) ∧ Aside0 (kq ≤ k) ∧ Aside0 (Kd.R (Kd.int .u8) 5 w' w.heap.size (fun _ => True) v7 x7_1) ∧ Aside0 (Below w.heap.size w w'))
  case atStart => exact ⟨(a0), (([] : List Int)), (by first | rfl | (simp; done) | (simp [*]; done)), H', ⟨Nat.le_refl _⟩, ⟨by first | exact Kd.R_nil _ _ _ _ _ | exact Kd.N_nil _ _ _ _ _ | exact Kd.V_nil _ _ _ _ _ | exact Kd.Q_nil _ _ _ _ _ | exact Kd.S_nil _ _ _ _ _⟩, ⟨by repeat (first | (with_reducible first | exact HB.out | apply below_alloc | apply pw_below_drewN | apply below_drew1) | exact HB.out)⟩⟩
  case round =>
    clear H'
    try clear p2
    try clear c3
    obtain ⟨x0_1, x7_1, rfl, HA, HK1, HO_7, HB⟩ := hrel
    cases gk with
    | zero => exact absurd HA.out (by simp [token_zzReplaceAll.l0])
    | succ k1 =>
      have H := HA.out
      clear HA
      simp only [token_zzReplaceAll.l0] at H
      replace H := Option.bind_eq_some_iff.mp H
      obtain ⟨t144, A40, H⟩ := H
      replace H : (if t144 < 0 then (if x7_1.length + x0_1.size < 140737488355328 then (some (strOfNums (x7_1 ++ bytesOf x0_1))) else (none)) else (if 0 ≤ t144 then (if t144 ≤ (x0_1.size : Int) then (if x7_1.length + (x0_1.extract 0 (t144 : Int).toNat).size < 140737488355328 then ((some (x7_1 ++ bytesOf (x0_1.extract 0 (t144 : Int).toNat) : List Int)).bind fun y148 => (if y148.length + a2.size < 140737488355328 then (if 0 ≤ (wrap64 (t144 + (a1.size : Int))) then (if (wrap64 (t144 + (a1.size : Int))) ≤ (x0_1.size : Int) then (token_zzReplaceAll.l0 k1 (x0_1.extract ((wrap64 (t144 + (a1.size : Int))) : Int).toNat x0_1.size) a1 a2 (y148 ++ bytesOf a2)) else (none)) else (none)) else (none))) else (none)) else (none)) else (none))) = some r := H
      have A4 := Aside0.mk A40
      clear A40
      by_cases c5 : t144 < 0
      · rw [if_pos c5] at H
        have c5b0 : decide (t144 < 0) = true := decide_eq_true c5
        clear c5
        by_cases c6 : x7_1.length + x0_1.size < 140737488355328
        · rw [if_pos c6] at H
          have LMc6 := Aside0.mk c6
          clear c6
          obtain ⟨y145, hy145⟩ : ∃ y_ : List Int, y_ = (x7_1 ++ bytesOf x0_1) := ⟨_, rfl⟩
          replace H : (some (strOfNums y145)) = some r := by first | (rw [hy145]; with_reducible exact H) | (have H2_ := (Option.bind_some _ _).symm.trans H; rw [hy145]; with_reducible exact H2_) | (have H2_ := (Option.bind_some _ _).symm.trans H; with_reducible exact H2_) | with_reducible exact H | (rw [hy145]; exact H) | exact H
          have Ny145 := Aside0.mk hy145
          clear hy145
          obtain rfl := Option.some.inj H
          go_wp2_with (first | ((with_reducible refine gate_callee (f := 39) rfl ?_); refine goesL_ (some 11) rfl rfl Tryd.func39 (by kernel_rfl) rfl #[.string x0_1, .string a1] rfl (by (try simp only [List.map_toArray, List.map_cons, List.map_nil]); first | done | rfl | (simp only [List.length_drop, List.length_take]; rfl)) ?_; (with_reducible refine (token_zzIndex.calls k1 x0_1 a1 t144 _ A4.out).mono ?_); rintro e w' ⟨rfl, ⟨nd, rfl⟩⟩; refine ⟨_, rfl, ?_⟩) | (at_builtin; refine print_append_str (w0 := w) w.heap.size rfl (.tmp 14) _ 44 9 5 rfl Tryd.underlying44 Tryd.underlying9 info5 u7 x7_1 x0_1 rfl rfl ?aO ?aB ?aS ?aL ?_; (case aB => exact (by repeat (first | (with_reducible first | exact HB.out | apply below_alloc | apply pw_below_drewN | apply below_drew1) | exact HB.out))); (case aO => exact (Kd.own_of_R (by (with_reducible repeat (first | apply Kd.R_alloc | apply Kd.R_drewN | apply Kd.R_drew)); exact HO_7.out))); (case aS => exact (below_size (by repeat (first | (with_reducible first | exact HB.out | apply below_alloc | apply pw_below_drewN | apply below_drew1) | exact HB.out)))); (case aL => have := LMc6.out; omega); intro v146 w7 ho0 hb hg; have ho := Kd.R_of_own (h1 := fun _ => rfl) (ok := fun _ => True) ho0 (fun _ _ => trivial); clear ho0; have hat := True.intro; rw [← Ny145.out] at ho; change Kd.R (Kd.int .u8) 5 w7 w.heap.size (fun _ => True) v146 y145 at ho; have n0_ := Aside0.mk (hb); have n1_ := Aside0.mk (ho); clear HB; clear HO_7; have HB := n0_; have HO147 := n1_; clear n0_ n1_; clear ho hb hg hat; have hcv8 := own_string (P := Tryd.prog) Tryd.underlying44 Tryd.underlying5 Tryd.underlying9 (Kd.own_of_R HO147.out)))
          go_ret
          exact ⟨by first | rfl | (simp [errW_none, errW_some] <;> rfl) | (simp [*, errW_none, errW_some] <;> rfl), by repeat (first | (with_reducible first | exact HB.out | apply below_alloc | apply pw_below_drewN | apply below_drew1) | exact HB.out)⟩
        · rw [if_neg c6] at H
          exact absurd H (by simp)
      · rw [if_neg c5] at H
        have c5b0 : decide (t144 < 0) = false := decide_eq_false c5
        clear c5
        by_cases c9 : 0 ≤ t144
        · rw [if_pos c9] at H
          have c9b0 := eq_true c9
          have c9b1 : decide (0 ≤ t144) = true := decide_eq_true c9
          clear c9
          by_cases c10 : t144 ≤ (x0_1.size : Int)
          · rw [if_pos c10] at H
            have c10b0 := eq_true c10
            have c10b1 : decide (t144 ≤ (x0_1.size : Int)) = true := decide_eq_true c10
            clear c10
            by_cases c11 : x7_1.length + (x0_1.extract 0 (t144 : Int).toNat).size < 140737488355328
            · rw [if_pos c11] at H
              have LMc11 := Aside0.mk c11
              clear c11
              obtain ⟨y148, hy148⟩ : ∃ y_ : List Int, y_ = (x7_1 ++ bytesOf (x0_1.extract 0 (t144 : Int).toNat)) := ⟨_, rfl⟩
              replace H : (if y148.length + a2.size < 140737488355328 then (if 0 ≤ (wrap64 (t144 + (a1.size : Int))) then (if (wrap64 (t144 + (a1.size : Int))) ≤ (x0_1.size : Int) then (token_zzReplaceAll.l0 k1 (x0_1.extract ((wrap64 (t144 + (a1.size : Int))) : Int).toNat x0_1.size) a1 a2 (y148 ++ bytesOf a2)) else (none)) else (none)) else (none)) = some r := by first | (rw [hy148]; with_reducible exact H) | (have H2_ := (Option.bind_some _ _).symm.trans H; rw [hy148]; with_reducible exact H2_) | (have H2_ := (Option.bind_some _ _).symm.trans H; with_reducible exact H2_) | with_reducible exact H | (rw [hy148]; exact H) | exact H
              have Ny148 := Aside0.mk hy148
              clear hy148
              by_cases c12 : y148.length + a2.size < 140737488355328
              · rw [if_pos c12] at H
                have LMc12 := Aside0.mk c12
                clear c12
                obtain ⟨y151, hy151⟩ : ∃ y_ : List Int, y_ = (y148 ++ bytesOf a2) := ⟨_, rfl⟩
                replace H : (if 0 ≤ (wrap64 (t144 + (a1.size : Int))) then (if (wrap64 (t144 + (a1.size : Int))) ≤ (x0_1.size : Int) then (token_zzReplaceAll.l0 k1 (x0_1.extract ((wrap64 (t144 + (a1.size : Int))) : Int).toNat x0_1.size) a1 a2 y151) else (none)) else (none)) = some r := by first | (rw [hy151]; with_reducible exact H) | (have H2_ := (Option.bind_some _ _).symm.trans H; rw [hy151]; with_reducible exact H2_) | (have H2_ := (Option.bind_some _ _).symm.trans H; with_reducible exact H2_) | with_reducible exact H | (rw [hy151]; exact H) | exact H
                have Ny151 := Aside0.mk hy151
                clear hy151
                obtain ⟨ji13, hji13⟩ : ∃ j_ : Int, (wrap64 (t144 + (a1.size : Int))) = j_ := ⟨_, rfl⟩
                replace H : (if 0 ≤ (ji13) then (if (ji13) ≤ (x0_1.size : Int) then (token_zzReplaceAll.l0 k1 (x0_1.extract ((ji13) : Int).toNat x0_1.size) a1 a2 y151) else (none)) else (none)) = some r := by first | (rw [hji13] at H; exact H) | (simp only [hji13] at H ⊢; exact H)
                (try rw [hji13] at A4)
                have hji13w : (IntKind.i64.wrap (t144 + (a1.size : Int))) = ji13 := (i64_w _).trans hji13
                by_cases c14 : 0 ≤ (ji13)
                · rw [if_pos c14] at H
                  have c14b0 := eq_true c14
                  have c14b1 : decide (0 ≤ (ji13)) = true := decide_eq_true c14
                  clear c14
                  by_cases c15 : (ji13) ≤ (x0_1.size : Int)
                  · rw [if_pos c15] at H
                    have c15b0 := eq_true c15
                    have c15b1 : decide ((ji13) ≤ (x0_1.size : Int)) = true := decide_eq_true c15
                    clear c15
                    have H' := Aside0.mk H
                    clear H
                    go_wp2_with (first | ((with_reducible refine gate_callee (f := 39) rfl ?_); refine goesL_ (some 11) rfl rfl Tryd.func39 (by kernel_rfl) rfl #[.string x0_1, .string a1] rfl (by (try simp only [List.map_toArray, List.map_cons, List.map_nil]); first | done | rfl | (simp only [List.length_drop, List.length_take]; rfl)) ?_; (with_reducible refine (token_zzIndex.calls k1 x0_1 a1 t144 _ A4.out).mono ?_); rintro e w' ⟨rfl, ⟨nd, rfl⟩⟩; refine ⟨_, rfl, ?_⟩) | (at_builtin; refine print_append_str (w0 := w) w.heap.size rfl (.tmp 18) _ 44 9 5 rfl Tryd.underlying44 Tryd.underlying9 info5 u7 x7_1 (x0_1.extract 0 (t144 : Int).toNat) rfl rfl ?aO ?aB ?aS ?aL ?_; (case aB => exact (by repeat (first | (with_reducible first | exact HB.out | apply below_alloc | apply pw_below_drewN | apply below_drew1) | exact HB.out))); (case aO => exact (Kd.own_of_R (by (with_reducible repeat (first | apply Kd.R_alloc | apply Kd.R_drewN | apply Kd.R_drew)); exact HO_7.out))); (case aS => exact (below_size (by repeat (first | (with_reducible first | exact HB.out | apply below_alloc | apply pw_below_drewN | apply below_drew1) | exact HB.out)))); (case aL => have := LMc11.out; omega); intro v149 w16 ho0 hb hg; have ho := Kd.R_of_own (h1 := fun _ => rfl) (ok := fun _ => True) ho0 (fun _ _ => trivial); clear ho0; have hat := True.intro; rw [← Ny148.out] at ho; change Kd.R (Kd.int .u8) 5 w16 w.heap.size (fun _ => True) v149 y148 at ho; have n0_ := Aside0.mk (hb); have n1_ := Aside0.mk (ho); clear HB; clear HO_7; have HB := n0_; have HO150 := n1_; clear n0_ n1_; clear ho hb hg hat) | (at_builtin; refine print_append_str (w0 := w) w.heap.size rfl (.tmp 22) _ 44 9 5 rfl Tryd.underlying44 Tryd.underlying9 info5 v149 y148 a2 rfl rfl ?aO ?aB ?aS ?aL ?_; (case aB => exact (by repeat (first | (with_reducible first | exact HB.out | apply below_alloc | apply pw_below_drewN | apply below_drew1) | exact HB.out))); (case aO => exact (Kd.own_of_R (by (with_reducible repeat (first | apply Kd.R_alloc | apply Kd.R_drewN | apply Kd.R_drew)); exact HO150.out))); (case aS => exact (below_size (by repeat (first | (with_reducible first | exact HB.out | apply below_alloc | apply pw_below_drewN | apply below_drew1) | exact HB.out)))); (case aL => have := LMc12.out; omega); intro v152 w17 ho0 hb hg; have ho := Kd.R_of_own (h1 := fun _ => rfl) (ok := fun _ => True) ho0 (fun _ _ => trivial); clear ho0; have hat := True.intro; rw [← Ny151.out] at ho; change Kd.R (Kd.int .u8) 5 w17 w.heap.size (fun _ => True) v152 y151 at ho; have n0_ := Aside0.mk (hb); have n1_ := Aside0.mk (ho); clear HB; clear HO150; have HB := n0_; have HO153 := n1_; clear n0_ n1_; clear ho hb hg hat))
                    go_roundg k1
                    case measure => have := HK1.out; omega
                    case rel => exact ⟨(x0_1.extract ((ji13) : Int).toNat x0_1.size), (y151), (by first | rfl | (simp; done) | (simp only [← hji13] <;> (first | rfl | simp)) | (simp [*]; done)), H', ⟨by have := HK1.out; omega⟩, ⟨by (with_reducible repeat (first | apply Kd.R_alloc | apply Kd.R_drewN | apply Kd.R_drew)); exact HO153.out⟩, ⟨by repeat (first | (with_reducible first | exact HB.out | apply below_alloc | apply pw_below_drewN | apply below_drew1) | exact HB.out)⟩⟩
                  · rw [if_neg c15] at H
                    exact absurd H (by simp)
                · rw [if_neg c14] at H
                  exact absurd H (by simp)
              · rw [if_neg c12] at H
                exact absurd H (by simp)
            · rw [if_neg c11] at H
              exact absurd H (by simp)
          · rw [if_neg c10] at H
            exact absurd H (by simp)
        · rw [if_neg c9] at H
          exact absurd H (by simp)

/-! ### stringslite_TrimPrefix: function 42 -/
def stringslite_TrimPrefix.f (a0 : ByteArray) (a1 : ByteArray) : Option (ByteArray) := (stringslite_HasPrefix.f a0 a1).bind fun t154 => (if t154 = true then (if 0 ≤ (a1.size : Int) then (if (a1.size : Int) ≤ (a0.size : Int) then (some (a0.extract ((a1.size : Int) : Int).toNat a0.size)) else (none)) else (none)) else (some a0))
set_option maxHeartbeats 8000000 in
set_option maxRecDepth 100000 in
theorem stringslite_TrimPrefix.calls (a0 : ByteArray) (a1 : ByteArray) (r : ByteArray) (w : World) (h : stringslite_TrimPrefix.f a0 a1 = some r) :
    Calls Tryd.prog 42 #[.string a0, .string a1] w fun e w' => e = .returned (.string r) ∧ Drawn0 w w' := by
  have H : ((stringslite_HasPrefix.f a0 a1).bind fun t154 => (if t154 = true then (if 0 ≤ (a1.size : Int) then (if (a1.size : Int) ≤ (a0.size : Int) then (some (a0.extract ((a1.size : Int) : Int).toNat a0.size)) else (none)) else (none)) else (some a0))) = some r := h
  clear h
  replace H := Option.bind_eq_some_iff.mp H
  obtain ⟨t154, A30, H⟩ := H
  replace H : (if t154 = true then (if 0 ≤ (a1.size : Int) then (if (a1.size : Int) ≤ (a0.size : Int) then (some (a0.extract ((a1.size : Int) : Int).toNat a0.size)) else (none)) else (none)) else (some a0)) = some r := H
  have A3 := Aside0.mk A30
  clear A30
  by_cases c4 : t154 = true
  · subst c4
    have H1 : (if 0 ≤ (a1.size : Int) then (if (a1.size : Int) ≤ (a0.size : Int) then (some (a0.extract ((a1.size : Int) : Int).toNat a0.size)) else (none)) else (none)) = some r := by rw [if_pos rfl] at H; exact H
    clear H
    have H := H1
    clear H1
    by_cases c5 : 0 ≤ (a1.size : Int)
    · rw [if_pos c5] at H
      have c5b0 := eq_true c5
      have c5b1 : decide (0 ≤ (a1.size : Int)) = true := decide_eq_true c5
      clear c5
      by_cases c6 : (a1.size : Int) ≤ (a0.size : Int)
      · rw [if_pos c6] at H
        have c6b0 := eq_true c6
        have c6b1 : decide ((a1.size : Int) ≤ (a0.size : Int)) = true := decide_eq_true c6
        clear c6
        obtain rfl := Option.some.inj H
        go_enter Tryd.func42, Tryd.ntmps42
        go_wp2_with (first | ((with_reducible refine gate_callee (f := 41) rfl ?_); refine goesL_ (some 7) rfl rfl Tryd.func41 (by kernel_rfl) rfl #[.string a0, .string a1] rfl (by (try simp only [List.map_toArray, List.map_cons, List.map_nil]); first | done | rfl | (simp only [List.length_drop, List.length_take]; rfl)) ?_; (with_reducible refine (stringslite_HasPrefix.calls a0 a1 true _ A3.out).mono ?_); rintro e w' ⟨rfl, ⟨nd, rfl⟩⟩; refine ⟨_, rfl, ?_⟩))
        go_ret
        exact ⟨by first | rfl | (simp; done) | (simp [*]; done), by repeat (first | exact Drawn0.refl _ | apply Drawn0.step)⟩
      · rw [if_neg c6] at H
        exact absurd H (by simp)
    · rw [if_neg c5] at H
      exact absurd H (by simp)
  · replace c4 := Bool.eq_false_iff.mpr c4
    subst c4
    have H1 : (some a0) = some r := by rw [if_neg (show ¬ (false = true) by decide)] at H; exact H
    clear H
    have H := H1
    clear H1
    obtain rfl := Option.some.inj H
    go_enter Tryd.func42, Tryd.ntmps42
    go_wp2_with (first | ((with_reducible refine gate_callee (f := 41) rfl ?_); refine goesL_ (some 7) rfl rfl Tryd.func41 (by kernel_rfl) rfl #[.string a0, .string a1] rfl (by (try simp only [List.map_toArray, List.map_cons, List.map_nil]); first | done | rfl | (simp only [List.length_drop, List.length_take]; rfl)) ?_; (with_reducible refine (stringslite_HasPrefix.calls a0 a1 false _ A3.out).mono ?_); rintro e w' ⟨rfl, ⟨nd, rfl⟩⟩; refine ⟨_, rfl, ?_⟩))
    go_ret
    exact ⟨by first | rfl | (simp; done) | (simp [*]; done), by repeat (first | exact Drawn0.refl _ | apply Drawn0.step)⟩

/-! ### strings_TrimPrefix: function 31 -/
def strings_TrimPrefix.f (a0 : ByteArray) (a1 : ByteArray) : Option (ByteArray) := (stringslite_TrimPrefix.f a0 a1).bind fun t155 => (some t155)
set_option maxHeartbeats 8000000 in
set_option maxRecDepth 100000 in
theorem strings_TrimPrefix.calls (a0 : ByteArray) (a1 : ByteArray) (r : ByteArray) (w : World) (h : strings_TrimPrefix.f a0 a1 = some r) :
    Calls Tryd.prog 31 #[.string a0, .string a1] w fun e w' => e = .returned (.string r) ∧ Drawn0 w w' := by
  have H : ((stringslite_TrimPrefix.f a0 a1).bind fun t155 => (some t155)) = some r := h
  clear h
  replace H := Option.bind_eq_some_iff.mp H
  obtain ⟨t155, A30, H⟩ := H
  replace H : (some t155) = some r := H
  have A3 := Aside0.mk A30
  clear A30
  obtain rfl := Option.some.inj H
  go_enter Tryd.func31, Tryd.ntmps31
  go_wp2_with (first | ((with_reducible refine gate_callee (f := 42) rfl ?_); refine goesL_ (some 7) rfl rfl Tryd.func42 (by kernel_rfl) rfl #[.string a0, .string a1] rfl (by (try simp only [List.map_toArray, List.map_cons, List.map_nil]); first | done | rfl | (simp only [List.length_drop, List.length_take]; rfl)) ?_; (with_reducible refine (stringslite_TrimPrefix.calls a0 a1 t155 _ A3.out).mono ?_); rintro e w' ⟨rfl, ⟨nd, rfl⟩⟩; refine ⟨_, rfl, ?_⟩))
  go_ret
  exact ⟨by first | rfl | (simp; done) | (simp [*]; done), by repeat (first | exact Drawn0.refl _ | apply Drawn0.step)⟩

-- NOT PRINTED: function 44 (strconv_ParseUint_44)

-- NOT PRINTED: function 43 (strconv_ParseInt_43)

-- NOT PRINTED: function 32 (strconv_ParseInt_32)

-- NOT PRINTED: function 33 (strconv_ParseUint_33)

-- NOT PRINTED: function 21 (token_toNumber)

-- NOT PRINTED: function 15 (token_ToNumber)

-- NOT PRINTED: function 7 (impl_ToNumber)

-- NOT PRINTED: function 9 (laws_nbTold)

-- NOT PRINTED: function 14 (laws_nbLives)

-- NOT PRINTED: function 6 (laws_FnHeaderNone)

end Go.Proofs.YtlkbhmmelejmjaaDoor.NumKnown

/- Numbers: prefixes, the place of a text and its replacement, as plain functions on lists; the count of a text in another. -/
namespace Go.Proofs.YtlkbhmmelejmjaaDoor.NumPure
open Go.RowKit Go.Proofs.YtlkbhmmelejmjaaDoorW.PrintWords Go.Proofs.YtlkbhmmelejmjaaDoor.NumKnown
set_option linter.unusedVariables false
set_option linter.unusedSimpArgs false

def hp (s p : ByteArray) : Bool := Lib.hasPrefix s.data.toList p.data.toList
def tp (s p : ByteArray) : ByteArray := if hp s p = true then s.extract p.size s.size else s

theorem sl_HP_f (s p : ByteArray) : stringslite_HasPrefix.f s p = some (hp s p) := by
  have h := Lib.hasPrefix_raw s p
  unfold stringslite_HasPrefix.f hp
  rw [← h]
  by_cases hc : p.size ≤ s.size
  · rw [if_pos (by omega), if_pos (by omega), if_pos (by omega), decide_eq_true hc, Bool.true_and, Int.toNat_natCast]
  · rw [if_neg (by omega), decide_eq_false hc, Bool.false_and]
theorem HP_f (s p : ByteArray) : strings_HasPrefix.f s p = some (hp s p) := by
  unfold strings_HasPrefix.f; rw [sl_HP_f]; rfl
theorem hp_size {s p : ByteArray} (h : hp s p = true) : p.size ≤ s.size := by
  unfold hp at h
  rw [← Lib.hasPrefix_raw, Bool.and_eq_true] at h
  exact of_decide_eq_true h.1
theorem TP_f (s p : ByteArray) : strings_TrimPrefix.f s p = some (tp s p) := by
  have e : stringslite_TrimPrefix.f s p = some (tp s p) := by
    unfold stringslite_TrimPrefix.f tp
    rw [sl_HP_f]
    simp only [Option.bind_some]
    by_cases h : hp s p = true
    · have := hp_size h
      rw [if_pos h, if_pos h, if_pos (by omega), if_pos (by omega), Int.toNat_natCast]
    · rw [if_neg h, if_neg h]
  unfold strings_TrimPrefix.f
  rw [e]; rfl

theorem piece_mem {s p : ByteArray} {i : Nat} {b : UInt8} (hb : p.data.toList.head? = some b) (h : (s.extract i (i + p.size)).toList = p.toList) : b ∈ s.data.toList := by
  rw [Lib.extract_toList, Lib.toList_data] at h
  have : b ∈ p.data.toList := List.mem_of_mem_head? hb
  rw [← h] at this
  exact List.mem_of_mem_drop (List.mem_of_mem_take this)

theorem idx_none {s p : ByteArray} {b : UInt8} (hb : p.data.toList.head? = some b) (hn : b ∉ s.data.toList) (hs : s.size ≤ 2305843009213693952) (hp : p.size ≤ 2305843009213693952) (h1 : 0 < p.size) (d : Nat) : ∀ (k i : Nat), s.size + 1 - i ≤ d → i ≤ s.size → d < k → token_zzIndex.l0 k s p (i : Int) = some (-1) := by
  induction d with
  | zero => intro k i h2 h3 h4; omega
  | succ d ih =>
    intro k i h2 h3 h4
    obtain ⟨k, rfl⟩ : ∃ m, k = m + 1 := ⟨k - 1, by omega⟩
    have hw : wrap64 ((i : Int) + (p.size : Int)) = ((i + p.size : Nat) : Int) := by unfold wrap64; omega
    have hw1 : wrap64 ((i : Int) + 1) = ((i + 1 : Nat) : Int) := by unfold wrap64; omega
    simp only [token_zzIndex.l0, hw, hw1]
    by_cases hle : i + p.size ≤ s.size
    · rw [if_pos (by omega), if_pos (by omega), if_pos (by omega), if_neg ?_]
      · exact ih k (i + 1) (by omega) (by omega) (by omega)
      · intro h
        rw [Int.toNat_natCast, Int.toNat_natCast] at h
        exact hn (piece_mem hb h)
    · rw [if_neg (by omega)]
theorem idx_none_f {s p : ByteArray} {b : UInt8} (hb : p.data.toList.head? = some b) (hn : b ∉ s.data.toList) (hs : s.size ≤ 2305843009213693952) (hp : p.size ≤ 2305843009213693952) (h1 : 0 < p.size) (k : Nat) (hk : s.size + 1 < k) : token_zzIndex.f k s p = some (-1) :=
  idx_none hb hn hs hp h1 (s.size + 1) k 0 (by omega) (by omega) hk

theorem strOfNums_bytes (s : ByteArray) : strOfNums (bytesOf s) = s := by
  have e : (bytesOf s).map (fun z => UInt8.ofNat z.toNat) = s.data.toList := by
    unfold bytesOf
    rw [List.map_map]
    conv => rhs; rw [← List.map_id s.data.toList]
    refine List.map_congr_left fun b _ => ?_
    simp
  unfold strOfNums
  first
    | (rw [e])
    | (show (⟨⟨_⟩⟩ : ByteArray) = s; simp [e])

/-- Nothing to replace. -/
theorem rep_none {s : ByteArray} {p q : ByteArray} {b : UInt8} (hb : p.data.toList.head? = some b) (hn : b ∉ s.data.toList) (hs : s.size ≤ 140737488355327) (hp : p.size ≤ 2305843009213693952) (h1 : 0 < p.size) (k : Nat) (hk : s.size + 2 < k) : token_zzReplaceAll.f k s p q = some s := by
  obtain ⟨k, rfl⟩ : ∃ m, k = m + 1 := ⟨k - 1, by omega⟩
  simp only [token_zzReplaceAll.f, token_zzReplaceAll.l0]
  rw [idx_none_f hb hn (by omega) hp h1 k (by omega)]
  simp only [Option.bind_some]
  rw [if_pos (by omega), if_pos (by simp; omega), List.nil_append, strOfNums_bytes]

theorem piece_one (s : ByteArray) (i : Nat) (h : i < s.size) : (s.extract i (i + 1)).toList = [s[i]] := by
  rw [Lib.extract_toList, show i + 1 - i = 1 by omega]
  have hl : i < s.data.toList.length := by rw [← Lib.size_eq]; exact h
  rw [List.drop_eq_getElem_cons hl]
  rfl
theorem count_take (L : List UInt8) (b : UInt8) (i : Nat) (h : i < L.length) : (L.take (i + 1)).count b = (L.take i).count b + (if L[i] == b then 1 else 0) := by
  rw [List.take_succ_eq_append_getElem h, List.count_append, List.count_singleton]

/-- How often a byte stands in a text. -/
def cnt (b : UInt8) (s : ByteArray) : Nat := s.data.toList.count b
def Cnt (n : Int) (w : World) (e : Ending) (w' : World) : Prop := e = .returned (.int .i64 n) ∧ w = w'

set_option maxRecDepth 100000 in
/-- The count of a byte. -/
theorem count_one (s : ByteArray) (b : UInt8) (hs : s.size ≤ 2305843009213693952) (w : World) : Calls Tryd.prog 29 #[.string s, .string ⟨#[b]⟩] w (Cnt (cnt b s : Int) w) := by
  have hL : s.data.toList.length = s.size := (Lib.size_eq s).symm
  go_enter Tryd.func29, Tryd.ntmps29
  go_wp2_with fail
  go_loop [5, 6] (fun vn vi => ∃ i n : Nat, i ≤ s.size ∧ vi = .int .i64 i ∧ vn = .int .i64 n ∧ n ≤ i ∧ n = (s.data.toList.take i).count b) (fun _ vi => s.size - (intOf vi).toNat)
  case atStart => exact ⟨0, 0, Nat.zero_le _, rfl, rfl, Nat.le_refl _, rfl⟩
  case round =>
    obtain ⟨i, n, hi, rfl, rfl, hni, hn⟩ := hrel
    have HN := Aside0.mk hn
    clear hn
    by_cases hlt : i < s.size
    · have hp1 := piece_one s i hlt
      have hct := count_take s.data.toList b i (by rw [hL]; exact hlt)
      have hge : s.data.toList[i]'(by rw [hL]; exact hlt) = s[i] := rfl
      rw [hge] at hct
      by_cases hb : s[i] = b
      · rw [hb] at hct hp1
        rw [if_pos (by simp)] at hct
        have HC := Aside0.mk hct
        have hq : ((s.extract i (i + 1)).toList == [b]) = true := by rw [hp1]; simp
        clear hct hp1 hge hb
        go_wp2_with fail
        go_round
        case rel => exact ⟨i + 1, n + 1, by omega, by go_num, by go_num, by omega, by rw [HC.out, HN.out]⟩
        case measure => simp [intOf]; omega
      · rw [if_neg (by simpa using hb)] at hct
        have HC := Aside0.mk hct
        have hq : ((s.extract i (i + 1)).toList == [b]) = false := by rw [hp1]; simpa using hb
        clear hct hp1 hge hb
        go_wp2_with fail
        go_round
        case rel => exact ⟨i + 1, n, by omega, by go_num, rfl, by omega, by rw [HC.out, HN.out]; rfl⟩
        case measure => simp [intOf]; omega
    · obtain rfl : i = s.size := by omega
      go_wp2_with fail
      go_ret
      have hn := HN.out
      rw [List.take_of_length_le (by rw [hL]; exact Nat.le_refl _)] at hn
      exact ⟨by unfold cnt; rw [← hn]; rfl, rfl⟩

set_option maxRecDepth 100000 in
/-- Two bytes of which the first does not occur. -/
theorem count_two (s : ByteArray) (b c : UInt8) (hn : b ∉ s.data.toList) (hs : s.size ≤ 2305843009213693952) (w : World) : Calls Tryd.prog 29 #[.string s, .string ⟨#[b, c]⟩] w (Cnt 0 w) := by
  have HN := Aside0.mk hn
  clear hn
  go_enter Tryd.func29, Tryd.ntmps29
  go_wp2_with fail
  go_loop [5, 6] (fun vn vi => ∃ i : Nat, i ≤ s.size ∧ vi = .int .i64 i ∧ vn = .int .i64 0) (fun _ vi => s.size - (intOf vi).toNat)
  case atStart => exact ⟨0, Nat.zero_le _, rfl, rfl⟩
  case round =>
    obtain ⟨i, hi, rfl, rfl⟩ := hrel
    by_cases hlt : i + 2 ≤ s.size
    · have hq : ((s.extract i (i + 2)).toList == [b, c]) = false := by
        rw [beq_eq_false_iff_ne]
        intro h
        exact HN.out (piece_mem (p := ⟨#[b, c]⟩) (i := i) (b := b) rfl (by rw [Lib.toList_data ⟨#[b, c]⟩]; exact h))
      go_wp2_with fail
      go_round
      case rel => exact ⟨i + 1, by omega, by go_num, rfl⟩
      case measure => simp [intOf]; omega
    · go_wp2_with fail
      go_ret
      exact ⟨rfl, rfl⟩
end Go.Proofs.YtlkbhmmelejmjaaDoor.NumPure

/- The decimal of the slow road: its memory; trim. -/
namespace Go.Proofs.YtlkbhmmelejmjaaDoor.FltDec
open Go.RowKit Go.Proofs.YtlkbhmmelejmjaaDoorW.PrintWords Go.Proofs.YtlkbhmmelejmjaaDoor.NumKnown Go.Proofs.YtlkbhmmelejmjaaDoor.NumPure
set_option linter.unusedVariables false
set_option linter.unusedSimpArgs false

/-- A decimal at block p: digits, their number, the point, the sign, and whether digits were lost. -/
structure Dec (w : World) (p : Nat) (f : Nat → Int) (nd dp : Int) (ng tr : Bool) : Prop where
  nd : w.cell? ⟨p, 800, none⟩ = some (.int .i64 nd)
  dp : w.cell? ⟨p, 801, none⟩ = some (.int .i64 dp)
  ng : w.cell? ⟨p, 802, none⟩ = some (.bool ng)
  tr : w.cell? ⟨p, 803, none⟩ = some (.bool tr)
  dig : ∀ i, i < 800 → w.cell? ⟨p, i, none⟩ = some (.int .u8 (f i))
  fz : ∀ o, w.frozen? ⟨p, o, none⟩ = false

section
variable {w : World} {p : Nat} {f : Nat → Int} {nd dp : Int} {ng tr : Bool}
theorem Dec.same (h : Dec w p f nd dp ng tr) {o : Nat} {u : Value} (hu : w.cell? ⟨p, o, none⟩ = some u) (v : Value) : (w.setCell ⟨p, o, none⟩ v).cell? ⟨p, o, none⟩ = some v := World.cell?_setCell_same _ _ _ hu
theorem other (w : World) {p o q : Nat} (h : o ≠ q) (v : Value) : (w.setCell ⟨p, o, none⟩ v).cell? ⟨p, q, none⟩ = w.cell? ⟨p, q, none⟩ := World.cell?_setCell_other _ _ _ _ (by simpa only [ne_eq, Addr.mk.injEq, true_and, and_true] using h)
theorem Dec.drewN (h : Dec w p f nd dp ng tr) (n : Nat) : Dec (w.drewN n) p f nd dp ng tr := ⟨h.nd, h.dp, h.ng, h.tr, h.dig, h.fz⟩
theorem Dec.drew (h : Dec w p f nd dp ng tr) : Dec w.drew p f nd dp ng tr := ⟨h.nd, h.dp, h.ng, h.tr, h.dig, h.fz⟩
theorem Dec.setNd (h : Dec w p f nd dp ng tr) (x : Int) : Dec (w.setCell ⟨p, 800, none⟩ (.int .i64 x)) p f x dp ng tr :=
  ⟨h.same h.nd _, (other w (by omega) _).trans h.dp, (other w (by omega) _).trans h.ng, (other w (by omega) _).trans h.tr, fun i hi => (other w (by omega) _).trans (h.dig i hi), fun o => by rw [World.frozen?_setCell]; exact h.fz o⟩
theorem Dec.setDp (h : Dec w p f nd dp ng tr) (x : Int) : Dec (w.setCell ⟨p, 801, none⟩ (.int .i64 x)) p f nd x ng tr :=
  ⟨(other w (by omega) _).trans h.nd, h.same h.dp _, (other w (by omega) _).trans h.ng, (other w (by omega) _).trans h.tr, fun i hi => (other w (by omega) _).trans (h.dig i hi), fun o => by rw [World.frozen?_setCell]; exact h.fz o⟩
theorem Dec.setNg (h : Dec w p f nd dp ng tr) (x : Bool) : Dec (w.setCell ⟨p, 802, none⟩ (.bool x)) p f nd dp x tr :=
  ⟨(other w (by omega) _).trans h.nd, (other w (by omega) _).trans h.dp, h.same h.ng _, (other w (by omega) _).trans h.tr, fun i hi => (other w (by omega) _).trans (h.dig i hi), fun o => by rw [World.frozen?_setCell]; exact h.fz o⟩
theorem Dec.setTr (h : Dec w p f nd dp ng tr) (x : Bool) : Dec (w.setCell ⟨p, 803, none⟩ (.bool x)) p f nd dp ng x :=
  ⟨(other w (by omega) _).trans h.nd, (other w (by omega) _).trans h.dp, (other w (by omega) _).trans h.ng, h.same h.tr _, fun i hi => (other w (by omega) _).trans (h.dig i hi), fun o => by rw [World.frozen?_setCell]; exact h.fz o⟩
theorem _root_.Go.Below.drewN {B : Nat} {a w : World} (h : Below B a w) (n : Nat) : Below B a (w.drewN n) := ⟨h.os, h.tape, h.output, h.size, h.block⟩
def upd (f : Nat → Int) (i : Nat) (v : Int) : Nat → Int := fun j => if j = i then v else f j
theorem Dec.setD (h : Dec w p f nd dp ng tr) (i : Nat) (hi : i < 800) (x : Int) : Dec (w.setCell ⟨p, i, none⟩ (.int .u8 x)) p (upd f i x) nd dp ng tr :=
  ⟨(other w (by omega) _).trans h.nd, (other w (by omega) _).trans h.dp, (other w (by omega) _).trans h.ng, (other w (by omega) _).trans h.tr, fun j hj => by
    unfold upd
    by_cases e : j = i
    · rw [if_pos e, e]; exact h.same (h.dig i hi) _
    · rw [if_neg e]; exact (other w (fun q => e q.symm) _).trans (h.dig j hj), fun o => by rw [World.frozen?_setCell]; exact h.fz o⟩
theorem Dec.of_below {w' : World} (h : Dec w p f nd dp ng tr) {B : Nat} (hb : Below B w w') (hp : p < B) : Dec w' p f nd dp ng tr :=
  ⟨(hb.cell hp).trans h.nd, (hb.cell hp).trans h.dp, (hb.cell hp).trans h.ng, (hb.cell hp).trans h.tr, fun i hi => (hb.cell hp).trans (h.dig i hi), fun o => (hb.frozen hp).trans (h.fz o)⟩
theorem Dec.nd_eq (h : Dec w p f nd dp ng tr) {nd' dp' : Int} {g : Nat → Int} {ng' tr' : Bool} (k : Dec w p g nd' dp' ng' tr') : nd = nd' := by
  have := h.nd.symm.trans k.nd
  injection this with e; injection e
end

def cut (f : Nat → Int) : Nat → Nat
  | 0 => 0
  | n + 1 => if f n = 48 then cut f n else n + 1
def trimDp (c : Nat) (dp : Int) : Int := if c = 0 then 0 else dp
def Trim (p : Nat) (f : Nat → Int) (n : Nat) (dp : Int) (ng tr : Bool) (w : World) (e : Ending) (w' : World) : Prop := e = .returned (.tuple #[]) ∧ Dec w' p f (cut f n : Nat) (trimDp (cut f n) dp) ng tr ∧ Below p w w'
def ndOf (w : World) (p : Nat) : Nat := match w.cell? ⟨p, 800, none⟩ with | some v => (intOf v).toNat | none => 0
theorem ndOf_eq {w : World} {p : Nat} {f : Nat → Int} {nd dp : Int} {ng tr : Bool} (h : Dec w p f nd dp ng tr) : ndOf w p = nd.toNat := by
  unfold ndOf; rw [h.nd]; rfl

set_option maxHeartbeats 4000000 in
set_option maxRecDepth 100000 in
theorem trim_walk (p : Nat) (f : Nat → Int) (n : Nat) (dp : Int) (ng tr : Bool) (hn : n ≤ 800) (w : World) (h : Dec w p f n dp ng tr) : Calls Tryd.prog 90 #[.pointer (some ⟨p, 0, none⟩)] w (Trim p f n dp ng tr w) := by
  have H := Aside0.mk h
  clear h
  go_enter Tryd.func90, Tryd.ntmps90
  go_wp2_with fail
  go_loopw [] (fun wr => ∃ m : Nat, m ≤ n ∧ Aside0 (cut f m = cut f n) ∧ Aside0 (Dec wr p f m dp ng tr ∧ Below p w wr)) (fun wr => ndOf wr p)
  case atStart => exact ⟨n, Nat.le_refl _, ⟨rfl⟩, ⟨H.out, Below.refl _ _⟩⟩
  case round =>
    obtain ⟨m, hm, hcut, HD⟩ := hrel
    have hnd := HD.out.1.nd
    have hdp := HD.out.1.dp
    have hfz := HD.out.1.fz 800
    have hfz1 := HD.out.1.fz 801
    by_cases he : m = 0
    · subst he
      go_wp2_with fail
      go_quiet (fail)
      go_wp2_with fail
      go_end0
      refine ⟨rfl, ?_, (Below.drewN HD.out.2 nq).setCell (Nat.le_refl _) _⟩
      rw [← hcut.out]
      exact (HD.out.1.drewN nq).setDp 0
    · have hk := HD.out.1.dig (m - 1) (by omega)
      have hw1 : wrap64 ((m : Int) - 1) = ((m - 1 : Nat) : Int) := by unfold wrap64; omega
      have g1 : 0 < m := by omega
      have g2 : m - 1 < 800 := by omega
      by_cases hf : f (m - 1) = 48
      · rw [hf] at hk
        have HF := Aside0.mk hf
        go_wp2_with fail
        go_quiet (fail)
        go_wp2_with fail
        go_roundw
        case rel =>
          refine ⟨m - 1, by omega, ⟨?_⟩, ⟨?_, (Below.drewN HD.out.2 nq).setCell (Nat.le_refl _) _⟩⟩
          · rw [← hcut.out]
            obtain ⟨m, rfl⟩ : ∃ q, m = q + 1 := ⟨m - 1, by omega⟩
            conv => rhs; unfold cut
            rw [if_pos (by simpa using HF.out)]
            rfl
          · have := (HD.out.1.drewN nq).setNd ((m : Int) - 1)
            rwa [show ((m - 1 : Nat) : Int) = (m : Int) - 1 from by omega]
        case measure =>
          rw [ndOf_eq ((HD.out.1.drewN nq).setNd _), ndOf_eq HD.out.1]
          omega
      · have hf' : (f (m - 1) == 48) = false := beq_eq_false_iff_ne.mpr hf
        have HF := Aside0.mk hf
        clear hf
        go_wp2_with fail
        go_quiet (fail)
        go_wp2_with fail
        go_end0
        have hc : cut f m = m := by
          obtain ⟨m, rfl⟩ : ∃ q, m = q + 1 := ⟨m - 1, by omega⟩
          unfold cut
          rw [if_neg (by simpa using HF.out)]
        refine ⟨rfl, ?_, Below.drewN HD.out.2 nq⟩
        rw [← hcut.out, hc]
        unfold trimDp
        rw [if_neg he]
        exact HD.out.1.drewN nq
end Go.Proofs.YtlkbhmmelejmjaaDoor.FltDec

/- The decimal of the slow road: its digits as a number; what is plain. -/
namespace Go.Proofs.YtlkbhmmelejmjaaDoor.FltPure
open Go.RowKit Go.Proofs.YtlkbhmmelejmjaaDoorW.PrintWords Go.Proofs.YtlkbhmmelejmjaaDoor.NumKnown Go.Proofs.YtlkbhmmelejmjaaDoor.NumPure Go.Proofs.YtlkbhmmelejmjaaDoor.FltDec
set_option linter.unusedVariables false
set_option linter.unusedSimpArgs false

/-- A digit, and the number that the first n digits are. -/
def dv (F : Nat → Int) (i : Nat) : Nat := (F i - 48).toNat
def val (F : Nat → Int) : Nat → Nat
  | 0 => 0
  | n + 1 => 10 * val F n + dv F n
def good (F : Nat → Int) (n : Nat) : Prop := ∀ i, i < n → 48 ≤ F i ∧ F i ≤ 57
theorem good.mono {F : Nat → Int} {n m : Nat} (h : good F n) (hm : m ≤ n) : good F m := fun i hi => h i (by omega)
theorem good.dv {F : Nat → Int} {n i : Nat} (h : good F n) (hi : i < n) : dv F i ≤ 9 := by have := h i hi; unfold FltPure.dv; omega
theorem good.dv_eq {F : Nat → Int} {n i : Nat} (h : good F n) (hi : i < n) : F i = 48 + (FltPure.dv F i : Int) := by have := h i hi; unfold FltPure.dv; omega
theorem val_lt {F : Nat → Int} : ∀ {n : Nat}, good F n → val F n < 10 ^ n
  | 0, _ => by simp [val]
  | n + 1, h => by
    have h1 := val_lt (h.mono (Nat.le_succ n))
    have h2 := h.dv (Nat.lt_succ_self n)
    rw [Nat.pow_succ]
    simp only [val]
    omega
theorem val_digit {F : Nat → Int} : ∀ {n : Nat}, good F n → ∀ t, t < n → val F n / 10 ^ t % 10 = dv F (n - 1 - t)
  | 0, _, t, ht => absurd ht (by omega)
  | n + 1, h, 0, ht => by
    have h2 := h.dv (Nat.lt_succ_self n)
    simp only [val, Nat.pow_zero, Nat.div_one, Nat.add_sub_cancel, Nat.sub_zero]
    omega
  | n + 1, h, t + 1, ht => by
    have h2 := h.dv (Nat.lt_succ_self n)
    have ih := val_digit (h.mono (Nat.le_succ n)) t (by omega)
    have e1 : val F (n + 1) / 10 ^ (t + 1) = val F n / 10 ^ t := by
      rw [Nat.pow_succ, Nat.mul_comm (10 ^ t) 10, ← Nat.div_div_eq_div_mul]
      congr 1
      simp only [val]
      omega
    rw [e1, ih]
    congr 1
    omega

/-- The carry of the walk to the left, behind t digits. -/
def carry (M k t : Nat) : Nat := M % 10 ^ t * 2 ^ k / 10 ^ t
theorem carry_zero (M k : Nat) : carry M k 0 = 0 := by simp [carry, Nat.mod_one]
theorem mod_succ (M t : Nat) : M % 10 ^ (t + 1) = M % 10 ^ t + 10 ^ t * (M / 10 ^ t % 10) := by
  rw [Nat.pow_succ]
  exact Nat.mod_mul
theorem carry_succ (M k t : Nat) : carry M k (t + 1) = (carry M k t + (M / 10 ^ t % 10) * 2 ^ k) / 10 := by
  unfold carry
  rw [mod_succ, Nat.add_mul, Nat.pow_succ, ← Nat.div_div_eq_div_mul]
  congr 1
  rw [Nat.mul_assoc, Nat.add_mul_div_left _ _ (Nat.pow_pos (by omega))]
theorem carry_digit (M k t : Nat) : (carry M k t + (M / 10 ^ t % 10) * 2 ^ k) % 10 = M * 2 ^ k / 10 ^ t % 10 := by
  have e : M = M % 10 ^ t + 10 ^ t * (M / 10 ^ t) := (Nat.mod_add_div M (10 ^ t)).symm
  have e2 : M * 2 ^ k / 10 ^ t = carry M k t + (M / 10 ^ t) * 2 ^ k := by
    conv => lhs; rw [e, Nat.add_mul, Nat.mul_assoc, Nat.add_mul_div_left _ _ (Nat.pow_pos (by omega))]
    rfl
  rw [e2]
  have e3 : M / 10 ^ t = M / 10 ^ t % 10 + 10 * (M / 10 ^ t / 10) := (Nat.mod_add_div _ _).symm
  generalize hq : M / 10 ^ t / 10 = q at e3
  generalize hr : M / 10 ^ t % 10 = r at e3 ⊢
  rw [e3, Nat.add_mul, Nat.mul_assoc, ← Nat.add_assoc, Nat.add_mul_mod_self_left]
theorem carry_end {M k n : Nat} (h : M < 10 ^ n) : carry M k n = M * 2 ^ k / 10 ^ n := by
  unfold carry; rw [Nat.mod_eq_of_lt h]
theorem carry_lt (M k t : Nat) : carry M k t < 2 ^ k := by
  unfold carry
  rw [Nat.div_lt_iff_lt_mul (Nat.pow_pos (by omega)), Nat.mul_comm]
  exact Nat.mul_lt_mul_of_pos_left (Nat.mod_lt _ (Nat.pow_pos (by omega))) (Nat.pow_pos (by omega))

/-- The digits of a number of N digits, and whether one behind the first 800 is none of 0. -/
def dig (N X : Nat) (j : Nat) : Int := 48 + ((X / 10 ^ (N - 1 - j) % 10 : Nat) : Int)
def lost (N X : Nat) : Nat → Bool
  | 0 => false
  | t + 1 => lost N X t || (decide (800 ≤ N - 1 - t) && decide (X / 10 ^ t % 10 ≠ 0))
theorem lost_succ (N X t : Nat) : lost N X (t + 1) = (lost N X t || (decide (800 ≤ N - 1 - t) && decide (X / 10 ^ t % 10 ≠ 0))) := rfl
theorem dig_good (N X n : Nat) : good (dig N X) n := fun i _ => by unfold dig; omega

theorem cut_le (F : Nat → Int) : ∀ n, cut F n ≤ n
  | 0 => Nat.le_refl _
  | n + 1 => by unfold cut; split; exact Nat.le_trans (cut_le F n) (Nat.le_succ n); exact Nat.le_refl _
theorem cut_congr {F G : Nat → Int} : ∀ {n : Nat}, (∀ i, i < n → F i = G i) → cut F n = cut G n
  | 0, _ => rfl
  | n + 1, h => by
    unfold cut
    rw [h n (by omega), cut_congr (n := n) (fun i hi => h i (by omega))]
theorem cut_pos {F : Nat → Int} (h0 : F 0 ≠ 48) : ∀ {n : Nat}, 0 < n → 0 < cut F n
  | n + 1, _ => by
    unfold cut
    split
    · cases n with
      | zero => contradiction
      | succ n => exact cut_pos h0 (by omega)
    · omega

/-- The number that the first r digits are, with zeros behind the last. -/
def pv (F : Nat → Int) (nd r : Nat) : Nat := if r ≤ nd then val F r else val F nd * 10 ^ (r - nd)
theorem pv_zero (F : Nat → Int) (nd : Nat) : pv F nd 0 = 0 := by simp [pv, val]
theorem pv_lt {F : Nat → Int} {nd r : Nat} (h : r < nd) : pv F nd (r + 1) = 10 * pv F nd r + dv F r := by
  unfold pv
  rw [if_pos (by omega), if_pos (by omega)]
  rfl
theorem pv_ge {F : Nat → Int} {nd r : Nat} (h : nd ≤ r) : pv F nd (r + 1) = 10 * pv F nd r := by
  unfold pv
  rw [if_neg (by omega)]
  by_cases e : r = nd
  · subst e
    rw [if_pos (Nat.le_refl _), show r + 1 - r = 1 from by omega]
    omega
  · rw [if_neg (by omega), show r + 1 - nd = (r - nd) + 1 from by omega, Nat.pow_succ]
    rw [← Nat.mul_assoc, Nat.mul_comm]
/-- What is left of it in the walk to the right, and the digit that is put down. -/
def rn (F : Nat → Int) (nd k r : Nat) : Nat := pv F nd r % (2 ^ k * 10)
def rdig (F : Nat → Int) (nd k r0 : Nat) (j : Nat) : Int := 48 + ((pv F nd (r0 + j) / 2 ^ k % 10 : Nat) : Int)
theorem rn_div (F : Nat → Int) (nd k r : Nat) : rn F nd k r / 2 ^ k = pv F nd r / 2 ^ k % 10 := Nat.mod_mul_right_div_self _ _ _
theorem rn_mod (F : Nat → Int) (nd k r : Nat) : rn F nd k r % 2 ^ k = pv F nd r % 2 ^ k := Nat.mod_mul_right_mod _ _ _
theorem rn_lt (F : Nat → Int) (nd k r : Nat) : rn F nd k r < 2 ^ k * 10 := Nat.mod_lt _ (Nat.mul_pos (Nat.pow_pos (by omega)) (by omega))
theorem rn_step (P A c : Nat) (hA : 0 < A) (hc : c ≤ 9) : (10 * P + c) % (A * 10) = P % A * 10 + c := by
  have e : P = A * (P / A) + P % A := (Nat.div_add_mod P A).symm
  have hlt := Nat.mod_lt P hA
  have e2 : 10 * P + c = (P % A * 10 + c) + (A * 10) * (P / A) := by
    conv => lhs; rw [e]
    rw [Nat.mul_add, ← Nat.mul_assoc, Nat.mul_comm 10 A]
    omega
  rw [e2, Nat.add_mul_mod_self_left, Nat.mod_eq_of_lt (by omega)]
theorem rn_succ_lt {F : Nat → Int} {nd k r : Nat} (hg : good F nd) (h : r < nd) : rn F nd k (r + 1) = rn F nd k r % 2 ^ k * 10 + dv F r := by
  rw [rn_mod]
  unfold rn
  rw [pv_lt h, rn_step _ _ _ (Nat.pow_pos (by omega)) (hg.dv h)]
theorem rn_succ_ge {F : Nat → Int} {nd k r : Nat} (h : nd ≤ r) : rn F nd k (r + 1) = rn F nd k r % 2 ^ k * 10 := by
  rw [rn_mod]
  unfold rn
  rw [pv_ge h]
  exact rn_step _ _ 0 (Nat.pow_pos (by omega)) (by omega)
def lostR (F : Nat → Int) (nd k r0 : Nat) : Nat → Bool
  | 0 => false
  | j + 1 => lostR F nd k r0 j || (decide (800 ≤ j) && decide (rn F nd k (r0 + j) / 2 ^ k ≠ 0))
theorem lostR_succ (F : Nat → Int) (nd k r0 j : Nat) : lostR F nd k r0 (j + 1) = (lostR F nd k r0 j || (decide (800 ≤ j) && decide (rn F nd k (r0 + j) / 2 ^ k ≠ 0))) := rfl
theorem lostR_low (F : Nat → Int) (nd k r0 : Nat) : ∀ j, j ≤ 800 → lostR F nd k r0 j = false
  | 0, _ => rfl
  | j + 1, h => by rw [lostR_succ, lostR_low F nd k r0 j (by omega), show decide (800 ≤ j) = false from decide_eq_false (by omega)]; rfl

/-- A decimal whose first digits are F's. -/
def DE (w : World) (p : Nat) (F : Nat → Int) (n : Nat) (dp : Int) (ng tr : Bool) : Prop := ∃ g, Dec w p g n dp ng tr ∧ ∀ j, j < n → g j = F j
end Go.Proofs.YtlkbhmmelejmjaaDoor.FltPure

/- The decimal of the slow road: the shift to the left. -/
namespace Go.Proofs.YtlkbhmmelejmjaaDoor.FltLeft
open Go.RowKit Go.Proofs.YtlkbhmmelejmjaaDoorW.PrintWords Go.Proofs.YtlkbhmmelejmjaaDoor.NumKnown Go.Proofs.YtlkbhmmelejmjaaDoor.NumPure Go.Proofs.YtlkbhmmelejmjaaDoor.FltDec Go.Proofs.YtlkbhmmelejmjaaDoor.FltPure
set_option linter.unusedVariables false
set_option linter.unusedSimpArgs false

/-- Whether the first n digits stand before a text, from place i on. -/
def pl (F : Nat → Int) (n : Nat) : Nat → List UInt8 → Bool
  | _, [] => false
  | i, c :: r => if n ≤ i then true else if F i = (c.toNat : Int) then pl F n (i + 1) r else decide (F i < (c.toNat : Int))

theorem drewN_add (w : World) (a b : Nat) : (w.drewN a).drewN b = w.drewN (a + b) := by simp [World.drewN, Nat.add_assoc]
theorem pl_cons (F : Nat → Int) (n i : Nat) (c : UInt8) (r : List UInt8) : pl F n i (c :: r) = if n ≤ i then true else if F i = (c.toNat : Int) then pl F n (i + 1) r else decide (F i < (c.toNat : Int)) := rfl
def Bd (b : Bool) (w : World) (e : Ending) (w' : World) : Prop := e = .returned (.bool b) ∧ ∃ n, w' = w.drewN n

theorem drop_cons {l : List UInt8} {i : Nat} (h : i < l.length) : l.drop i = l[i] :: l.drop (i + 1) := List.drop_eq_getElem_cons h

set_option maxHeartbeats 4000000 in
set_option maxRecDepth 100000 in
theorem pl_walk (p : Nat) (F : Nat → Int) (n c : Nat) (s : ByteArray) (hn : n ≤ 800) (hs : s.size ≤ 1000) (w : World) (h : ∀ i, i < n → w.cell? ⟨p, i, none⟩ = some (.int .u8 (F i))) : Calls Tryd.prog 89 #[.slice (some ⟨p, 0, none⟩) n c, .string s] w (Bd (pl F n 0 s.data.toList) w) := by
  have H := Aside0.mk h
  clear h
  have hL : s.data.toList.length = s.size := (Lib.size_eq s).symm
  go_enter Tryd.func89, Tryd.ntmps89
  go_wp2_with fail
  go_loopw [5] (fun vi wr => ∃ i : Nat, i ≤ s.size ∧ vi = .int .i64 i ∧ Aside0 (pl F n i (s.data.toList.drop i) = pl F n 0 s.data.toList) ∧ ∃ q, wr = w.drewN q) (fun vi _ => s.size - (intOf vi).toNat)
  case atStart => exact ⟨0, Nat.zero_le _, rfl, ⟨rfl⟩, 0, rfl⟩
  case round =>
    obtain ⟨i, hi, rfl, hp, q, rfl⟩ := hrel
    by_cases hlt : i < s.size
    · have hd := drop_cons (l := s.data.toList) (i := i) (by omega)
      rw [hd] at hp
      have hge : s.data.toList[i]'(by omega) = s[i] := rfl
      rw [hge] at hp
      clear hd hge
      by_cases hin : n ≤ i
      · go_wp2_with fail
        go_ret
        have := hp.out
        rw [pl_cons, if_pos hin] at this
        exact ⟨by rw [← this]; rfl, q, rfl⟩
      · have hc := H.out i (by omega)
        have hin' : i < n := by omega
        by_cases he : F i = (s[i].toNat : Int)
        · have hq : (F i == (s[i].toNat : Int)) = true := by simpa using he
          have HE := Aside0.mk he
          rw [he] at hc
          clear he hq
          go_wp2_with fail
          go_quiet (fail)
          go_wp2_with fail
          go_roundw
          case rel =>
            have := hp.out
            rw [pl_cons, if_neg hin, if_pos HE.out] at this
            exact ⟨i + 1, by omega, by go_num, ⟨this⟩, _, by first | rfl | (simp only [drewN_add]; rfl)⟩
          case measure => simp [intOf]; omega
        · have hq : (F i == (s[i].toNat : Int)) = false := beq_eq_false_iff_ne.mpr he
          have HE := Aside0.mk he
          clear he
          go_wp2_with fail
          go_quiet (fail)
          go_wp2_with fail
          go_quiet (fail)
          go_wp2_with fail
          go_ret
          have := hp.out
          rw [pl_cons, if_neg hin, if_neg HE.out] at this
          exact ⟨by rw [← this]; rfl, _, by simp only [drewN_add]; rfl⟩
    · obtain rfl : i = s.size := by omega
      go_wp2_with fail
      go_ret
      have := hp.out
      rw [List.drop_eq_nil_of_le (by omega)] at this
      exact ⟨by rw [← this]; rfl, q, rfl⟩

/-- The table of the shifts to the left. -/
structure LTab (w : World) (D : Nat → Nat) (T : Nat → ByteArray) : Prop where
  row : ∃ L o c, w.cell? ⟨9, 0, none⟩ = some (.slice (some ⟨L, o, none⟩) 61 c) ∧ ∀ k, k < 61 → w.cell? ⟨L, o + k * 2, none⟩ = some (.int .i64 (D k)) ∧ w.cell? ⟨L, o + k * 2 + 1, none⟩ = some (.string (T k))

theorem slice94 (p n : Nat) (hn : n ≤ 800) (W : World) : (Instr.sliceAt 94 (.pointer (some ⟨p, 0, none⟩)) (some (.int .i64 0)) (some (.int .i64 (n : Int))) none).run Tryd.prog W = .ok (.slice (some ⟨p, 0, none⟩) n 800) W := by
  have ga : Tryd.prog.arrayLen 94 = 800 := by kernel_rfl
  rw [run_sliceAt_array_lh W 94 ⟨p, 0, none⟩ (by kernel_rfl) .i64 .i64 0 (n : Int) (by omega) (by omega) (by rw [ga]; omega), ga]
  have hs : ∀ W, (sizeOf (Tryd.prog.elem 94)).run Tryd.prog W = .ok 1 W := fun W => by
    rw [show Tryd.prog.elem 94 = 5 from by kernel_rfl]
    simp [go_sem]
  rw [hs]
  simp [slicedAt, Result.andThen]
  rfl
def LeftP (p n e k : Nat) (F : Nat → Int) (dp : Int) (ng tr : Bool) (w : World) (r : Ending) (w' : World) : Prop :=
  r = .returned (.tuple #[]) ∧ ∃ g, Dec w' p g (cut (dig (n + e) (val F n * 2 ^ k)) (min (n + e) 800) : Nat) (trimDp (cut (dig (n + e) (val F n * 2 ^ k)) (min (n + e) 800)) (dp + e)) ng (tr || lost (n + e) (val F n * 2 ^ k) (n + e)) ∧ (∀ j, j < min (n + e) 800 → g j = dig (n + e) (val F n * 2 ^ k) j) ∧ Below p w w'

set_option maxHeartbeats 8000000 in
set_option maxRecDepth 100000 in
theorem left_walk (p n e k : Nat) (F : Nat → Int) (dp : Int) (ng tr : Bool) (D : Nat → Nat) (T : Nat → ByteArray) (hn : n ≤ 800) (hk : k ≤ 60) (he : e ≤ 20) (hdp0 : -1000000 ≤ dp) (hdp1 : dp ≤ 1000000) (hg : good F n) (hT : (T k).size ≤ 1000) (hD : D k = e + (if pl F n 0 (T k).data.toList then 1 else 0)) (hx0 : val F n * 2 ^ k < 10 ^ (n + e)) (hx1 : 10 ^ (n + e) ≤ 10 * (val F n * 2 ^ k)) (w : World) (h : Dec w p F n dp ng tr) (ht : LTab w D T) : Calls Tryd.prog 82 #[.pointer (some ⟨p, 0, none⟩), .int .u64 k] w (LeftP p n e k F dp ng tr w) := by
  obtain ⟨L, o, c, hs, hrow⟩ := ht.row
  have hr1 := (hrow k (by omega)).1
  have hr2 := (hrow k (by omega)).2
  clear hrow ht
  have H := Aside0.mk h
  have CP := Aside0.mk (fun (W : World) (hW : ∀ i, i < n → W.cell? ⟨p, i, none⟩ = some (.int .u8 (F i))) => pl_walk p F n 800 (T k) hn hT W hW)
  have hnd := h.nd
  have HX0 := Aside0.mk hx0
  have HX1 := Aside0.mk hx1
  have HD := Aside0.mk hD
  have HG := Aside0.mk hg
  clear h hx0 hx1 hD hg
  go_enter Tryd.func82, Tryd.ntmps82
  have g1 : k < 61 := by omega
  have hsl := slice94 p n hn
  go_upto_region 1 with (fail)
  go_quiet ((go_at_call 89; refine Calls.quiet_of (CP.out _ (fun i hi => ?_)); exact H.out.dig i (by omega)))
  go_upto_if 30 with (fail)
  go_cut [4] (fun v4 wc => v4 = .int .i64 (e : Int) ∧ ∃ q, wc = w.drewN q)
  case first =>
    have hD := HD.out
    cases hb : pl F n 0 (T k).data.toList with
    | true =>
      rw [hb, if_pos rfl] at hD
      go_wp2_with fail
      go_meet
      case rel => exact ⟨rfl, _, rfl⟩
    | false =>
      rw [hb] at hD
      have hD' : D k = e := by simpa using hD
      go_wp2_with fail
      go_meet
      case rel => exact ⟨by rw [hD'], _, rfl⟩
  case rest =>
    obtain ⟨rfl, q0, rfl⟩ := hcut
    clear hs hr1 hr2 hsl CP HD
    go_wp2_with fail
    go_loopw [5, 6, 7] (fun vr vw vc wr => ∃ t : Nat, t ≤ n ∧ vr = .int .i64 ((n : Int) - t - 1) ∧ vw = .int .i64 ((n + e - t : Nat) : Int) ∧ vc = .int .u64 (carry (val F n) k t : Nat) ∧ Aside0 (∃ g, Dec wr p g n dp ng (tr || lost (n + e) (val F n * 2 ^ k) t) ∧ (∀ j, j < n - t → g j = F j) ∧ (∀ j, n + e - t ≤ j → j < n + e → j < 800 → g j = dig (n + e) (val F n * 2 ^ k) j) ∧ Below p w wr)) (fun vr _ _ _ => (intOf vr + 1).toNat)
    case atStart =>
      refine ⟨0, Nat.zero_le _, by go_num, by go_num, by rw [carry_zero]; rfl, ⟨F, ?_, fun j _ => rfl, fun j h1 h2 _ => absurd h2 (by omega), Below.drewN (Below.refl _ _) _⟩⟩
      have : (tr || lost (n + e) (val F n * 2 ^ k) 0) = tr := by simp [lost]
      rw [this]
      exact H.out.drewN q0
    case round =>
      obtain ⟨t, ht, rfl, rfl, rfl, HL⟩ := hrel
      by_cases hlt : t < n
      · have e1 : (n : Int) - t - 1 = ((n - 1 - t : Nat) : Int) := by omega
        rw [e1]
        have hd0 := HG.out.dv (i := n - 1 - t) (by omega)
        have hcell : wr.cell? ⟨p, n - 1 - t, none⟩ = some (.int .u8 (48 + (dv F (n - 1 - t) : Int))) := by
          obtain ⟨g, h1, h2, h3, h4⟩ := HL.out
          rw [h1.dig _ (by omega), h2 _ (by omega), HG.out.dv_eq (by omega)]
        have hfz : ∀ o, wr.frozen? ⟨p, o, none⟩ = false := by
          obtain ⟨g, h1, h2, h3, h4⟩ := HL.out
          exact h1.fz
        have gi : n - 1 - t < 800 := by omega
        have hcl := carry_lt (val F n) k t
        have hsucc := carry_succ (val F n) k t
        have hdig := carry_digit (val F n) k t
        rw [val_digit HG.out t (by omega)] at hsucc hdig
        generalize dv F (n - 1 - t) = d at hcell hd0 hsucc hdig ⊢
        generalize carry (val F n) k t = cy at hcl hsucc hdig ⊢
        have hk2 : 2 ^ k ≤ 1152921504606846976 := Nat.le_trans (Nat.pow_le_pow_right (by omega) hk) (by decide)
        have hdk : d * 2 ^ k ≤ 9 * 2 ^ k := Nat.mul_le_mul_right _ hd0
        obtain ⟨u, hu⟩ : ∃ u : Nat, u = d * 2 ^ k := ⟨_, rfl⟩
        obtain ⟨s, hs⟩ : ∃ s : Nat, s = cy + u := ⟨_, rfl⟩
        obtain ⟨q, hq⟩ : ∃ q : Nat, q = s / 10 := ⟨_, rfl⟩
        obtain ⟨m, hm⟩ : ∃ m : Nat, m = 10 * q := ⟨_, rfl⟩
        obtain ⟨r, hr⟩ : ∃ r : Nat, r = s % 10 := ⟨_, rfl⟩
        obtain ⟨v, hv⟩ : ∃ v : Nat, v = 48 + r := ⟨_, rfl⟩
        obtain ⟨x, hx⟩ : ∃ x : Nat, x = n + e - t - 1 := ⟨_, rfl⟩
        have f1 : IntKind.u64.wrap ((48 + (d : Int) - 48) * 2 ^ k) = (u : Int) := by
          rw [show (48 + (d : Int) - 48) * 2 ^ k = ((d * 2 ^ k : Nat) : Int) from by rw [Int.natCast_mul, Int.natCast_pow]; congr 1; omega, ← hu, IntKind.wrap_u64]; omega
        have f2 : IntKind.u64.wrap ((cy : Int) + (u : Int)) = (s : Int) := by rw [IntKind.wrap_u64]; omega
        have f3 : IntKind.u64.wrap ((s : Int).tdiv 10) = (q : Int) := by
          rw [Int.tdiv_eq_ediv_of_nonneg (by omega), IntKind.wrap_u64]; omega
        have f3' : IntKind.u64.wrap ((s : Int) / 10) = (q : Int) := by rw [IntKind.wrap_u64]; omega
        have f4 : IntKind.u64.wrap (10 * (q : Int)) = (m : Int) := by rw [IntKind.wrap_u64]; omega
        have f5 : IntKind.u64.wrap ((s : Int) - (m : Int)) = (r : Int) := by rw [IntKind.wrap_u64]; omega
        have f6 : IntKind.u64.wrap ((r : Int) + 48) = (v : Int) := by rw [IntKind.wrap_u64]; omega
        have f7 : (v : Int) % 256 = (v : Int) := by omega
        have hw1 : ((n + e - t : Nat) : Int) - 1 = (x : Int) := by omega
        rw [← hu, ← hs, ← hq] at hsucc
        rw [← hu, ← hs, ← hr] at hdig
        have HS := Aside0.mk (show q = carry (val F n) k (t + 1) from hsucc.symm)
        have HR := Aside0.mk (show v = 48 + val F n * 2 ^ k / 10 ^ t % 10 by omega)
        have HR2 := Aside0.mk hdig
        have HXX := Aside0.mk hx
        have hxle : x + 1 + t = n + e := by omega
        have HH := Aside0.mk hxle
        have hr10 : r ≤ 9 := by omega
        clear hsucc hdig hv hr hm hq hs hu hdk hk2 hcl hx
        by_cases gw : x < 800
        · have hcx : ∃ z, wr.cell? ⟨p, x, none⟩ = some z := by
            obtain ⟨g, h1, h2, h3, h4⟩ := HL.out
            exact ⟨_, h1.dig x gw⟩
          obtain ⟨z, hcx⟩ := hcx
          go_wp2_with fail
          go_roundw
          case rel =>
            refine ⟨t + 1, by omega, by go_num, by go_num, by rw [HS.out], ?_⟩
            obtain ⟨g, h1, h2, h3, h4⟩ := HL.out
            refine ⟨upd g x v, ?_, ?_, ?_, h4.setCell (Nat.le_refl _) _⟩
            · have hl : lost (n + e) (val F n * 2 ^ k) (t + 1) = lost (n + e) (val F n * 2 ^ k) t := by
                rw [lost_succ, show decide (800 ≤ n + e - 1 - t) = false from decide_eq_false (by omega)]
                simp
              rw [hl]
              exact h1.setD x gw _
            · intro j hj
              unfold upd
              rw [if_neg (by omega)]
              exact h2 j (by omega)
            · intro j hj1 hj2 hj3
              unfold upd
              by_cases hjx : j = x
              · rw [if_pos hjx, HR.out]
                unfold dig
                rw [show n + e - 1 - j = t from by omega]
                rfl
              · rw [if_neg hjx]
                exact h3 j (by omega) hj2 hj3
          case measure => first | (simp [intOf]; done) | (simp [intOf]; omega)
        · have hc3 : ∃ z, wr.cell? ⟨p, 803, none⟩ = some z := by
            obtain ⟨g, h1, h2, h3, h4⟩ := HL.out
            exact ⟨_, h1.tr⟩
          obtain ⟨z, hc3⟩ := hc3
          by_cases hr0 : r = 0
          · subst hr0
            go_wp2_with fail
            go_roundw
            case rel =>
              refine ⟨t + 1, by omega, by go_num, by go_num, by rw [HS.out], ?_⟩
              obtain ⟨g, h1, h2, h3, h4⟩ := HL.out
              refine ⟨g, ?_, fun j hj => h2 j (by omega), fun j hj1 hj2 hj3 => h3 j (by omega) hj2 hj3, h4⟩
              have hl : lost (n + e) (val F n * 2 ^ k) (t + 1) = lost (n + e) (val F n * 2 ^ k) t := by
                rw [lost_succ, ← HR2.out]
                simp
              rw [hl]
              exact h1
            case measure => first | (simp [intOf]; done) | (simp [intOf]; omega)
          · have hrb : ((r : Int) != 0) = true := by simp; omega
            go_wp2_with fail
            go_roundw
            case rel =>
              refine ⟨t + 1, by omega, by go_num, by go_num, by rw [HS.out], ?_⟩
              obtain ⟨g, h1, h2, h3, h4⟩ := HL.out
              refine ⟨g, ?_, fun j hj => h2 j (by omega), fun j hj1 hj2 hj3 => h3 j (by omega) hj2 hj3, h4.setCell (Nat.le_refl _) _⟩
              have hl : (tr || lost (n + e) (val F n * 2 ^ k) (t + 1)) = true := by
                rw [lost_succ, ← HR2.out, show decide (800 ≤ n + e - 1 - t) = true from decide_eq_true (by omega), show decide (r ≠ 0) = true from decide_eq_true hr0]
                simp
              rw [hl]
              exact h1.setTr true
            case measure => first | (simp [intOf]; done) | (simp [intOf]; omega)
      · obtain rfl : t = n := by omega
        have e1 : (t : Int) - t - 1 = -1 := by omega
        rw [e1, carry_end (val_lt HG.out)]
        have e2 : t + e - t = e := by omega
        rw [e2]
        go_wp2_with fail
        go_loopw [6, 7] (fun vw vc wr => ∃ y : Nat, t ≤ y ∧ y ≤ t + e ∧ vw = .int .i64 ((t + e - y : Nat) : Int) ∧ vc = .int .u64 (val F t * 2 ^ k / 10 ^ y : Nat) ∧ Aside0 (∃ g, Dec wr p g t dp ng (tr || lost (t + e) (val F t * 2 ^ k) y) ∧ (∀ j, t + e - y ≤ j → j < t + e → j < 800 → g j = dig (t + e) (val F t * 2 ^ k) j) ∧ Below p w wr)) (fun _ vc _ => (intOf vc).toNat)
        case atStart =>
          obtain ⟨g, h1, h2, h3, h4⟩ := HL.out
          exact ⟨t, Nat.le_refl _, by omega, by rw [e2], rfl, ⟨g, h1, h3, h4⟩⟩
        case round =>
          clear HL e1 e2
          obtain ⟨y, hy0, hy1, rfl, rfl, HL⟩ := hrel
          have hk2 : 2 ^ k ≤ 1152921504606846976 := Nat.le_trans (Nat.pow_le_pow_right (by omega) hk) (by decide)
          have hs64 : val F t * 2 ^ k / 10 ^ y < 18446744073709551616 := by
            have h1 : val F t * 2 ^ k / 10 ^ y ≤ val F t * 2 ^ k / 10 ^ t := Nat.div_le_div_left (Nat.pow_le_pow_right (by omega) hy0) (Nat.pow_pos (by omega))
            have h2 : val F t * 2 ^ k / 10 ^ t < 2 ^ k := by
              rw [← carry_end (val_lt HG.out)]
              exact carry_lt _ _ _
            omega
          have hsu : val F t * 2 ^ k / 10 ^ (y + 1) = val F t * 2 ^ k / 10 ^ y / 10 := by rw [Nat.pow_succ, Nat.div_div_eq_div_mul]
          have hyb : val F t * 2 ^ k / 10 ^ y ≠ 0 → y < t + e := by
            intro hne
            rcases Nat.lt_or_ge y (t + e) with h | h
            · exact h
            · exact absurd (Nat.div_eq_of_lt (Nat.lt_of_lt_of_le HX0.out (Nat.pow_le_pow_right (by omega) h))) hne
          have hyz : val F t * 2 ^ k / 10 ^ y = 0 → y = t + e := by
            intro hz
            have h1 : val F t * 2 ^ k < 10 ^ y := by
              rcases Nat.lt_or_ge (val F t * 2 ^ k) (10 ^ y) with h | h
              · exact h
              · exact absurd hz (Nat.ne_of_gt (Nat.div_pos h (Nat.pow_pos (by omega))))
            have h2 := HX1.out
            have h3 : 10 ^ (t + e) < 10 ^ (y + 1) := by rw [Nat.pow_succ]; omega
            have h4 := (Nat.pow_lt_pow_iff_right (a := 10) (by omega)).1 h3
            omega
          obtain ⟨s, hs⟩ : ∃ s : Nat, s = val F t * 2 ^ k / 10 ^ y := ⟨_, rfl⟩
          rw [← hs] at hs64 hsu hyb hyz ⊢
          have HSV := Aside0.mk hs
          by_cases hs0 : s = 0
          · subst hs0
            obtain rfl := hyz rfl
            have hz : t + e - (t + e) = 0 := by omega
            rw [hz]
            have hnd' : wr.cell? ⟨p, 800, none⟩ = some (.int .i64 (t : Int)) := by
              obtain ⟨g, h1, h2, h3⟩ := HL.out
              exact h1.nd
            have hdp' : wr.cell? ⟨p, 801, none⟩ = some (.int .i64 dp) := by
              obtain ⟨g, h1, h2, h3⟩ := HL.out
              exact h1.dp
            have hfz : ∀ o, wr.frozen? ⟨p, o, none⟩ = false := by
              obtain ⟨g, h1, h2, h3⟩ := HL.out
              exact h1.fz
            have a1 : wrap64 ((t : Int) + (e : Int)) = ((t + e : Nat) : Int) := by unfold wrap64; omega
            have a2 : wrap64 (dp + (e : Int)) = dp + e := by unfold wrap64; omega
            clear hyz hyb hsu hs
            by_cases h8 : 800 ≤ t + e
            · go_wp2_with fail
              obtain ⟨g, h1, h2, h3⟩ := HL.out
              have h4 := ((h1.setNd ((t : Int) + e)).setNd 800).setDp (dp + e)
              refine (trim_walk p g 800 (dp + e) ng _ (by omega) _ h4).mono ?_
              rintro r w2 ⟨rfl, hD2, hB2⟩
              go_wp2_with fail
              go_end0
              have hg : ∀ j, j < 800 → g j = dig (t + e) (val F t * 2 ^ k) j := fun j hj => h2 j (by omega) (by omega) hj
              have hmin : min (t + e) 800 = 800 := by omega
              refine ⟨rfl, g, ?_, by rw [hmin]; exact hg, (((h3.setCell (Nat.le_refl _) _).setCell (Nat.le_refl _) _).setCell (Nat.le_refl _) _).trans hB2⟩
              rw [hmin, ← cut_congr hg]
              exact hD2
            · go_wp2_with fail
              obtain ⟨g, h1, h2, h3⟩ := HL.out
              have h4 := (h1.setNd ((t : Int) + e)).setDp (dp + e)
              refine (trim_walk p g (t + e) (dp + e) ng _ (by omega) _ h4).mono ?_
              rintro r w2 ⟨rfl, hD2, hB2⟩
              go_wp2_with fail
              go_end0
              have hg : ∀ j, j < t + e → g j = dig (t + e) (val F t * 2 ^ k) j := fun j hj => h2 j (by omega) (by omega) (by omega)
              have hmin : min (t + e) 800 = t + e := by omega
              refine ⟨rfl, g, ?_, by rw [hmin]; exact hg, ((h3.setCell (Nat.le_refl _) _).setCell (Nat.le_refl _) _).trans hB2⟩
              rw [hmin, ← cut_congr hg]
              exact hD2
          · have hy2 := hyb hs0
            obtain ⟨q, hq⟩ : ∃ q : Nat, q = s / 10 := ⟨_, rfl⟩
            obtain ⟨m, hm⟩ : ∃ m : Nat, m = 10 * q := ⟨_, rfl⟩
            obtain ⟨r, hr⟩ : ∃ r : Nat, r = s % 10 := ⟨_, rfl⟩
            obtain ⟨v, hv⟩ : ∃ v : Nat, v = 48 + r := ⟨_, rfl⟩
            obtain ⟨x, hx⟩ : ∃ x : Nat, x = t + e - y - 1 := ⟨_, rfl⟩
            have f3 : IntKind.u64.wrap ((s : Int) / 10) = (q : Int) := by rw [IntKind.wrap_u64]; omega
            have f3' : IntKind.u64.wrap ((s : Int).tdiv 10) = (q : Int) := by
              rw [Int.tdiv_eq_ediv_of_nonneg (by omega), IntKind.wrap_u64]; omega
            have f4 : IntKind.u64.wrap (10 * (q : Int)) = (m : Int) := by rw [IntKind.wrap_u64]; omega
            have f5 : IntKind.u64.wrap ((s : Int) - (m : Int)) = (r : Int) := by rw [IntKind.wrap_u64]; omega
            have f6 : IntKind.u64.wrap ((r : Int) + 48) = (v : Int) := by rw [IntKind.wrap_u64]; omega
            have f7 : (v : Int) % 256 = (v : Int) := by omega
            have hw1 : ((t + e - y : Nat) : Int) - 1 = (x : Int) := by omega
            rw [← hq] at hsu
            have HS := Aside0.mk hsu
            have HR2 := Aside0.mk (show val F t * 2 ^ k / 10 ^ y % 10 = r by omega)
            have HR := Aside0.mk hv
            have hqs : q < s := by omega
            have HQ := Aside0.mk hqs
            have hxle : x + 1 + y = t + e := by omega
            have hr10 : r ≤ 9 := by omega
            have gs : 0 < s := by omega
            have hfz : ∀ o, wr.frozen? ⟨p, o, none⟩ = false := by
              obtain ⟨g, h1, h2, h3⟩ := HL.out
              exact h1.fz
            clear hsu hv hr hm hq hs hx hyb hyz hqs
            have gw : x < 800 := by omega
            · have hcx : ∃ z, wr.cell? ⟨p, x, none⟩ = some z := by
                obtain ⟨g, h1, h2, h3⟩ := HL.out
                exact ⟨_, h1.dig x gw⟩
              obtain ⟨z, hcx⟩ := hcx
              go_wp2_with fail
              go_roundw
              case rel =>
                refine ⟨y + 1, by omega, by omega, by go_num, by rw [HS.out], ?_⟩
                obtain ⟨g, h1, h2, h3⟩ := HL.out
                refine ⟨upd g x v, ?_, ?_, h3.setCell (Nat.le_refl _) _⟩
                · have hl : lost (t + e) (val F t * 2 ^ k) (y + 1) = lost (t + e) (val F t * 2 ^ k) y := by
                    rw [lost_succ, show decide (800 ≤ t + e - 1 - y) = false from decide_eq_false (by omega)]
                    simp
                  rw [hl]
                  exact h1.setD x gw _
                · intro j hj1 hj2 hj3
                  unfold upd
                  by_cases hjx : j = x
                  · rw [if_pos hjx, HR.out]
                    unfold dig
                    rw [show t + e - 1 - j = y from by omega, HR2.out]
                    rfl
                  · rw [if_neg hjx]
                    exact h2 j (by omega) hj2 hj3
              case measure => have := HQ.out; first | (simp [intOf]; done) | (simp [intOf]; omega)
end Go.Proofs.YtlkbhmmelejmjaaDoor.FltLeft
