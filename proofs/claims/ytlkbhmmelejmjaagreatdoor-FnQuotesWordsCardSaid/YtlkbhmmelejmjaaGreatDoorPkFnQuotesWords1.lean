/- Parts of the proof of FnQuotesWords, one behind the other: Base0, NumKnown, NumPure, AsNum, QUtf, QEnc, FltDec, FltPure. Each part says ahead of itself what it proves. -/
import Derived.Test.YtlkbhmmelejmjaaGreatDoorProg
import Derived.Below
import Derived.Deep.Draws
import Derived.Deep.AppendLies
import Derived.Maps.AppendAt
import Derived.OwnWalk
import Derived.Laws.BytesArg
import Derived.Laws.MakeOwn
import Derived.Laws.OwnMore
import Derived.Deep.OwnRows
import Derived.Tactics
import Derived.Lib.ConvBytes
import Derived.Laws.Slices
import Derived.WalkKit
import Derived.KernelRfl
import Derived.RowKit3
import Derived.Deep.LoopGhost
import Derived.Deep.QuietTactic
import Derived.BigQuiet
import Derived.WideLaws
import Derived.Deep.DeepCutAuto
import Derived.Deep.CutBlock
import Derived.Deep.RegionHeld3
import Derived.Laws.Rows
import Derived.Lib.AppendStr
import Derived.ArgAppend
import Derived.Laws.IdiomCopy
import Derived.OrdersHeld
import Derived.Laws.BitsLemmas
import Derived.RowKit
import Derived.Test.YtlkbhmmelejmjaaGreatDoorWMore
import Derived.Lib.Strings
import Derived.Lib.IndexBytes
import Derived.Laws.Strings3
import Derived.WalkSpells
import Derived.Laws.RangeAny
import Derived.Lib.MapLaws
import Derived.Lib.ValidU
import Derived.Laws.IdiomStrings

/- The errors of one type as values, and the modules that the printed functions stand on. -/
namespace Go.Proofs.YtlkbhmmelejmjaaGreatDoor.Base0
open Go.RowKit
def errW : Option Int → Value
  | none => .nilIface
  | some c => .iface 119 (.int .i64 c)
theorem errW_none : errW none = .nilIface := rfl
theorem errW_some (c : Int) : errW (some c) = .iface 119 (.int .i64 c) := rfl
theorem info5 : (Tryz.prog.info? 5).map (fun i => (i.zero, i.size, i.bytes)) = some (some (.int .u8 0), 1, 1) := by kernel_rfl
end Go.Proofs.YtlkbhmmelejmjaaGreatDoor.Base0

/- functions as print.sh prints them, cut out of its texts. -/
namespace Go.Proofs.YtlkbhmmelejmjaaGreatDoor.NumKnown
open Go.RowKit Go.Proofs.YtlkbhmmelejmjaaGreatDoorW.PrintWords Go.Proofs.YtlkbhmmelejmjaaGreatDoorW.PrintLast Go.Proofs.YtlkbhmmelejmjaaGreatDoorW.PrintMore Go.Proofs.YtlkbhmmelejmjaaGreatDoor.Base0
attribute [local go_sem] max2_int min2_int max_two min_two max_three min_three max_four min_four   -- for this text's walks alone
set_option linter.unusedVariables false
set_option linter.unusedSimpArgs false

-- NOT PRINTED: function 126 (strconv_readFloat)

-- NOT PRINTED: function 129 (strconv_float32frombits)

-- NOT PRINTED: function 127 (strconv_atofHex)

/-! ### strconv_lower: function 123 -/
def strconv_lower.f (a0 : Int) : Option (Int) := some (Go.bits .or .u8 a0 32)
set_option maxHeartbeats 8000000 in
set_option maxRecDepth 100000 in
theorem strconv_lower.calls (a0 : Int) (r : Int) (w : World) (h : strconv_lower.f a0 = some r) :
    Calls Tryz.prog 123 #[.int .u8 a0] w fun e w' => e = .returned (.int .u8 r) ∧ Drawn0 w w' := by
  have H : (some (Go.bits .or .u8 a0 32)) = some r := h
  clear h
  obtain rfl := Option.some.inj H
  go_enter Tryz.func123, Tryz.ntmps123
  go_wp2
  go_ret
  exact ⟨by first | rfl | (simp; done) | (simp [*]; done), by repeat (first | exact Drawn0.refl _ | apply Drawn0.step)⟩

/-! ### stringslite_HasPrefix: function 111 -/
def stringslite_HasPrefix.f (a0 : ByteArray) (a1 : ByteArray) : Option (Bool) := if (a0.size : Int) ≥ (a1.size : Int) then (if 0 ≤ (a1.size : Int) then (if (a1.size : Int) ≤ (a0.size : Int) then (some ((a0.extract 0 ((a1.size : Int) : Int).toNat).toList == a1.toList)) else (none)) else (none)) else (some false)
set_option maxHeartbeats 8000000 in
set_option maxRecDepth 100000 in
theorem stringslite_HasPrefix.calls (a0 : ByteArray) (a1 : ByteArray) (r : Bool) (w : World) (h : stringslite_HasPrefix.f a0 a1 = some r) :
    Calls Tryz.prog 111 #[.string a0, .string a1] w fun e w' => e = .returned (.bool r) ∧ Drawn0 w w' := by
  have H : (if (a0.size : Int) ≥ (a1.size : Int) then (if 0 ≤ (a1.size : Int) then (if (a1.size : Int) ≤ (a0.size : Int) then (some ((a0.extract 0 ((a1.size : Int) : Int).toNat).toList == a1.toList)) else (none)) else (none)) else (some false)) = some r := h
  clear h
  by_cases c3 : (a0.size : Int) ≥ (a1.size : Int)
  · rw [if_pos c3] at H
    have c3b0 : decide ((a1.size : Int) ≤ (a0.size : Int)) = true := decide_eq_true c3
    have c3b1 : decide (a1.size ≤ a0.size) = true := decide_eq_true (Int.ofNat_le.mp c3)
    clear c3
    by_cases c4 : 0 ≤ (a1.size : Int)
    · rw [if_pos c4] at H
      have c4b0 := eq_true c4
      have c4b1 : decide (0 ≤ (a1.size : Int)) = true := decide_eq_true c4
      clear c4
      by_cases c5 : (a1.size : Int) ≤ (a0.size : Int)
      · rw [if_pos c5] at H
        have c5b0 := eq_true c5
        have c5b1 : decide ((a1.size : Int) ≤ (a0.size : Int)) = true := decide_eq_true c5
        clear c5
        obtain rfl := Option.some.inj H
        go_enter Tryz.func111, Tryz.ntmps111
        go_wp2
        go_ret
        exact ⟨by first | rfl | (simp; done) | (simp [*]; done), by repeat (first | exact Drawn0.refl _ | apply Drawn0.step)⟩
      · rw [if_neg c5] at H
        exact absurd H (by simp)
    · rw [if_neg c4] at H
      exact absurd H (by simp)
  · rw [if_neg c3] at H
    have c3b0 : decide ((a1.size : Int) ≤ (a0.size : Int)) = false := decide_eq_false c3
    have c3b1 : decide (a1.size ≤ a0.size) = false := decide_eq_false (fun h => c3 (Int.ofNat_le.mpr h))
    clear c3
    obtain rfl := Option.some.inj H
    go_enter Tryz.func111, Tryz.ntmps111
    go_wp2
    go_ret
    exact ⟨by first | rfl | (simp; done) | (simp [*]; done), by repeat (first | exact Drawn0.refl _ | apply Drawn0.step)⟩

/-! ### strings_HasPrefix: function 89 -/
def strings_HasPrefix.f (a0 : ByteArray) (a1 : ByteArray) : Option (Bool) := (stringslite_HasPrefix.f a0 a1).bind fun t141 => (some t141)
set_option maxHeartbeats 8000000 in
set_option maxRecDepth 100000 in
theorem strings_HasPrefix.calls (a0 : ByteArray) (a1 : ByteArray) (r : Bool) (w : World) (h : strings_HasPrefix.f a0 a1 = some r) :
    Calls Tryz.prog 89 #[.string a0, .string a1] w fun e w' => e = .returned (.bool r) ∧ Drawn0 w w' := by
  have H : ((stringslite_HasPrefix.f a0 a1).bind fun t141 => (some t141)) = some r := h
  clear h
  replace H := Option.bind_eq_some_iff.mp H
  obtain ⟨t141, A30, H⟩ := H
  replace H : (some t141) = some r := H
  have A3 := Aside0.mk A30
  clear A30
  obtain rfl := Option.some.inj H
  go_enter Tryz.func89, Tryz.ntmps89
  go_wp2_with (first | ((with_reducible refine gate_callee (f := 111) rfl ?_); refine goesL_ (some 7) rfl rfl Tryz.func111 (by kernel_rfl) rfl #[.string a0, .string a1] rfl (by (try simp only [List.map_toArray, List.map_cons, List.map_nil]); first | done | rfl | (simp only [List.length_drop, List.length_take]; rfl)) ?_; (with_reducible refine (stringslite_HasPrefix.calls a0 a1 t141 _ A3.out).mono ?_); rintro e w' ⟨rfl, ⟨nd, rfl⟩⟩; refine ⟨_, rfl, ?_⟩))
  go_ret
  exact ⟨by first | rfl | (simp; done) | (simp [*]; done), by repeat (first | exact Drawn0.refl _ | apply Drawn0.step)⟩

-- NOT PRINTED: function 90 (token_zzCount)

/-! ### token_zzIndex: function 112 -/
def token_zzIndex.l0 : Nat → ByteArray → ByteArray → Int → Option (Int)
  | 0, _, _, _ => none
  | k + 1, x0, x1, x5 => if (wrap64 (x5 + (x1.size : Int))) ≤ (x0.size : Int) then (if 0 ≤ x5 then (if x5 ≤ (wrap64 (x5 + (x1.size : Int))) then (if (x0.extract (x5 : Int).toNat ((wrap64 (x5 + (x1.size : Int))) : Int).toNat).toList = x1.toList then (some x5) else (token_zzIndex.l0 k x0 x1 (wrap64 (x5 + 1)))) else (none)) else (none)) else (some (-1))
def token_zzIndex.f (k : Nat) (a0 : ByteArray) (a1 : ByteArray) : Option (Int) := token_zzIndex.l0 k a0 a1 0
theorem token_zzIndex.mono_l : ∀ k, (∀ y0 y1 y2, LeO (token_zzIndex.l0 k y0 y1 y2) (token_zzIndex.l0 (k + 1) y0 y1 y2))
  | 0 => fun _ _ _ r h => by simp [token_zzIndex.l0] at h
  | k + 1 => by
    have ih0 := token_zzIndex.mono_l k
    · intro y0 y1 y2
      unfold token_zzIndex.l0
      repeat' first
      | (with_reducible exact ih0 _ _ _)
      | (with_reducible exact LeO.refl _)
      | (with_reducible exact LeO.none _)
      | (with_reducible refine LeO.ite ?_ ?_)
      | (with_reducible refine LeO.bind ?_ (fun _ => ?_))
      | exact ih0 _ _ _
      | exact LeO.none _
      | refine LeO.ite ?_ ?_
      | refine LeO.bind ?_ (fun _ => ?_)
theorem token_zzIndex.mono : ∀ a0 a1 k, LeO (token_zzIndex.f k a0 a1) (token_zzIndex.f (k + 1) a0 a1) := by
  intro a0 a1 k
  have ih0 := token_zzIndex.mono_l k
  unfold token_zzIndex.f
  repeat' first
      | (with_reducible exact ih0 _ _ _)
      | (with_reducible exact LeO.refl _)
      | (with_reducible exact LeO.none _)
      | (with_reducible refine LeO.ite ?_ ?_)
      | (with_reducible refine LeO.bind ?_ (fun _ => ?_))
      | exact ih0 _ _ _
      | exact LeO.none _
      | refine LeO.ite ?_ ?_
      | refine LeO.bind ?_ (fun _ => ?_)
set_option maxHeartbeats 8000000 in
set_option maxRecDepth 100000 in
theorem token_zzIndex.calls (k : Nat) (a0 : ByteArray) (a1 : ByteArray) (r : Int) (w : World) (h : token_zzIndex.f k a0 a1 = some r) :
    Calls Tryz.prog 112 #[.string a0, .string a1] w fun e w' => e = .returned (.int .i64 r) ∧ Drawn0 w w' := by
  have H : (token_zzIndex.l0 k a0 a1 0) = some r := h
  clear h
  have H' := Aside0.mk H
  clear H
  go_enter Tryz.func112, Tryz.ntmps112
  go_wp2
  go_loopg [5] k (fun kq v5 w' => ∃ (x5_1 : Int), v5 = .int .i64 x5_1 ∧ Aside0 (token_zzIndex.l0 kq a0 a1 x5_1 = some r) ∧ Aside0 (kq ≤ k) ∧ Drawn0 w w')
  case atStart => exact ⟨(0), (by first | rfl | (simp; done) | (simp [*]; done)), H', ⟨Nat.le_refl _⟩, by repeat (first | exact Drawn0.refl _ | apply Drawn0.step)⟩
  case round =>
    clear H'
    try clear c1
    try clear p2
    obtain ⟨x5_1, rfl, HA, HK1, ⟨m1, rfl⟩⟩ := hrel
    cases gk with
    | zero => exact absurd HA.out (by simp [token_zzIndex.l0])
    | succ k1 =>
      have H := HA.out
      clear HA
      simp only [token_zzIndex.l0] at H
      by_cases c3 : (wrap64 (x5_1 + (a1.size : Int))) ≤ (a0.size : Int)
      · rw [if_pos c3] at H
        have c3b0 : decide ((wrap64 (x5_1 + (a1.size : Int))) ≤ (a0.size : Int)) = true := decide_eq_true c3
        clear c3
        by_cases c4 : 0 ≤ x5_1
        · rw [if_pos c4] at H
          have c4b0 := eq_true c4
          have c4b1 : decide (0 ≤ x5_1) = true := decide_eq_true c4
          clear c4
          by_cases c5 : x5_1 ≤ (wrap64 (x5_1 + (a1.size : Int)))
          · rw [if_pos c5] at H
            have c5b0 := eq_true c5
            have c5b1 : decide (x5_1 ≤ (wrap64 (x5_1 + (a1.size : Int)))) = true := decide_eq_true c5
            have c6b0 := eq_true (of_decide_eq_true (by first | (with_reducible assumption) | assumption) : (wrap64 (x5_1 + (a1.size : Int))) ≤ (a0.size : Int))
            by_cases c7 : (a0.extract (x5_1 : Int).toNat ((wrap64 (x5_1 + (a1.size : Int))) : Int).toNat).toList = a1.toList
            · rw [if_pos c7] at H
              have c7b0 : ((a0.extract (x5_1 : Int).toNat ((wrap64 (x5_1 + (a1.size : Int))) : Int).toNat).toList == a1.toList) = true := beq_iff_eq.mpr c7
              have c7b1 : ((a0.extract (x5_1 : Int).toNat ((wrap64 (x5_1 + (a1.size : Int))) : Int).toNat).toList != a1.toList) = false := bne_eq_false_iff_eq.mpr c7
              clear c7
              obtain rfl := Option.some.inj H
              go_wp2
              go_ret
              exact ⟨by first | rfl | (simp; done) | (simp [*]; done), by repeat (first | exact Drawn0.refl _ | apply Drawn0.step)⟩
            · rw [if_neg c7] at H
              have c7b0 : ((a0.extract (x5_1 : Int).toNat ((wrap64 (x5_1 + (a1.size : Int))) : Int).toNat).toList == a1.toList) = false := beq_eq_false_iff_ne.mpr c7
              have c7b1 : ((a0.extract (x5_1 : Int).toNat ((wrap64 (x5_1 + (a1.size : Int))) : Int).toNat).toList != a1.toList) = true := bne_iff_ne.mpr c7
              have H' := Aside0.mk H
              clear H
              go_wp2
              go_roundg k1
              case measure => have := HK1.out; omega
              case rel => exact ⟨(wrap64 (x5_1 + 1)), (by first | rfl | (simp; done) | (simp [*]; done)), H', ⟨by have := HK1.out; omega⟩, by repeat (first | exact Drawn0.refl _ | apply Drawn0.step)⟩
          · rw [if_neg c5] at H
            exact absurd H (by simp)
        · rw [if_neg c4] at H
          exact absurd H (by simp)
      · rw [if_neg c3] at H
        have c3b0 : decide ((wrap64 (x5_1 + (a1.size : Int))) ≤ (a0.size : Int)) = false := decide_eq_false c3
        clear c3
        obtain rfl := Option.some.inj H
        go_wp2
        go_ret
        exact ⟨by first | rfl | (simp; done) | (simp [*]; done), by repeat (first | exact Drawn0.refl _ | apply Drawn0.step)⟩

/-! ### token_zzReplaceAll: function 91 -/
def token_zzReplaceAll.l0 : Nat → ByteArray → ByteArray → ByteArray → List Int → Option (ByteArray)
  | 0, _, _, _, _ => none
  | k + 1, x0, x1, x2, x7 => (token_zzIndex.f k x0 x1).bind fun t142 => (if t142 < 0 then (if x7.length + x0.size < 140737488355328 then (some (strOfNums (x7 ++ bytesOf x0))) else (none)) else (if 0 ≤ t142 then (if t142 ≤ (x0.size : Int) then (if x7.length + (x0.extract 0 (t142 : Int).toNat).size < 140737488355328 then ((some (x7 ++ bytesOf (x0.extract 0 (t142 : Int).toNat) : List Int)).bind fun y146 => (if y146.length + x2.size < 140737488355328 then (if 0 ≤ (wrap64 (t142 + (x1.size : Int))) then (if (wrap64 (t142 + (x1.size : Int))) ≤ (x0.size : Int) then (token_zzReplaceAll.l0 k (x0.extract ((wrap64 (t142 + (x1.size : Int))) : Int).toNat x0.size) x1 x2 (y146 ++ bytesOf x2)) else (none)) else (none)) else (none))) else (none)) else (none)) else (none)))
def token_zzReplaceAll.f (k : Nat) (a0 : ByteArray) (a1 : ByteArray) (a2 : ByteArray) : Option (ByteArray) := token_zzReplaceAll.l0 k a0 a1 a2 ([] : List Int)
theorem token_zzReplaceAll.mono_l : ∀ k, (∀ y0 y1 y2 y3, LeO (token_zzReplaceAll.l0 k y0 y1 y2 y3) (token_zzReplaceAll.l0 (k + 1) y0 y1 y2 y3))
  | 0 => fun _ _ _ _ r h => by simp [token_zzReplaceAll.l0] at h
  | k + 1 => by
    have ih0 := token_zzReplaceAll.mono_l k
    · intro y0 y1 y2 y3
      unfold token_zzReplaceAll.l0
      repeat' first
      | (with_reducible exact ih0 _ _ _ _)
      | (with_reducible exact token_zzIndex.mono _ _ _)
      | (with_reducible exact LeO.refl _)
      | (with_reducible exact LeO.none _)
      | (with_reducible refine LeO.ite ?_ ?_)
      | (with_reducible refine LeO.bind ?_ (fun _ => ?_))
      | exact ih0 _ _ _ _
      | exact token_zzIndex.mono _ _ _
      | exact LeO.none _
      | refine LeO.ite ?_ ?_
      | refine LeO.bind ?_ (fun _ => ?_)
theorem token_zzReplaceAll.mono : ∀ a0 a1 a2 k, LeO (token_zzReplaceAll.f k a0 a1 a2) (token_zzReplaceAll.f (k + 1) a0 a1 a2) := by
  intro a0 a1 a2 k
  have ih0 := token_zzReplaceAll.mono_l k
  unfold token_zzReplaceAll.f
  repeat' first
      | (with_reducible exact ih0 _ _ _ _)
      | (with_reducible exact token_zzIndex.mono _ _ _)
      | (with_reducible exact LeO.refl _)
      | (with_reducible exact LeO.none _)
      | (with_reducible refine LeO.ite ?_ ?_)
      | (with_reducible refine LeO.bind ?_ (fun _ => ?_))
      | exact ih0 _ _ _ _
      | exact token_zzIndex.mono _ _ _
      | exact LeO.none _
      | refine LeO.ite ?_ ?_
      | refine LeO.bind ?_ (fun _ => ?_)
set_option maxHeartbeats 8000000 in
set_option maxRecDepth 100000 in
theorem token_zzReplaceAll.calls (k : Nat) (a0 : ByteArray) (a1 : ByteArray) (a2 : ByteArray) (r : ByteArray) (w : World) (h : token_zzReplaceAll.f k a0 a1 a2 = some r) :
    Calls Tryz.prog 91 #[.string a0, .string a1, .string a2] w fun e w' => e = .returned (.string r) ∧ Below w.heap.size w w' := by
  have HB := Aside0.mk (Below.refl w.heap.size w)
  have H : (token_zzReplaceAll.l0 k a0 a1 a2 ([] : List Int)) = some r := h
  clear h
  have H' := Aside0.mk H
  clear H
  go_enter Tryz.func91, Tryz.ntmps91
  go_wp2
  go_loopg [0, 7] k (fun kq v0 v7 w' => ∃ (x0_1 : ByteArray) (x7_1 : List Int), v0 = .string x0_1 ∧ Aside0 (token_zzReplaceAll.l0 kq x0_1 a1 a2 x7_1 = some r) ∧ Aside0 (kq ≤ k) ∧ Aside0 (Kd.R (Kd.int .u8) 5 w' w.heap.size (fun _ => True) v7 x7_1) ∧ Aside0 (Below w.heap.size w w'))
  case atStart => exact ⟨(a0), (([] : List Int)), (by first | rfl | (simp; done) | (simp [*]; done)), H', ⟨Nat.le_refl _⟩, ⟨by first | exact Kd.R_nil _ _ _ _ _ | exact Kd.N_nil _ _ _ _ _ | exact Kd.V_nil _ _ _ _ _ | exact Kd.Q_nil _ _ _ _ _ | exact Kd.S_nil _ _ _ _ _⟩, ⟨by repeat (first | (with_reducible first | exact HB.out | apply below_alloc | apply pw_below_drewN | apply below_drew1) | exact HB.out)⟩⟩
  case round =>
    clear H'
    try clear p2
    obtain ⟨x0_1, x7_1, rfl, HA, HK1, HO_7, HB⟩ := hrel
    cases gk with
    | zero => exact absurd HA.out (by simp [token_zzReplaceAll.l0])
    | succ k1 =>
      have H := HA.out
      clear HA
      simp only [token_zzReplaceAll.l0] at H
      replace H := Option.bind_eq_some_iff.mp H
      obtain ⟨t142, A40, H⟩ := H
      replace H : (if t142 < 0 then (if x7_1.length + x0_1.size < 140737488355328 then (some (strOfNums (x7_1 ++ bytesOf x0_1))) else (none)) else (if 0 ≤ t142 then (if t142 ≤ (x0_1.size : Int) then (if x7_1.length + (x0_1.extract 0 (t142 : Int).toNat).size < 140737488355328 then ((some (x7_1 ++ bytesOf (x0_1.extract 0 (t142 : Int).toNat) : List Int)).bind fun y146 => (if y146.length + a2.size < 140737488355328 then (if 0 ≤ (wrap64 (t142 + (a1.size : Int))) then (if (wrap64 (t142 + (a1.size : Int))) ≤ (x0_1.size : Int) then (token_zzReplaceAll.l0 k1 (x0_1.extract ((wrap64 (t142 + (a1.size : Int))) : Int).toNat x0_1.size) a1 a2 (y146 ++ bytesOf a2)) else (none)) else (none)) else (none))) else (none)) else (none)) else (none))) = some r := H
      have A4 := Aside0.mk A40
      clear A40
      by_cases c5 : t142 < 0
      · rw [if_pos c5] at H
        have c5b0 : decide (t142 < 0) = true := decide_eq_true c5
        clear c5
        by_cases c6 : x7_1.length + x0_1.size < 140737488355328
        · rw [if_pos c6] at H
          have LMc6 := Aside0.mk c6
          clear c6
          obtain ⟨y143, hy143⟩ : ∃ y_ : List Int, y_ = (x7_1 ++ bytesOf x0_1) := ⟨_, rfl⟩
          replace H : (some (strOfNums y143)) = some r := by first | (rw [hy143]; with_reducible exact H) | (have H2_ := (Option.bind_some _ _).symm.trans H; rw [hy143]; with_reducible exact H2_) | (have H2_ := (Option.bind_some _ _).symm.trans H; with_reducible exact H2_) | with_reducible exact H | (rw [hy143]; exact H) | exact H
          have Ny143 := Aside0.mk hy143
          clear hy143
          obtain rfl := Option.some.inj H
          go_wp2_with (first | ((with_reducible refine gate_callee (f := 112) rfl ?_); refine goesL_ (some 11) rfl rfl Tryz.func112 (by kernel_rfl) rfl #[.string x0_1, .string a1] rfl (by (try simp only [List.map_toArray, List.map_cons, List.map_nil]); first | done | rfl | (simp only [List.length_drop, List.length_take]; rfl)) ?_; (with_reducible refine (token_zzIndex.calls k1 x0_1 a1 t142 _ A4.out).mono ?_); rintro e w' ⟨rfl, ⟨nd, rfl⟩⟩; refine ⟨_, rfl, ?_⟩) | (at_builtin; refine print_append_str (w0 := w) w.heap.size rfl (.tmp 14) _ 123 9 5 rfl Tryz.underlying123 Tryz.underlying9 info5 u7 x7_1 x0_1 rfl rfl ?aO ?aB ?aS ?aL ?_; (case aB => exact (by repeat (first | (with_reducible first | exact HB.out | apply below_alloc | apply pw_below_drewN | apply below_drew1) | exact HB.out))); (case aO => exact (Kd.own_of_R (by (with_reducible repeat (first | apply Kd.R_alloc | apply Kd.R_drewN | apply Kd.R_drew)); exact HO_7.out))); (case aS => exact (below_size (by repeat (first | (with_reducible first | exact HB.out | apply below_alloc | apply pw_below_drewN | apply below_drew1) | exact HB.out)))); (case aL => have := LMc6.out; omega); intro v144 w7 ho0 hb hg; have ho := Kd.R_of_own (h1 := fun _ => rfl) (ok := fun _ => True) ho0 (fun _ _ => trivial); clear ho0; have hat := True.intro; rw [← Ny143.out] at ho; change Kd.R (Kd.int .u8) 5 w7 w.heap.size (fun _ => True) v144 y143 at ho; have n0_ := Aside0.mk (hb); have n1_ := Aside0.mk (ho); clear HB; clear HO_7; have HB := n0_; have HO145 := n1_; clear n0_ n1_; clear ho hb hg hat; have hcv8 := own_string (P := Tryz.prog) Tryz.underlying123 Tryz.underlying5 Tryz.underlying9 (Kd.own_of_R HO145.out)))
          go_ret
          exact ⟨by first | rfl | (simp [errW_none, errW_some] <;> rfl) | (simp [*, errW_none, errW_some] <;> rfl), by repeat (first | (with_reducible first | exact HB.out | apply below_alloc | apply pw_below_drewN | apply below_drew1) | exact HB.out)⟩
        · rw [if_neg c6] at H
          exact absurd H (by simp)
      · rw [if_neg c5] at H
        have c5b0 : decide (t142 < 0) = false := decide_eq_false c5
        clear c5
        by_cases c9 : 0 ≤ t142
        · rw [if_pos c9] at H
          have c9b0 := eq_true c9
          have c9b1 : decide (0 ≤ t142) = true := decide_eq_true c9
          clear c9
          by_cases c10 : t142 ≤ (x0_1.size : Int)
          · rw [if_pos c10] at H
            have c10b0 := eq_true c10
            have c10b1 : decide (t142 ≤ (x0_1.size : Int)) = true := decide_eq_true c10
            clear c10
            by_cases c11 : x7_1.length + (x0_1.extract 0 (t142 : Int).toNat).size < 140737488355328
            · rw [if_pos c11] at H
              have LMc11 := Aside0.mk c11
              clear c11
              obtain ⟨y146, hy146⟩ : ∃ y_ : List Int, y_ = (x7_1 ++ bytesOf (x0_1.extract 0 (t142 : Int).toNat)) := ⟨_, rfl⟩
              replace H : (if y146.length + a2.size < 140737488355328 then (if 0 ≤ (wrap64 (t142 + (a1.size : Int))) then (if (wrap64 (t142 + (a1.size : Int))) ≤ (x0_1.size : Int) then (token_zzReplaceAll.l0 k1 (x0_1.extract ((wrap64 (t142 + (a1.size : Int))) : Int).toNat x0_1.size) a1 a2 (y146 ++ bytesOf a2)) else (none)) else (none)) else (none)) = some r := by first | (rw [hy146]; with_reducible exact H) | (have H2_ := (Option.bind_some _ _).symm.trans H; rw [hy146]; with_reducible exact H2_) | (have H2_ := (Option.bind_some _ _).symm.trans H; with_reducible exact H2_) | with_reducible exact H | (rw [hy146]; exact H) | exact H
              have Ny146 := Aside0.mk hy146
              clear hy146
              by_cases c12 : y146.length + a2.size < 140737488355328
              · rw [if_pos c12] at H
                have LMc12 := Aside0.mk c12
                clear c12
                obtain ⟨y149, hy149⟩ : ∃ y_ : List Int, y_ = (y146 ++ bytesOf a2) := ⟨_, rfl⟩
                replace H : (if 0 ≤ (wrap64 (t142 + (a1.size : Int))) then (if (wrap64 (t142 + (a1.size : Int))) ≤ (x0_1.size : Int) then (token_zzReplaceAll.l0 k1 (x0_1.extract ((wrap64 (t142 + (a1.size : Int))) : Int).toNat x0_1.size) a1 a2 y149) else (none)) else (none)) = some r := by first | (rw [hy149]; with_reducible exact H) | (have H2_ := (Option.bind_some _ _).symm.trans H; rw [hy149]; with_reducible exact H2_) | (have H2_ := (Option.bind_some _ _).symm.trans H; with_reducible exact H2_) | with_reducible exact H | (rw [hy149]; exact H) | exact H
                have Ny149 := Aside0.mk hy149
                clear hy149
                obtain ⟨ji13, hji13⟩ : ∃ j_ : Int, (wrap64 (t142 + (a1.size : Int))) = j_ := ⟨_, rfl⟩
                replace H : (if 0 ≤ (ji13) then (if (ji13) ≤ (x0_1.size : Int) then (token_zzReplaceAll.l0 k1 (x0_1.extract ((ji13) : Int).toNat x0_1.size) a1 a2 y149) else (none)) else (none)) = some r := by first | (rw [hji13] at H; exact H) | (simp only [hji13] at H ⊢; exact H)
                (try rw [hji13] at A4)
                have hji13w : (IntKind.i64.wrap (t142 + (a1.size : Int))) = ji13 := (i64_w _).trans hji13
                by_cases c14 : 0 ≤ (ji13)
                · rw [if_pos c14] at H
                  have c14b0 := eq_true c14
                  have c14b1 : decide (0 ≤ (ji13)) = true := decide_eq_true c14
                  clear c14
                  by_cases c15 : (ji13) ≤ (x0_1.size : Int)
                  · rw [if_pos c15] at H
                    have c15b0 := eq_true c15
                    have c15b1 : decide ((ji13) ≤ (x0_1.size : Int)) = true := decide_eq_true c15
                    clear c15
                    have H' := Aside0.mk H
                    clear H
                    go_wp2_with (first | ((with_reducible refine gate_callee (f := 112) rfl ?_); refine goesL_ (some 11) rfl rfl Tryz.func112 (by kernel_rfl) rfl #[.string x0_1, .string a1] rfl (by (try simp only [List.map_toArray, List.map_cons, List.map_nil]); first | done | rfl | (simp only [List.length_drop, List.length_take]; rfl)) ?_; (with_reducible refine (token_zzIndex.calls k1 x0_1 a1 t142 _ A4.out).mono ?_); rintro e w' ⟨rfl, ⟨nd, rfl⟩⟩; refine ⟨_, rfl, ?_⟩) | (at_builtin; refine print_append_str (w0 := w) w.heap.size rfl (.tmp 18) _ 123 9 5 rfl Tryz.underlying123 Tryz.underlying9 info5 u7 x7_1 (x0_1.extract 0 (t142 : Int).toNat) rfl rfl ?aO ?aB ?aS ?aL ?_; (case aB => exact (by repeat (first | (with_reducible first | exact HB.out | apply below_alloc | apply pw_below_drewN | apply below_drew1) | exact HB.out))); (case aO => exact (Kd.own_of_R (by (with_reducible repeat (first | apply Kd.R_alloc | apply Kd.R_drewN | apply Kd.R_drew)); exact HO_7.out))); (case aS => exact (below_size (by repeat (first | (with_reducible first | exact HB.out | apply below_alloc | apply pw_below_drewN | apply below_drew1) | exact HB.out)))); (case aL => have := LMc11.out; omega); intro v147 w16 ho0 hb hg; have ho := Kd.R_of_own (h1 := fun _ => rfl) (ok := fun _ => True) ho0 (fun _ _ => trivial); clear ho0; have hat := True.intro; rw [← Ny146.out] at ho; change Kd.R (Kd.int .u8) 5 w16 w.heap.size (fun _ => True) v147 y146 at ho; have n0_ := Aside0.mk (hb); have n1_ := Aside0.mk (ho); clear HB; clear HO_7; have HB := n0_; have HO148 := n1_; clear n0_ n1_; clear ho hb hg hat) | (at_builtin; refine print_append_str (w0 := w) w.heap.size rfl (.tmp 22) _ 123 9 5 rfl Tryz.underlying123 Tryz.underlying9 info5 v147 y146 a2 rfl rfl ?aO ?aB ?aS ?aL ?_; (case aB => exact (by repeat (first | (with_reducible first | exact HB.out | apply below_alloc | apply pw_below_drewN | apply below_drew1) | exact HB.out))); (case aO => exact (Kd.own_of_R (by (with_reducible repeat (first | apply Kd.R_alloc | apply Kd.R_drewN | apply Kd.R_drew)); exact HO148.out))); (case aS => exact (below_size (by repeat (first | (with_reducible first | exact HB.out | apply below_alloc | apply pw_below_drewN | apply below_drew1) | exact HB.out)))); (case aL => have := LMc12.out; omega); intro v150 w17 ho0 hb hg; have ho := Kd.R_of_own (h1 := fun _ => rfl) (ok := fun _ => True) ho0 (fun _ _ => trivial); clear ho0; have hat := True.intro; rw [← Ny149.out] at ho; change Kd.R (Kd.int .u8) 5 w17 w.heap.size (fun _ => True) v150 y149 at ho; have n0_ := Aside0.mk (hb); have n1_ := Aside0.mk (ho); clear HB; clear HO148; have HB := n0_; have HO151 := n1_; clear n0_ n1_; clear ho hb hg hat))
                    go_roundg k1
                    case measure => have := HK1.out; omega
                    case rel => exact ⟨(x0_1.extract ((ji13) : Int).toNat x0_1.size), (y149), (by first | rfl | (simp; done) | (simp only [← hji13] <;> (first | rfl | simp)) | (simp [*]; done)), H', ⟨by have := HK1.out; omega⟩, ⟨by (with_reducible repeat (first | apply Kd.R_alloc | apply Kd.R_drewN | apply Kd.R_drew)); exact HO151.out⟩, ⟨by repeat (first | (with_reducible first | exact HB.out | apply below_alloc | apply pw_below_drewN | apply below_drew1) | exact HB.out)⟩⟩
                  · rw [if_neg c15] at H
                    exact absurd H (by simp)
                · rw [if_neg c14] at H
                  exact absurd H (by simp)
              · rw [if_neg c12] at H
                exact absurd H (by simp)
            · rw [if_neg c11] at H
              exact absurd H (by simp)
          · rw [if_neg c10] at H
            exact absurd H (by simp)
        · rw [if_neg c9] at H
          exact absurd H (by simp)

/-! ### stringslite_TrimPrefix: function 113 -/
def stringslite_TrimPrefix.f (a0 : ByteArray) (a1 : ByteArray) : Option (ByteArray) := (stringslite_HasPrefix.f a0 a1).bind fun t152 => (if t152 = true then (if 0 ≤ (a1.size : Int) then (if (a1.size : Int) ≤ (a0.size : Int) then (some (a0.extract ((a1.size : Int) : Int).toNat a0.size)) else (none)) else (none)) else (some a0))
set_option maxHeartbeats 8000000 in
set_option maxRecDepth 100000 in
theorem stringslite_TrimPrefix.calls (a0 : ByteArray) (a1 : ByteArray) (r : ByteArray) (w : World) (h : stringslite_TrimPrefix.f a0 a1 = some r) :
    Calls Tryz.prog 113 #[.string a0, .string a1] w fun e w' => e = .returned (.string r) ∧ Drawn0 w w' := by
  have H : ((stringslite_HasPrefix.f a0 a1).bind fun t152 => (if t152 = true then (if 0 ≤ (a1.size : Int) then (if (a1.size : Int) ≤ (a0.size : Int) then (some (a0.extract ((a1.size : Int) : Int).toNat a0.size)) else (none)) else (none)) else (some a0))) = some r := h
  clear h
  replace H := Option.bind_eq_some_iff.mp H
  obtain ⟨t152, A30, H⟩ := H
  replace H : (if t152 = true then (if 0 ≤ (a1.size : Int) then (if (a1.size : Int) ≤ (a0.size : Int) then (some (a0.extract ((a1.size : Int) : Int).toNat a0.size)) else (none)) else (none)) else (some a0)) = some r := H
  have A3 := Aside0.mk A30
  clear A30
  by_cases c4 : t152 = true
  · subst c4
    have H1 : (if 0 ≤ (a1.size : Int) then (if (a1.size : Int) ≤ (a0.size : Int) then (some (a0.extract ((a1.size : Int) : Int).toNat a0.size)) else (none)) else (none)) = some r := by rw [if_pos rfl] at H; exact H
    clear H
    have H := H1
    clear H1
    by_cases c5 : 0 ≤ (a1.size : Int)
    · rw [if_pos c5] at H
      have c5b0 := eq_true c5
      have c5b1 : decide (0 ≤ (a1.size : Int)) = true := decide_eq_true c5
      clear c5
      by_cases c6 : (a1.size : Int) ≤ (a0.size : Int)
      · rw [if_pos c6] at H
        have c6b0 := eq_true c6
        have c6b1 : decide ((a1.size : Int) ≤ (a0.size : Int)) = true := decide_eq_true c6
        clear c6
        obtain rfl := Option.some.inj H
        go_enter Tryz.func113, Tryz.ntmps113
        go_wp2_with (first | ((with_reducible refine gate_callee (f := 111) rfl ?_); refine goesL_ (some 7) rfl rfl Tryz.func111 (by kernel_rfl) rfl #[.string a0, .string a1] rfl (by (try simp only [List.map_toArray, List.map_cons, List.map_nil]); first | done | rfl | (simp only [List.length_drop, List.length_take]; rfl)) ?_; (with_reducible refine (stringslite_HasPrefix.calls a0 a1 true _ A3.out).mono ?_); rintro e w' ⟨rfl, ⟨nd, rfl⟩⟩; refine ⟨_, rfl, ?_⟩))
        go_ret
        exact ⟨by first | rfl | (simp; done) | (simp [*]; done), by repeat (first | exact Drawn0.refl _ | apply Drawn0.step)⟩
      · rw [if_neg c6] at H
        exact absurd H (by simp)
    · rw [if_neg c5] at H
      exact absurd H (by simp)
  · replace c4 := Bool.eq_false_iff.mpr c4
    subst c4
    have H1 : (some a0) = some r := by rw [if_neg (show ¬ (false = true) by decide)] at H; exact H
    clear H
    have H := H1
    clear H1
    obtain rfl := Option.some.inj H
    go_enter Tryz.func113, Tryz.ntmps113
    go_wp2_with (first | ((with_reducible refine gate_callee (f := 111) rfl ?_); refine goesL_ (some 7) rfl rfl Tryz.func111 (by kernel_rfl) rfl #[.string a0, .string a1] rfl (by (try simp only [List.map_toArray, List.map_cons, List.map_nil]); first | done | rfl | (simp only [List.length_drop, List.length_take]; rfl)) ?_; (with_reducible refine (stringslite_HasPrefix.calls a0 a1 false _ A3.out).mono ?_); rintro e w' ⟨rfl, ⟨nd, rfl⟩⟩; refine ⟨_, rfl, ?_⟩))
    go_ret
    exact ⟨by first | rfl | (simp; done) | (simp [*]; done), by repeat (first | exact Drawn0.refl _ | apply Drawn0.step)⟩

/-! ### strings_TrimPrefix: function 92 -/
def strings_TrimPrefix.f (a0 : ByteArray) (a1 : ByteArray) : Option (ByteArray) := (stringslite_TrimPrefix.f a0 a1).bind fun t153 => (some t153)
set_option maxHeartbeats 8000000 in
set_option maxRecDepth 100000 in
theorem strings_TrimPrefix.calls (a0 : ByteArray) (a1 : ByteArray) (r : ByteArray) (w : World) (h : strings_TrimPrefix.f a0 a1 = some r) :
    Calls Tryz.prog 92 #[.string a0, .string a1] w fun e w' => e = .returned (.string r) ∧ Drawn0 w w' := by
  have H : ((stringslite_TrimPrefix.f a0 a1).bind fun t153 => (some t153)) = some r := h
  clear h
  replace H := Option.bind_eq_some_iff.mp H
  obtain ⟨t153, A30, H⟩ := H
  replace H : (some t153) = some r := H
  have A3 := Aside0.mk A30
  clear A30
  obtain rfl := Option.some.inj H
  go_enter Tryz.func92, Tryz.ntmps92
  go_wp2_with (first | ((with_reducible refine gate_callee (f := 113) rfl ?_); refine goesL_ (some 7) rfl rfl Tryz.func113 (by kernel_rfl) rfl #[.string a0, .string a1] rfl (by (try simp only [List.map_toArray, List.map_cons, List.map_nil]); first | done | rfl | (simp only [List.length_drop, List.length_take]; rfl)) ?_; (with_reducible refine (stringslite_TrimPrefix.calls a0 a1 t153 _ A3.out).mono ?_); rintro e w' ⟨rfl, ⟨nd, rfl⟩⟩; refine ⟨_, rfl, ?_⟩))
  go_ret
  exact ⟨by first | rfl | (simp; done) | (simp [*]; done), by repeat (first | exact Drawn0.refl _ | apply Drawn0.step)⟩

-- NOT PRINTED: function 115 (strconv_ParseUint_115)

-- NOT PRINTED: function 114 (strconv_ParseInt_114)

-- NOT PRINTED: function 93 (strconv_ParseInt_93)

-- NOT PRINTED: function 94 (strconv_ParseUint_94)

-- NOT PRINTED: function 76 (token_toNumber)

-- NOT PRINTED: function 26 (token_ToNumber)

-- NOT PRINTED: function 70 (token_String)

-- NOT PRINTED: function 87 (token_reservedKeyword)

-- NOT PRINTED: function 48 (token_New)

-- NOT PRINTED: function 49 (token_DocumentHeader)

-- NOT PRINTED: function 50 (token_DocumentEnd)

-- NOT PRINTED: function 51 (token_SequenceEntry)

-- NOT PRINTED: function 52 (token_MappingKey)

-- NOT PRINTED: function 53 (token_MappingValue)

-- NOT PRINTED: function 54 (token_MergeKey)

-- NOT PRINTED: function 55 (token_CollectEntry)

-- NOT PRINTED: function 56 (token_SequenceStart)

-- NOT PRINTED: function 57 (token_SequenceEnd)

-- NOT PRINTED: function 58 (token_MappingStart)

-- NOT PRINTED: function 59 (token_MappingEnd)

-- NOT PRINTED: function 60 (token_Comment)

-- NOT PRINTED: function 61 (token_Anchor)

-- NOT PRINTED: function 62 (token_Alias)

-- NOT PRINTED: function 88 (token_ReservedTagKeywordMap)

-- NOT PRINTED: function 63 (token_Tag)

-- NOT PRINTED: function 64 (token_Literal)

-- NOT PRINTED: function 65 (token_Folded)

-- NOT PRINTED: function 66 (token_SingleQuote)

-- NOT PRINTED: function 67 (token_DoubleQuote)

-- NOT PRINTED: function 68 (token_Directive)

-- NOT PRINTED: function 69 (token_Space)

-- NOT PRINTED: function 71 (token_Invalid)

-- NOT PRINTED: function 21 (impl_maker)

end Go.Proofs.YtlkbhmmelejmjaaGreatDoor.NumKnown

/- Numbers: prefixes, the place of a text and its replacement, as plain functions on lists; the count of a text in another. -/
namespace Go.Proofs.YtlkbhmmelejmjaaGreatDoor.NumPure
open Go.RowKit Go.Proofs.YtlkbhmmelejmjaaGreatDoorW.PrintWords Go.Proofs.YtlkbhmmelejmjaaGreatDoor.NumKnown
set_option linter.unusedVariables false
set_option linter.unusedSimpArgs false

def hp (s p : ByteArray) : Bool := Lib.hasPrefix s.data.toList p.data.toList
def tp (s p : ByteArray) : ByteArray := if hp s p = true then s.extract p.size s.size else s

theorem sl_HP_f (s p : ByteArray) : stringslite_HasPrefix.f s p = some (hp s p) := by
  have h := Lib.hasPrefix_raw s p
  unfold stringslite_HasPrefix.f hp
  rw [← h]
  by_cases hc : p.size ≤ s.size
  · rw [if_pos (by omega), if_pos (by omega), if_pos (by omega), decide_eq_true hc, Bool.true_and, Int.toNat_natCast]
  · rw [if_neg (by omega), decide_eq_false hc, Bool.false_and]
theorem HP_f (s p : ByteArray) : strings_HasPrefix.f s p = some (hp s p) := by
  unfold strings_HasPrefix.f; rw [sl_HP_f]; rfl
theorem hp_size {s p : ByteArray} (h : hp s p = true) : p.size ≤ s.size := by
  unfold hp at h
  rw [← Lib.hasPrefix_raw, Bool.and_eq_true] at h
  exact of_decide_eq_true h.1
theorem TP_f (s p : ByteArray) : strings_TrimPrefix.f s p = some (tp s p) := by
  have e : stringslite_TrimPrefix.f s p = some (tp s p) := by
    unfold stringslite_TrimPrefix.f tp
    rw [sl_HP_f]
    simp only [Option.bind_some]
    by_cases h : hp s p = true
    · have := hp_size h
      rw [if_pos h, if_pos h, if_pos (by omega), if_pos (by omega), Int.toNat_natCast]
    · rw [if_neg h, if_neg h]
  unfold strings_TrimPrefix.f
  rw [e]; rfl

theorem piece_mem {s p : ByteArray} {i : Nat} {b : UInt8} (hb : p.data.toList.head? = some b) (h : (s.extract i (i + p.size)).toList = p.toList) : b ∈ s.data.toList := by
  rw [Lib.extract_toList, Lib.toList_data] at h
  have : b ∈ p.data.toList := List.mem_of_mem_head? hb
  rw [← h] at this
  exact List.mem_of_mem_drop (List.mem_of_mem_take this)

theorem idx_none {s p : ByteArray} {b : UInt8} (hb : p.data.toList.head? = some b) (hn : b ∉ s.data.toList) (hs : s.size ≤ 2305843009213693952) (hp : p.size ≤ 2305843009213693952) (h1 : 0 < p.size) (d : Nat) : ∀ (k i : Nat), s.size + 1 - i ≤ d → i ≤ s.size → d < k → token_zzIndex.l0 k s p (i : Int) = some (-1) := by
  induction d with
  | zero => intro k i h2 h3 h4; omega
  | succ d ih =>
    intro k i h2 h3 h4
    obtain ⟨k, rfl⟩ : ∃ m, k = m + 1 := ⟨k - 1, by omega⟩
    have hw : wrap64 ((i : Int) + (p.size : Int)) = ((i + p.size : Nat) : Int) := by unfold wrap64; omega
    have hw1 : wrap64 ((i : Int) + 1) = ((i + 1 : Nat) : Int) := by unfold wrap64; omega
    simp only [token_zzIndex.l0, hw, hw1]
    by_cases hle : i + p.size ≤ s.size
    · rw [if_pos (by omega), if_pos (by omega), if_pos (by omega), if_neg ?_]
      · exact ih k (i + 1) (by omega) (by omega) (by omega)
      · intro h
        rw [Int.toNat_natCast, Int.toNat_natCast] at h
        exact hn (piece_mem hb h)
    · rw [if_neg (by omega)]
theorem idx_none_f {s p : ByteArray} {b : UInt8} (hb : p.data.toList.head? = some b) (hn : b ∉ s.data.toList) (hs : s.size ≤ 2305843009213693952) (hp : p.size ≤ 2305843009213693952) (h1 : 0 < p.size) (k : Nat) (hk : s.size + 1 < k) : token_zzIndex.f k s p = some (-1) :=
  idx_none hb hn hs hp h1 (s.size + 1) k 0 (by omega) (by omega) hk

theorem strOfNums_bytes (s : ByteArray) : strOfNums (bytesOf s) = s := by
  have e : (bytesOf s).map (fun z => UInt8.ofNat z.toNat) = s.data.toList := by
    unfold bytesOf
    rw [List.map_map]
    conv => rhs; rw [← List.map_id s.data.toList]
    refine List.map_congr_left fun b _ => ?_
    simp
  unfold strOfNums
  first
    | (rw [e])
    | (show (⟨⟨_⟩⟩ : ByteArray) = s; simp [e])

/-- Nothing to replace. -/
theorem rep_none {s : ByteArray} {p q : ByteArray} {b : UInt8} (hb : p.data.toList.head? = some b) (hn : b ∉ s.data.toList) (hs : s.size ≤ 140737488355327) (hp : p.size ≤ 2305843009213693952) (h1 : 0 < p.size) (k : Nat) (hk : s.size + 2 < k) : token_zzReplaceAll.f k s p q = some s := by
  obtain ⟨k, rfl⟩ : ∃ m, k = m + 1 := ⟨k - 1, by omega⟩
  simp only [token_zzReplaceAll.f, token_zzReplaceAll.l0]
  rw [idx_none_f hb hn (by omega) hp h1 k (by omega)]
  simp only [Option.bind_some]
  rw [if_pos (by omega), if_pos (by simp; omega), List.nil_append, strOfNums_bytes]

theorem piece_one (s : ByteArray) (i : Nat) (h : i < s.size) : (s.extract i (i + 1)).toList = [s[i]] := by
  rw [Lib.extract_toList, show i + 1 - i = 1 by omega]
  have hl : i < s.data.toList.length := by rw [← Lib.size_eq]; exact h
  rw [List.drop_eq_getElem_cons hl]
  rfl
theorem count_take (L : List UInt8) (b : UInt8) (i : Nat) (h : i < L.length) : (L.take (i + 1)).count b = (L.take i).count b + (if L[i] == b then 1 else 0) := by
  rw [List.take_succ_eq_append_getElem h, List.count_append, List.count_singleton]

/-- How often a byte stands in a text. -/
def cnt (b : UInt8) (s : ByteArray) : Nat := s.data.toList.count b
def Cnt (n : Int) (w : World) (e : Ending) (w' : World) : Prop := e = .returned (.int .i64 n) ∧ w = w'

set_option maxRecDepth 100000 in
/-- The count of a byte. -/
theorem count_one (s : ByteArray) (b : UInt8) (hs : s.size ≤ 2305843009213693952) (w : World) : Calls Tryz.prog 90 #[.string s, .string ⟨#[b]⟩] w (Cnt (cnt b s : Int) w) := by
  have hL : s.data.toList.length = s.size := (Lib.size_eq s).symm
  go_enter Tryz.func90, Tryz.ntmps90
  go_wp2_with fail
  go_loop [5, 6] (fun vn vi => ∃ i n : Nat, i ≤ s.size ∧ vi = .int .i64 i ∧ vn = .int .i64 n ∧ n ≤ i ∧ n = (s.data.toList.take i).count b) (fun _ vi => s.size - (intOf vi).toNat)
  case atStart => exact ⟨0, 0, Nat.zero_le _, rfl, rfl, Nat.le_refl _, rfl⟩
  case round =>
    obtain ⟨i, n, hi, rfl, rfl, hni, hn⟩ := hrel
    have HN := Aside0.mk hn
    clear hn
    by_cases hlt : i < s.size
    · have hp1 := piece_one s i hlt
      have hct := count_take s.data.toList b i (by rw [hL]; exact hlt)
      have hge : s.data.toList[i]'(by rw [hL]; exact hlt) = s[i] := rfl
      rw [hge] at hct
      by_cases hb : s[i] = b
      · rw [hb] at hct hp1
        rw [if_pos (by simp)] at hct
        have HC := Aside0.mk hct
        have hq : ((s.extract i (i + 1)).toList == [b]) = true := by rw [hp1]; simp
        clear hct hp1 hge hb
        go_wp2_with fail
        go_round
        case rel => exact ⟨i + 1, n + 1, by omega, by go_num, by go_num, by omega, by rw [HC.out, HN.out]⟩
        case measure => simp [intOf]; omega
      · rw [if_neg (by simpa using hb)] at hct
        have HC := Aside0.mk hct
        have hq : ((s.extract i (i + 1)).toList == [b]) = false := by rw [hp1]; simpa using hb
        clear hct hp1 hge hb
        go_wp2_with fail
        go_round
        case rel => exact ⟨i + 1, n, by omega, by go_num, rfl, by omega, by rw [HC.out, HN.out]; rfl⟩
        case measure => simp [intOf]; omega
    · obtain rfl : i = s.size := by omega
      go_wp2_with fail
      go_ret
      have hn := HN.out
      rw [List.take_of_length_le (by rw [hL]; exact Nat.le_refl _)] at hn
      exact ⟨by unfold cnt; rw [← hn]; rfl, rfl⟩

set_option maxRecDepth 100000 in
/-- Two bytes of which the first does not occur. -/
theorem count_two (s : ByteArray) (b c : UInt8) (hn : b ∉ s.data.toList) (hs : s.size ≤ 2305843009213693952) (w : World) : Calls Tryz.prog 90 #[.string s, .string ⟨#[b, c]⟩] w (Cnt 0 w) := by
  have HN := Aside0.mk hn
  clear hn
  go_enter Tryz.func90, Tryz.ntmps90
  go_wp2_with fail
  go_loop [5, 6] (fun vn vi => ∃ i : Nat, i ≤ s.size ∧ vi = .int .i64 i ∧ vn = .int .i64 0) (fun _ vi => s.size - (intOf vi).toNat)
  case atStart => exact ⟨0, Nat.zero_le _, rfl, rfl⟩
  case round =>
    obtain ⟨i, hi, rfl, rfl⟩ := hrel
    by_cases hlt : i + 2 ≤ s.size
    · have hq : ((s.extract i (i + 2)).toList == [b, c]) = false := by
        rw [beq_eq_false_iff_ne]
        intro h
        exact HN.out (piece_mem (p := ⟨#[b, c]⟩) (i := i) (b := b) rfl (by rw [Lib.toList_data ⟨#[b, c]⟩]; exact h))
      go_wp2_with fail
      go_round
      case rel => exact ⟨i + 1, by omega, by go_num, rfl⟩
      case measure => simp [intOf]; omega
    · go_wp2_with fail
      go_ret
      exact ⟨rfl, rfl⟩
end Go.Proofs.YtlkbhmmelejmjaaGreatDoor.NumPure

/- Digits, runs of digits, and what a float's text is (spec.scHex, nbDigits, nbRun, nbFloat). -/
namespace Go.Proofs.YtlkbhmmelejmjaaGreatDoor.AsNum
open Go.RowKit Go.Proofs.YtlkbhmmelejmjaaGreatDoorW.PrintWords
set_option linter.unusedVariables false
set_option linter.unusedSimpArgs false

theorem first_any (T : ByteArray) : ∃ c : Int, ∀ h, ((T[0]'h).toNat : Int) = c := by
  by_cases h : 0 < T.size
  · exact ⟨((T[0]'h).toNat : Int), fun _ => rfl⟩
  · exact ⟨0, fun h' => absurd h' h⟩
theorem ext_one (s : ByteArray) : (s.extract 1 s.size).data.toList = s.data.toList.drop 1 := by
  rw [ByteArray.data_extract, Array.toList_extract]
  show (s.data.toList.drop 1).take (s.size - 1) = _
  exact List.take_of_length_le (by rw [List.length_drop, ← Lib.size_eq]; exact Nat.le_refl _)
theorem ext_from (s : ByteArray) (n : Nat) : (s.extract n s.size).data.toList = s.data.toList.drop n := by
  rw [ByteArray.data_extract, Array.toList_extract]
  show (s.data.toList.drop n).take (s.size - n) = _
  exact List.take_of_length_le (by rw [List.length_drop, ← Lib.size_eq]; exact Nat.le_refl _)
theorem empty_iff (s : ByteArray) : s.size = 0 → s.data.toList = [] := fun h => List.length_eq_zero_iff.1 ((Lib.size_eq s).symm.trans h)
theorem cons_of (s : ByteArray) (h : 0 < s.size) : s.data.toList = s[0] :: s.data.toList.drop 1 := by
  have hl : 0 < s.data.toList.length := by rw [← Lib.size_eq]; exact h
  have : s[0] = s.data.toList[0] := rfl
  rw [this]
  exact (List.drop_zero (l := s.data.toList)).symm.trans (List.drop_eq_getElem_cons hl)
theorem emp_t (s : ByteArray) (h : s.size = 0) : s.toList.isEmpty = true := by
  rw [Lib.toList_data, empty_iff s h]; rfl
theorem emp_f (s : ByteArray) (h : 0 < s.size) : s.toList.isEmpty = false := by
  rw [Lib.toList_data, cons_of s h]; rfl

/-- Digits alone. -/
def Dg (L : List UInt8) : Prop := ∀ c ∈ L, 48 ≤ c.toNat ∧ c.toNat ≤ 57
def RunP (s : ByteArray) (w : World) (e : Ending) (w' : World) : Prop := w = w' ∧ ∃ n : Nat, e = .returned (.int .i64 n) ∧ n ≤ s.size ∧ Dg (s.data.toList.take n)
set_option maxRecDepth 100000 in
theorem run_walk (s : ByteArray) (hs : s.size ≤ 140737488351232) (w : World) : Calls Tryz.prog 45 #[.string s] w (RunP s w) := by
  go_enter Tryz.func45, Tryz.ntmps45
  go_wp2_with fail
  go_loop [3] (fun v => ∃ i : Nat, i ≤ s.size ∧ v = .int .i64 i ∧ Aside0 (Dg (s.data.toList.take i))) (fun v => s.size - (intOf v).toNat)
  case atStart => exact ⟨0, Nat.zero_le _, rfl, ⟨fun c hc => by simp at hc⟩⟩
  case round =>
    obtain ⟨i, hi, rfl, HD⟩ := hrel
    by_cases hlt : i < s.size
    · obtain ⟨c, hc⟩ : ∃ c : Int, ∀ h, ((s[i]'h).toNat : Int) = c := ⟨((s[i]'hlt).toNat : Int), fun h => rfl⟩
      have d0 : decide ((i : Int) < (s.size : Int)) = true := decide_eq_true (by omega)
      have HC := Aside0.mk (hc hlt)
      by_cases h1 : 48 ≤ c
      · have d1 : decide (48 ≤ c) = true := decide_eq_true h1
        have H1 := Aside0.mk h1
        clear h1
        by_cases h2 : c ≤ 57
        · have d2 : decide (c ≤ 57) = true := decide_eq_true h2
          have H2 := Aside0.mk h2
          clear h2
          go_wp2_with fail
          go_round
          case rel =>
            refine ⟨i + 1, by omega, by go_num, ⟨fun x hx => ?_⟩⟩
            rw [List.take_add_one, List.getElem?_eq_getElem (by rw [← Lib.size_eq]; exact hlt)] at hx
            rcases List.mem_append.1 hx with hx | hx
            · exact HD.out x hx
            · have hx : x = s[i] := List.mem_singleton.1 hx
              have := HC.out
              have := H1.out
              have := H2.out
              rw [hx]
              omega
          case measure => simp [intOf]; omega
        · have d2 : decide (c ≤ 57) = false := decide_eq_false h2
          clear h2
          go_wp2_with fail
          go_ret
          exact ⟨rfl, i, rfl, hi, HD.out⟩
      · have d1 : decide (48 ≤ c) = false := decide_eq_false h1
        clear h1
        go_wp2_with fail
        go_ret
        exact ⟨rfl, i, rfl, hi, HD.out⟩
    · obtain rfl : i = s.size := by omega
      go_wp2_with fail
      go_ret
      exact ⟨rfl, _, rfl, hi, HD.out⟩

/-- A digit of base 16. -/
def hexV (c : Int) : Int := if 48 ≤ c ∧ c ≤ 57 then c - 48 else if 97 ≤ c ∧ c ≤ 102 then c - 87 else if 65 ≤ c ∧ c ≤ 70 then c - 55 else -1
theorem hexV_in (c : Int) : -1 ≤ hexV c ∧ hexV c ≤ 15 := by
  unfold hexV
  repeat' split
  all_goals omega
def HexP (c : Int) (w : World) (e : Ending) (w' : World) : Prop := w = w' ∧ e = .returned (.int .i32 (hexV c))
set_option maxRecDepth 100000 in
theorem hex_walk (c : Int) (h0 : 0 ≤ c) (h1 : c ≤ 2147483647) (w : World) : Calls Tryz.prog 84 #[.int .i32 c] w (HexP c w) := by
  have hv : ∀ x, hexV c = x → ∀ e w', (w = w' ∧ e = .returned (.int .i32 x)) → HexP c w e w' := fun x hx e w' h => ⟨h.1, by rw [hx]; exact h.2⟩
  by_cases a1 : 48 ≤ c
  · by_cases a2 : c ≤ 57
    · refine Calls.mono ?_ (hv (c - 48) (by unfold hexV; rw [if_pos ⟨a1, a2⟩]))
      clear hv
      go_enter Tryz.func84, Tryz.ntmps84
      go_wp2
      go_ret
      exact ⟨rfl, rfl⟩
    · by_cases a3 : 97 ≤ c
      · by_cases a4 : c ≤ 102
        · refine Calls.mono ?_ (hv (c - 87) (by unfold hexV; rw [if_neg (by omega), if_pos ⟨a3, a4⟩]))
          clear hv
          go_enter Tryz.func84, Tryz.ntmps84
          go_wp2
          go_ret
          exact ⟨rfl, by rw [show c - 87 = c - 97 + 10 by omega]; rfl⟩
        · refine Calls.mono ?_ (hv (-1) (by unfold hexV; rw [if_neg (by omega), if_neg (by omega), if_neg (by omega)]))
          clear hv
          have a5 : 65 ≤ c := by omega
          have a6 : ¬ c ≤ 70 := by omega
          go_enter Tryz.func84, Tryz.ntmps84
          go_wp2
          go_ret
          exact ⟨rfl, rfl⟩
      · by_cases a5 : 65 ≤ c
        · by_cases a6 : c ≤ 70
          · refine Calls.mono ?_ (hv (c - 55) (by unfold hexV; rw [if_neg (by omega), if_neg (by omega), if_pos ⟨a5, a6⟩]))
            clear hv
            go_enter Tryz.func84, Tryz.ntmps84
            go_wp2
            go_ret
            exact ⟨rfl, by rw [show c - 55 = c - 65 + 10 by omega]; rfl⟩
          · refine Calls.mono ?_ (hv (-1) (by unfold hexV; rw [if_neg (by omega), if_neg (by omega), if_neg (by omega)]))
            clear hv
            go_enter Tryz.func84, Tryz.ntmps84
            go_wp2
            go_ret
            exact ⟨rfl, rfl⟩
        · refine Calls.mono ?_ (hv (-1) (by unfold hexV; rw [if_neg (by omega), if_neg (by omega), if_neg (by omega)]))
          clear hv
          go_enter Tryz.func84, Tryz.ntmps84
          go_wp2
          go_ret
          exact ⟨rfl, rfl⟩
  · refine Calls.mono ?_ (hv (-1) (by unfold hexV; rw [if_neg (by omega), if_neg (by omega), if_neg (by omega)]))
    clear hv
    have a3 : ¬ 97 ≤ c := by omega
    have a5 : ¬ 65 ≤ c := by omega
    go_enter Tryz.func84, Tryz.ntmps84
    go_wp2
    go_ret
    exact ⟨rfl, rfl⟩
end Go.Proofs.YtlkbhmmelejmjaaGreatDoor.AsNum

/- Plain facts on UTF-8: a valid text is the encodings of its runes, one behind the other, and back. No program in sight; no condition. -/
namespace Go.Proofs.YtlkbhmmelejmjaaGreatDoor.Utf
open Go Go.Lib
set_option linter.unusedVariables false
set_option linter.unusedSimpArgs false

abbrev B (s : ByteArray) : List UInt8 := s.data.toList
def ba (l : List UInt8) : ByteArray := ⟨l.toArray⟩
theorem B_ba (l : List UInt8) : B (ba l) = l := rfl
theorem ba_B (s : ByteArray) : ba (B s) = s := by cases s; simp [ba, B]
theorem ba_size (l : List UInt8) : (ba l).size = l.length := by simp [ba, ByteArray.size]
theorem B_length (s : ByteArray) : (B s).length = s.size := by simp [B]
theorem eq_of_B {s t : ByteArray} (h : B s = B t) : s = t := by rw [← ba_B s, ← ba_B t, h]

/-- A character that has an encoding of its own. -/
def Scalar (r : Int) : Prop := 0 ≤ r ∧ (r < 55296 ∨ (57344 ≤ r ∧ r ≤ 1114111))

/-- The encodings of characters. -/
def enc (rs : List Int) : List UInt8 := rs.flatMap encodeRune
theorem enc_nil : enc [] = [] := rfl
theorem enc_cons (r : Int) (rs : List Int) : enc (r :: rs) = encodeRune r ++ enc rs := by simp [enc]
theorem enc_append (a b : List Int) : enc (a ++ b) = enc a ++ enc b := by simp [enc]

theorem encodeRune_length (r : Int) : 1 ≤ (encodeRune r).length ∧ (encodeRune r).length ≤ 4 := by
  unfold encodeRune; rw [List.length_map]; exact encodeRuneZ_length r

theorem encodeRune_ascii (r : Int) (h0 : 0 ≤ r) (h1 : r ≤ 127) : encodeRune r = [r.toNat.toUInt8] := by
  unfold encodeRune; rw [encodeRuneZ_one h0 h1]; rfl

theorem toByte' (z : Int) (h0 : 0 ≤ z) (h1 : z < 256) : (z.toNat.toUInt8).toNat = z.toNat := by
  simp [UInt8.toNat_ofNat']; omega

theorem decode_ge (n b0 b1 b2 b3 m : Nat) (h : n ≤ m) (h4 : 1 ≤ (decodeN n b0 b1 b2 b3).2) (e : decodeN n b0 b1 b2 b3 ≠ (65533, 1)) : decodeN m b0 b1 b2 b3 = decodeN n b0 b1 b2 b3 := by
  rcases decodeN_shape n b0 b1 b2 b3 with ⟨c, e'⟩ | ⟨c1, c2, c3, cv, e'⟩ | ⟨c1, c2, c3, c4, cv, cs, e'⟩ | ⟨c1, c2, c3, c4, c5, cv, cw, e'⟩ | e'
  · rw [e']; unfold decodeN; rw [if_pos c]
  · rw [e']; unfold decodeN; rw [if_neg (by omega), if_pos (by omega), if_pos (by omega)]
  · rw [e']; unfold decodeN; rw [if_neg (by omega), if_neg (by omega), if_pos (by omega), if_pos (by omega)]
  · rw [e']; unfold decodeN; rw [if_neg (by omega), if_neg (by omega), if_neg (by omega), if_pos (by omega), if_pos (by omega)]
  · exact absurd e' e

/-- What is decoded behind an encoding's beginning is what was encoded. -/
theorem decode_encode (r : Int) (h : Scalar r) (t : List UInt8) : decodeL (encodeRune r ++ t) = (r.toNat, (encodeRune r).length) := by
  obtain ⟨h0, h1⟩ := h
  rw [decodeL_N]
  by_cases a : r ≤ 127
  · have e : encodeRune r = [r.toNat.toUInt8] := encodeRune_ascii r h0 a
    rw [e]
    have := toByte' r h0 (by omega)
    simp only [List.cons_append, List.nil_append, List.getD_cons_zero, List.length_cons]
    unfold decodeN
    rw [if_pos (by omega)]
    simp [this]
  · by_cases b : r ≤ 2047
    · have e : encodeRune r = [(192 + r / 64).toNat.toUInt8, (128 + r % 64).toNat.toUInt8] := by unfold encodeRune; rw [encodeRuneZ_two (by omega) b]; rfl
      rw [e]
      have k0 := toByte' (192 + r / 64) (by omega) (by omega)
      have k1 := toByte' (128 + r % 64) (by omega) (by omega)
      simp only [List.cons_append, List.nil_append, List.getD_cons_zero, List.getD_cons_succ, List.length_cons, k0, k1]
      unfold decodeN
      rw [if_neg (by omega), if_pos (by omega), if_pos (by omega)]
      simp; omega
    · by_cases c : r ≤ 65535
      · have e : encodeRune r = [(224 + r / 4096).toNat.toUInt8, (128 + r / 64 % 64).toNat.toUInt8, (128 + r % 64).toNat.toUInt8] := by unfold encodeRune; rw [encodeRuneZ_three (by omega)]; rfl
        rw [e]
        have k0 := toByte' (224 + r / 4096) (by omega) (by omega)
        have k1 := toByte' (128 + r / 64 % 64) (by omega) (by omega)
        have k2 := toByte' (128 + r % 64) (by omega) (by omega)
        simp only [List.cons_append, List.nil_append, List.getD_cons_zero, List.getD_cons_succ, List.length_cons, k0, k1, k2]
        unfold decodeN
        rw [if_neg (by omega), if_neg (by omega), if_pos (by omega), if_pos (by omega)]
        simp; omega
      · have e : encodeRune r = [(240 + r / 262144).toNat.toUInt8, (128 + r / 4096 % 64).toNat.toUInt8, (128 + r / 64 % 64).toNat.toUInt8, (128 + r % 64).toNat.toUInt8] := by unfold encodeRune; rw [encodeRuneZ_four (by omega) (by omega)]; rfl
        rw [e]
        have k0 := toByte' (240 + r / 262144) (by omega) (by omega)
        have k1 := toByte' (128 + r / 4096 % 64) (by omega) (by omega)
        have k2 := toByte' (128 + r / 64 % 64) (by omega) (by omega)
        have k3 := toByte' (128 + r % 64) (by omega) (by omega)
        simp only [List.cons_append, List.nil_append, List.getD_cons_zero, List.getD_cons_succ, List.length_cons, k0, k1, k2, k3]
        unfold decodeN
        rw [if_neg (by omega), if_neg (by omega), if_neg (by omega), if_pos (by omega), if_pos (by omega)]
        simp; omega

/-- A rune that was decoded from valid bytes is a character. -/
theorem scalar_decode (l : List UInt8) (hv : ¬ ((decodeL l).1 = 65533 ∧ (decodeL l).2 = 1)) : Scalar ((decodeL l).1 : Int) := by
  rw [decodeL_N] at hv ⊢
  unfold Scalar
  have k0 := (l.getD 0 0).toNat_lt
  rcases decodeN_shape l.length (l.getD 0 0).toNat (l.getD 1 0).toNat (l.getD 2 0).toNat (l.getD 3 0).toNat with ⟨c, e⟩ | ⟨c1, c2, c3, cv, e⟩ | ⟨c1, c2, c3, c4, cv, cs, e⟩ | ⟨c1, c2, c3, c4, c5, cv, cw, e⟩ | e
  · rw [e]; dsimp only; omega
  · rw [e]; dsimp only; omega
  · rw [e]; dsimp only; omega
  · rw [e]; dsimp only; omega
  · rw [e] at hv; exact absurd ⟨rfl, rfl⟩ hv

theorem validGo_enc : ∀ (n : Nat) (l : List UInt8), l.length ≤ n → validGoD n l = true → ∃ rs : List Int, (∀ r ∈ rs, Scalar r) ∧ l = enc rs
  | 0, l, h, _ => ⟨[], by simp, by have e : l = [] := List.eq_nil_of_length_eq_zero (by omega)
                                   rw [e]; rfl⟩
  | n + 1, l, h, hv => by
    unfold validGoD at hv
    by_cases hl : l = []
    · exact ⟨[], by simp, by rw [hl]; rfl⟩
    · rw [if_neg hl] at hv
      by_cases hd : (decodeL l).1 = 65533 ∧ (decodeL l).2 = 1
      · rw [if_pos hd] at hv; cases hv
      · rw [if_neg hd] at hv
        have hw := decodeL_width l
        obtain ⟨rs, h1, h2⟩ := validGo_enc n (l.drop (decodeL l).2) (by rw [List.length_drop]; omega) hv
        refine ⟨((decodeL l).1 : Int) :: rs, ?_, ?_⟩
        · intro r hr
          rcases List.mem_cons.1 hr with rfl | hr
          · exact scalar_decode l hd
          · exact h1 r hr
        · rw [enc_cons, encode_decode l hl hd, ← h2, List.take_append_drop]

/-- A valid text is the encodings of its runes. -/
theorem valid_enc (l : List UInt8) (h : validD l = true) : ∃ rs : List Int, (∀ r ∈ rs, Scalar r) ∧ l = enc rs := validGo_enc l.length l (Nat.le_refl _) h

theorem scalar_not_bad (r : Int) (h : Scalar r) : ¬ (r.toNat = 65533 ∧ (encodeRune r).length = 1) := by
  rintro ⟨h1, h2⟩
  have : r = 65533 := by have := h.1; omega
  subst this
  unfold encodeRune at h2
  rw [encodeRuneZ_three (by omega)] at h2
  simp at h2

theorem validGo_of_enc : ∀ (n : Nat) (rs : List Int), (∀ r ∈ rs, Scalar r) → validGoD n (enc rs) = true
  | 0, _, _ => rfl
  | n + 1, [], _ => by simp [validGoD, enc_nil]
  | n + 1, r :: rs, h => by
    unfold validGoD
    have hr := h r (by simp)
    rw [enc_cons, decode_encode r hr]
    split
    · rfl
    · rw [if_neg (scalar_not_bad r hr)]
      dsimp only
      rw [List.drop_left]
      exact validGo_of_enc n rs (fun x hx => h x (by simp [hx]))

theorem valid_of_enc (rs : List Int) (h : ∀ r ∈ rs, Scalar r) : validD (enc rs) = true := validGo_of_enc _ rs h

/-! ### the runes of a string, as the conversion makes them -/
def runes (s : ByteArray) : Nat → Nat → List Int
  | 0, _ => []
  | f + 1, i => if i < s.size then ((Utf8.decode s i).1 : Int) :: runes s f (i + (Utf8.decode s i).2) else []

theorem runesFrom_eq (s : ByteArray) : ∀ (f i : Nat) (acc : Array Value), Conv.runesFrom s f i acc = acc ++ ((runes s f i).map (Value.int .i32)).toArray
  | 0, _, acc => by simp [Conv.runesFrom, runes]
  | f + 1, i, acc => by
    unfold Conv.runesFrom runes
    by_cases h : i < s.size
    · simp only [h, if_true]
      rw [runesFrom_eq s f]
      simp
    · simp [h]

theorem runes_length (s : ByteArray) : ∀ (f i : Nat), (runes s f i).length ≤ f
  | 0, _ => by simp [runes]
  | f + 1, i => by
    unfold runes
    split
    · have := runes_length s f (i + (Utf8.decode s i).2); simp; omega
    · simp

theorem decode_drop (s : ByteArray) (i : Nat) : Utf8.decode s i = decodeL ((B s).drop i) := by
  rw [decode_N, decodeL_N]
  simp [List.getD, List.getElem?_drop]

theorem runes_enc (s : ByteArray) : ∀ (f i : Nat) (rs : List Int), (∀ r ∈ rs, Scalar r) → (B s).drop i = enc rs → s.size ≤ i + f → runes s f i = rs
  | 0, i, [], _, _, _ => rfl
  | 0, i, r :: rs, _, he, hf => by
    have h1 : (B s).drop i = [] := List.drop_eq_nil_of_le (by rw [B_length]; omega)
    rw [h1, enc_cons] at he
    have := (encodeRune_length r).1
    have := congrArg List.length he
    simp at this
    omega
  | f + 1, i, rs, h, he, hf => by
    unfold runes
    by_cases hi : i < s.size
    · rw [if_pos hi, decode_drop, he]
      cases rs with
      | nil =>
        have := congrArg List.length he
        simp [enc_nil, B_length] at this
        omega
      | cons r rs =>
        have hr := h r (by simp)
        rw [enc_cons, decode_encode r hr]
        dsimp only
        have hd : (B s).drop (i + (encodeRune r).length) = enc rs := by
          rw [← List.drop_drop, he, enc_cons, List.drop_left]
        rw [runes_enc s f (i + (encodeRune r).length) rs (fun x hx => h x (by simp [hx])) hd (by have := (encodeRune_length r).1; omega)]
        congr 1
        have := hr.1
        omega
    · rw [if_neg hi]
      have h1 : (B s).drop i = [] := List.drop_eq_nil_of_le (by rw [B_length]; omega)
      rw [h1] at he
      cases rs with
      | nil => rfl
      | cons r rs =>
        rw [enc_cons] at he
        have := (encodeRune_length r).1
        have := congrArg List.length he
        simp at this
        omega

/-- The runes of the encodings of characters. -/
theorem runes_of (s : ByteArray) (rs : List Int) (h : ∀ r ∈ rs, Scalar r) (he : B s = enc rs) : runes s s.size 0 = rs :=
  runes_enc s s.size 0 rs h (by rw [List.drop_zero]; exact he) (by omega)

theorem enc_length (rs : List Int) : rs.length ≤ (enc rs).length ∧ (enc rs).length ≤ 4 * rs.length := by
  induction rs with
  | nil => simp [enc_nil]
  | cons r rs ih =>
    have := encodeRune_length r
    rw [enc_cons]
    simp
    omega
end Go.Proofs.YtlkbhmmelejmjaaGreatDoor.Utf

/- Bytes and characters of a line: the first byte, the last one, the one behind a character (plain). -/
namespace Go.Proofs.YtlkbhmmelejmjaaGreatDoor.QEnc
open Go Go.Lib Go.Proofs.YtlkbhmmelejmjaaGreatDoor.Utf
set_option linter.unusedVariables false
set_option linter.unusedSimpArgs false

theorem enc_high {r : Int} (h : Scalar r) (hr : 127 < r) : ∀ b ∈ encodeRune r, 128 ≤ b.toNat := by
  obtain ⟨h0, h1⟩ := h
  have key : ∀ x ∈ encodeRuneZ r, 128 ≤ x ∧ x < 256 := by
    intro x hx
    by_cases b : r ≤ 2047
    · rw [encodeRuneZ_two (by omega) b] at hx
      simp only [List.mem_cons, List.not_mem_nil, or_false] at hx
      rcases hx with rfl | rfl <;> omega
    · by_cases c : r ≤ 65535
      · rw [encodeRuneZ_three (by omega)] at hx
        simp only [List.mem_cons, List.not_mem_nil, or_false] at hx
        rcases hx with rfl | rfl | rfl <;> omega
      · rw [encodeRuneZ_four (by omega) (by omega)] at hx
        simp only [List.mem_cons, List.not_mem_nil, or_false] at hx
        rcases hx with rfl | rfl | rfl | rfl <;> omega
  intro b hb
  unfold encodeRune at hb
  obtain ⟨x, hx, rfl⟩ := List.mem_map.1 hb
  have := key x hx
  rw [toByte' x (by omega) (by omega)]
  omega
theorem enc_low {r : Int} (h0 : 0 ≤ r) (h1 : r ≤ 127) : encodeRune r = [r.toNat.toUInt8] ∧ (r.toNat.toUInt8).toNat = r.toNat := ⟨encodeRune_ascii r h0 h1, toByte' r h0 (by omega)⟩

/-- Of a byte of a character's encoding: it is a sign of ASCII just if the character is. -/
theorem byte_is {r : Int} (h : Scalar r) {b : UInt8} (hb : b ∈ encodeRune r) (c : Nat) (hc : c < 128) : b.toNat = c ↔ r = (c : Int) := by
  by_cases hr : r ≤ 127
  · obtain ⟨e, e2⟩ := enc_low h.1 hr
    rw [e, List.mem_singleton] at hb
    rw [hb, e2]
    have := h.1
    omega
  · have := enc_high h (by omega) b hb
    omega
theorem first_is {r : Int} {rs : List Int} (h : Scalar r) : ∃ b t, enc (r :: rs) = b :: t ∧ ∀ c : Nat, c < 128 → (b.toNat = c ↔ r = (c : Int)) := by
  have hl := (encodeRune_length r).1
  cases he : encodeRune r with
  | nil => rw [he] at hl; simp at hl
  | cons b t => exact ⟨b, t ++ enc rs, by rw [enc_cons, he]; rfl, fun c hc => byte_is h (by rw [he]; exact List.mem_cons_self) c hc⟩
theorem last_is {rs : List Int} (hne : rs ≠ []) (hs : ∀ r ∈ rs, Scalar r) : ∃ b, (enc rs).getLast? = some b ∧ ∀ c : Nat, c < 128 → (b.toNat = c ↔ rs.getD (rs.length - 1) 0 = (c : Int)) := by
  obtain ⟨pre, r, rfl⟩ : ∃ pre r, rs = pre ++ [r] := ⟨rs.dropLast, rs.getLast hne, (List.dropLast_concat_getLast hne).symm⟩
  have hl := (encodeRune_length r).1
  have hne2 : encodeRune r ≠ [] := by intro h; rw [h] at hl; simp at hl
  refine ⟨(encodeRune r).getLast hne2, ?_, fun c hc => ?_⟩
  · rw [enc_append, enc_cons, enc_nil, List.append_nil, List.getLast?_append, List.getLast?_eq_some_getLast hne2]; rfl
  · have h1 : (pre ++ [r]).getD ((pre ++ [r]).length - 1) 0 = r := by
      simp [List.getD]
    rw [h1]
    exact byte_is (hs r (by simp)) (List.getLast_mem hne2) c hc

/-- The byte behind a sign of ASCII is a space just if the next character is one. -/
theorem next_is {pre post : List Int} {r : Int} (hs : ∀ x ∈ pre ++ r :: post, Scalar x) (h0 : 0 ≤ r) (h1 : r ≤ 127) :
    (post = [] ∧ (enc (pre ++ r :: post)).length = (enc pre).length + 1) ∨ ∃ b, (enc (pre ++ r :: post))[(enc pre).length + 1]? = some b ∧ post ≠ [] ∧ ∀ c : Nat, c < 128 → (b.toNat = c ↔ post.getD 0 0 = (c : Int)) := by
  have e := (enc_low h0 h1).1
  have hx : enc (pre ++ r :: post) = enc pre ++ (r.toNat.toUInt8 :: enc post) := by rw [enc_append, enc_cons, e]; rfl
  cases post with
  | nil =>
    refine .inl ⟨rfl, ?_⟩
    rw [hx, List.length_append]; rfl
  | cons q t =>
    obtain ⟨b, u, he, hc⟩ := first_is (rs := t) (hs q (by simp))
    refine .inr ⟨b, ?_, by simp, fun c hcc => by simpa using hc c hcc⟩
    rw [hx, he, List.getElem?_append_right (by omega), show (enc pre).length + 1 - (enc pre).length = 1 by omega]
    rfl
end Go.Proofs.YtlkbhmmelejmjaaGreatDoor.QEnc

/- The decimal of the slow road: its memory; trim. -/
namespace Go.Proofs.YtlkbhmmelejmjaaGreatDoor.FltDec
open Go.RowKit Go.Proofs.YtlkbhmmelejmjaaGreatDoorW.PrintWords Go.Proofs.YtlkbhmmelejmjaaGreatDoor.NumKnown Go.Proofs.YtlkbhmmelejmjaaGreatDoor.NumPure
set_option linter.unusedVariables false
set_option linter.unusedSimpArgs false

/-- A decimal at block p: digits, their number, the point, the sign, and whether digits were lost. -/
structure Dec (w : World) (p : Nat) (f : Nat → Int) (nd dp : Int) (ng tr : Bool) : Prop where
  nd : w.cell? ⟨p, 800, none⟩ = some (.int .i64 nd)
  dp : w.cell? ⟨p, 801, none⟩ = some (.int .i64 dp)
  ng : w.cell? ⟨p, 802, none⟩ = some (.bool ng)
  tr : w.cell? ⟨p, 803, none⟩ = some (.bool tr)
  dig : ∀ i, i < 800 → w.cell? ⟨p, i, none⟩ = some (.int .u8 (f i))
  fz : ∀ o, w.frozen? ⟨p, o, none⟩ = false

section
variable {w : World} {p : Nat} {f : Nat → Int} {nd dp : Int} {ng tr : Bool}
theorem Dec.same (h : Dec w p f nd dp ng tr) {o : Nat} {u : Value} (hu : w.cell? ⟨p, o, none⟩ = some u) (v : Value) : (w.setCell ⟨p, o, none⟩ v).cell? ⟨p, o, none⟩ = some v := World.cell?_setCell_same _ _ _ hu
theorem other (w : World) {p o q : Nat} (h : o ≠ q) (v : Value) : (w.setCell ⟨p, o, none⟩ v).cell? ⟨p, q, none⟩ = w.cell? ⟨p, q, none⟩ := World.cell?_setCell_other _ _ _ _ (by simpa only [ne_eq, Addr.mk.injEq, true_and, and_true] using h)
theorem Dec.drewN (h : Dec w p f nd dp ng tr) (n : Nat) : Dec (w.drewN n) p f nd dp ng tr := ⟨h.nd, h.dp, h.ng, h.tr, h.dig, h.fz⟩
theorem Dec.drew (h : Dec w p f nd dp ng tr) : Dec w.drew p f nd dp ng tr := ⟨h.nd, h.dp, h.ng, h.tr, h.dig, h.fz⟩
theorem Dec.setNd (h : Dec w p f nd dp ng tr) (x : Int) : Dec (w.setCell ⟨p, 800, none⟩ (.int .i64 x)) p f x dp ng tr :=
  ⟨h.same h.nd _, (other w (by omega) _).trans h.dp, (other w (by omega) _).trans h.ng, (other w (by omega) _).trans h.tr, fun i hi => (other w (by omega) _).trans (h.dig i hi), fun o => by rw [World.frozen?_setCell]; exact h.fz o⟩
theorem Dec.setDp (h : Dec w p f nd dp ng tr) (x : Int) : Dec (w.setCell ⟨p, 801, none⟩ (.int .i64 x)) p f nd x ng tr :=
  ⟨(other w (by omega) _).trans h.nd, h.same h.dp _, (other w (by omega) _).trans h.ng, (other w (by omega) _).trans h.tr, fun i hi => (other w (by omega) _).trans (h.dig i hi), fun o => by rw [World.frozen?_setCell]; exact h.fz o⟩
theorem Dec.setNg (h : Dec w p f nd dp ng tr) (x : Bool) : Dec (w.setCell ⟨p, 802, none⟩ (.bool x)) p f nd dp x tr :=
  ⟨(other w (by omega) _).trans h.nd, (other w (by omega) _).trans h.dp, h.same h.ng _, (other w (by omega) _).trans h.tr, fun i hi => (other w (by omega) _).trans (h.dig i hi), fun o => by rw [World.frozen?_setCell]; exact h.fz o⟩
theorem Dec.setTr (h : Dec w p f nd dp ng tr) (x : Bool) : Dec (w.setCell ⟨p, 803, none⟩ (.bool x)) p f nd dp ng x :=
  ⟨(other w (by omega) _).trans h.nd, (other w (by omega) _).trans h.dp, (other w (by omega) _).trans h.ng, h.same h.tr _, fun i hi => (other w (by omega) _).trans (h.dig i hi), fun o => by rw [World.frozen?_setCell]; exact h.fz o⟩
theorem _root_.Go.Below.drewN {B : Nat} {a w : World} (h : Below B a w) (n : Nat) : Below B a (w.drewN n) := ⟨h.os, h.tape, h.output, h.size, h.block⟩
def upd (f : Nat → Int) (i : Nat) (v : Int) : Nat → Int := fun j => if j = i then v else f j
theorem Dec.setD (h : Dec w p f nd dp ng tr) (i : Nat) (hi : i < 800) (x : Int) : Dec (w.setCell ⟨p, i, none⟩ (.int .u8 x)) p (upd f i x) nd dp ng tr :=
  ⟨(other w (by omega) _).trans h.nd, (other w (by omega) _).trans h.dp, (other w (by omega) _).trans h.ng, (other w (by omega) _).trans h.tr, fun j hj => by
    unfold upd
    by_cases e : j = i
    · rw [if_pos e, e]; exact h.same (h.dig i hi) _
    · rw [if_neg e]; exact (other w (fun q => e q.symm) _).trans (h.dig j hj), fun o => by rw [World.frozen?_setCell]; exact h.fz o⟩
theorem Dec.of_below {w' : World} (h : Dec w p f nd dp ng tr) {B : Nat} (hb : Below B w w') (hp : p < B) : Dec w' p f nd dp ng tr :=
  ⟨(hb.cell hp).trans h.nd, (hb.cell hp).trans h.dp, (hb.cell hp).trans h.ng, (hb.cell hp).trans h.tr, fun i hi => (hb.cell hp).trans (h.dig i hi), fun o => (hb.frozen hp).trans (h.fz o)⟩
theorem Dec.nd_eq (h : Dec w p f nd dp ng tr) {nd' dp' : Int} {g : Nat → Int} {ng' tr' : Bool} (k : Dec w p g nd' dp' ng' tr') : nd = nd' := by
  have := h.nd.symm.trans k.nd
  injection this with e; injection e
end

def cut (f : Nat → Int) : Nat → Nat
  | 0 => 0
  | n + 1 => if f n = 48 then cut f n else n + 1
def trimDp (c : Nat) (dp : Int) : Int := if c = 0 then 0 else dp
def Trim (p : Nat) (f : Nat → Int) (n : Nat) (dp : Int) (ng tr : Bool) (w : World) (e : Ending) (w' : World) : Prop := e = .returned (.tuple #[]) ∧ Dec w' p f (cut f n : Nat) (trimDp (cut f n) dp) ng tr ∧ Below p w w'
def ndOf (w : World) (p : Nat) : Nat := match w.cell? ⟨p, 800, none⟩ with | some v => (intOf v).toNat | none => 0
theorem ndOf_eq {w : World} {p : Nat} {f : Nat → Int} {nd dp : Int} {ng tr : Bool} (h : Dec w p f nd dp ng tr) : ndOf w p = nd.toNat := by
  unfold ndOf; rw [h.nd]; rfl

set_option maxHeartbeats 4000000 in
set_option maxRecDepth 100000 in
theorem trim_walk (p : Nat) (f : Nat → Int) (n : Nat) (dp : Int) (ng tr : Bool) (hn : n ≤ 800) (w : World) (h : Dec w p f n dp ng tr) : Calls Tryz.prog 163 #[.pointer (some ⟨p, 0, none⟩)] w (Trim p f n dp ng tr w) := by
  have H := Aside0.mk h
  clear h
  go_enter Tryz.func163, Tryz.ntmps163
  go_wp2_with fail
  go_loopw [] (fun wr => ∃ m : Nat, m ≤ n ∧ Aside0 (cut f m = cut f n) ∧ Aside0 (Dec wr p f m dp ng tr ∧ Below p w wr)) (fun wr => ndOf wr p)
  case atStart => exact ⟨n, Nat.le_refl _, ⟨rfl⟩, ⟨H.out, Below.refl _ _⟩⟩
  case round =>
    obtain ⟨m, hm, hcut, HD⟩ := hrel
    have hnd := HD.out.1.nd
    have hdp := HD.out.1.dp
    have hfz := HD.out.1.fz 800
    have hfz1 := HD.out.1.fz 801
    by_cases he : m = 0
    · subst he
      go_wp2_with fail
      go_quiet (fail)
      go_wp2_with fail
      go_end0
      refine ⟨rfl, ?_, (Below.drewN HD.out.2 nq).setCell (Nat.le_refl _) _⟩
      rw [← hcut.out]
      exact (HD.out.1.drewN nq).setDp 0
    · have hk := HD.out.1.dig (m - 1) (by omega)
      have hw1 : wrap64 ((m : Int) - 1) = ((m - 1 : Nat) : Int) := by unfold wrap64; omega
      have g1 : 0 < m := by omega
      have g2 : m - 1 < 800 := by omega
      by_cases hf : f (m - 1) = 48
      · rw [hf] at hk
        have HF := Aside0.mk hf
        go_wp2_with fail
        go_quiet (fail)
        go_wp2_with fail
        go_roundw
        case rel =>
          refine ⟨m - 1, by omega, ⟨?_⟩, ⟨?_, (Below.drewN HD.out.2 nq).setCell (Nat.le_refl _) _⟩⟩
          · rw [← hcut.out]
            obtain ⟨m, rfl⟩ : ∃ q, m = q + 1 := ⟨m - 1, by omega⟩
            conv => rhs; unfold cut
            rw [if_pos (by simpa using HF.out)]
            rfl
          · have := (HD.out.1.drewN nq).setNd ((m : Int) - 1)
            rwa [show ((m - 1 : Nat) : Int) = (m : Int) - 1 from by omega]
        case measure =>
          rw [ndOf_eq ((HD.out.1.drewN nq).setNd _), ndOf_eq HD.out.1]
          omega
      · have hf' : (f (m - 1) == 48) = false := beq_eq_false_iff_ne.mpr hf
        have HF := Aside0.mk hf
        clear hf
        go_wp2_with fail
        go_quiet (fail)
        go_wp2_with fail
        go_end0
        have hc : cut f m = m := by
          obtain ⟨m, rfl⟩ : ∃ q, m = q + 1 := ⟨m - 1, by omega⟩
          unfold cut
          rw [if_neg (by simpa using HF.out)]
        refine ⟨rfl, ?_, Below.drewN HD.out.2 nq⟩
        rw [← hcut.out, hc]
        unfold trimDp
        rw [if_neg he]
        exact HD.out.1.drewN nq
end Go.Proofs.YtlkbhmmelejmjaaGreatDoor.FltDec

/- The decimal of the slow road: its digits as a number; what is plain. -/
namespace Go.Proofs.YtlkbhmmelejmjaaGreatDoor.FltPure
open Go.RowKit Go.Proofs.YtlkbhmmelejmjaaGreatDoorW.PrintWords Go.Proofs.YtlkbhmmelejmjaaGreatDoor.NumKnown Go.Proofs.YtlkbhmmelejmjaaGreatDoor.NumPure Go.Proofs.YtlkbhmmelejmjaaGreatDoor.FltDec
set_option linter.unusedVariables false
set_option linter.unusedSimpArgs false

/-- A digit, and the number that the first n digits are. -/
def dv (F : Nat → Int) (i : Nat) : Nat := (F i - 48).toNat
def val (F : Nat → Int) : Nat → Nat
  | 0 => 0
  | n + 1 => 10 * val F n + dv F n
def good (F : Nat → Int) (n : Nat) : Prop := ∀ i, i < n → 48 ≤ F i ∧ F i ≤ 57
theorem good.mono {F : Nat → Int} {n m : Nat} (h : good F n) (hm : m ≤ n) : good F m := fun i hi => h i (by omega)
theorem good.dv {F : Nat → Int} {n i : Nat} (h : good F n) (hi : i < n) : dv F i ≤ 9 := by have := h i hi; unfold FltPure.dv; omega
theorem good.dv_eq {F : Nat → Int} {n i : Nat} (h : good F n) (hi : i < n) : F i = 48 + (FltPure.dv F i : Int) := by have := h i hi; unfold FltPure.dv; omega
theorem val_lt {F : Nat → Int} : ∀ {n : Nat}, good F n → val F n < 10 ^ n
  | 0, _ => by simp [val]
  | n + 1, h => by
    have h1 := val_lt (h.mono (Nat.le_succ n))
    have h2 := h.dv (Nat.lt_succ_self n)
    rw [Nat.pow_succ]
    simp only [val]
    omega
theorem val_digit {F : Nat → Int} : ∀ {n : Nat}, good F n → ∀ t, t < n → val F n / 10 ^ t % 10 = dv F (n - 1 - t)
  | 0, _, t, ht => absurd ht (by omega)
  | n + 1, h, 0, ht => by
    have h2 := h.dv (Nat.lt_succ_self n)
    simp only [val, Nat.pow_zero, Nat.div_one, Nat.add_sub_cancel, Nat.sub_zero]
    omega
  | n + 1, h, t + 1, ht => by
    have h2 := h.dv (Nat.lt_succ_self n)
    have ih := val_digit (h.mono (Nat.le_succ n)) t (by omega)
    have e1 : val F (n + 1) / 10 ^ (t + 1) = val F n / 10 ^ t := by
      rw [Nat.pow_succ, Nat.mul_comm (10 ^ t) 10, ← Nat.div_div_eq_div_mul]
      congr 1
      simp only [val]
      omega
    rw [e1, ih]
    congr 1
    omega

/-- The carry of the walk to the left, behind t digits. -/
def carry (M k t : Nat) : Nat := M % 10 ^ t * 2 ^ k / 10 ^ t
theorem carry_zero (M k : Nat) : carry M k 0 = 0 := by simp [carry, Nat.mod_one]
theorem mod_succ (M t : Nat) : M % 10 ^ (t + 1) = M % 10 ^ t + 10 ^ t * (M / 10 ^ t % 10) := by
  rw [Nat.pow_succ]
  exact Nat.mod_mul
theorem carry_succ (M k t : Nat) : carry M k (t + 1) = (carry M k t + (M / 10 ^ t % 10) * 2 ^ k) / 10 := by
  unfold carry
  rw [mod_succ, Nat.add_mul, Nat.pow_succ, ← Nat.div_div_eq_div_mul]
  congr 1
  rw [Nat.mul_assoc, Nat.add_mul_div_left _ _ (Nat.pow_pos (by omega))]
theorem carry_digit (M k t : Nat) : (carry M k t + (M / 10 ^ t % 10) * 2 ^ k) % 10 = M * 2 ^ k / 10 ^ t % 10 := by
  have e : M = M % 10 ^ t + 10 ^ t * (M / 10 ^ t) := (Nat.mod_add_div M (10 ^ t)).symm
  have e2 : M * 2 ^ k / 10 ^ t = carry M k t + (M / 10 ^ t) * 2 ^ k := by
    conv => lhs; rw [e, Nat.add_mul, Nat.mul_assoc, Nat.add_mul_div_left _ _ (Nat.pow_pos (by omega))]
    rfl
  rw [e2]
  have e3 : M / 10 ^ t = M / 10 ^ t % 10 + 10 * (M / 10 ^ t / 10) := (Nat.mod_add_div _ _).symm
  generalize hq : M / 10 ^ t / 10 = q at e3
  generalize hr : M / 10 ^ t % 10 = r at e3 ⊢
  rw [e3, Nat.add_mul, Nat.mul_assoc, ← Nat.add_assoc, Nat.add_mul_mod_self_left]
theorem carry_end {M k n : Nat} (h : M < 10 ^ n) : carry M k n = M * 2 ^ k / 10 ^ n := by
  unfold carry; rw [Nat.mod_eq_of_lt h]
theorem carry_lt (M k t : Nat) : carry M k t < 2 ^ k := by
  unfold carry
  rw [Nat.div_lt_iff_lt_mul (Nat.pow_pos (by omega)), Nat.mul_comm]
  exact Nat.mul_lt_mul_of_pos_left (Nat.mod_lt _ (Nat.pow_pos (by omega))) (Nat.pow_pos (by omega))

/-- The digits of a number of N digits, and whether one behind the first 800 is none of 0. -/
def dig (N X : Nat) (j : Nat) : Int := 48 + ((X / 10 ^ (N - 1 - j) % 10 : Nat) : Int)
def lost (N X : Nat) : Nat → Bool
  | 0 => false
  | t + 1 => lost N X t || (decide (800 ≤ N - 1 - t) && decide (X / 10 ^ t % 10 ≠ 0))
theorem lost_succ (N X t : Nat) : lost N X (t + 1) = (lost N X t || (decide (800 ≤ N - 1 - t) && decide (X / 10 ^ t % 10 ≠ 0))) := rfl
theorem dig_good (N X n : Nat) : good (dig N X) n := fun i _ => by unfold dig; omega

theorem cut_le (F : Nat → Int) : ∀ n, cut F n ≤ n
  | 0 => Nat.le_refl _
  | n + 1 => by unfold cut; split; exact Nat.le_trans (cut_le F n) (Nat.le_succ n); exact Nat.le_refl _
theorem cut_congr {F G : Nat → Int} : ∀ {n : Nat}, (∀ i, i < n → F i = G i) → cut F n = cut G n
  | 0, _ => rfl
  | n + 1, h => by
    unfold cut
    rw [h n (by omega), cut_congr (n := n) (fun i hi => h i (by omega))]
theorem cut_pos {F : Nat → Int} (h0 : F 0 ≠ 48) : ∀ {n : Nat}, 0 < n → 0 < cut F n
  | n + 1, _ => by
    unfold cut
    split
    · cases n with
      | zero => contradiction
      | succ n => exact cut_pos h0 (by omega)
    · omega

/-- The number that the first r digits are, with zeros behind the last. -/
def pv (F : Nat → Int) (nd r : Nat) : Nat := if r ≤ nd then val F r else val F nd * 10 ^ (r - nd)
theorem pv_zero (F : Nat → Int) (nd : Nat) : pv F nd 0 = 0 := by simp [pv, val]
theorem pv_lt {F : Nat → Int} {nd r : Nat} (h : r < nd) : pv F nd (r + 1) = 10 * pv F nd r + dv F r := by
  unfold pv
  rw [if_pos (by omega), if_pos (by omega)]
  rfl
theorem pv_ge {F : Nat → Int} {nd r : Nat} (h : nd ≤ r) : pv F nd (r + 1) = 10 * pv F nd r := by
  unfold pv
  rw [if_neg (by omega)]
  by_cases e : r = nd
  · subst e
    rw [if_pos (Nat.le_refl _), show r + 1 - r = 1 from by omega]
    omega
  · rw [if_neg (by omega), show r + 1 - nd = (r - nd) + 1 from by omega, Nat.pow_succ]
    rw [← Nat.mul_assoc, Nat.mul_comm]
/-- What is left of it in the walk to the right, and the digit that is put down. -/
def rn (F : Nat → Int) (nd k r : Nat) : Nat := pv F nd r % (2 ^ k * 10)
def rdig (F : Nat → Int) (nd k r0 : Nat) (j : Nat) : Int := 48 + ((pv F nd (r0 + j) / 2 ^ k % 10 : Nat) : Int)
theorem rn_div (F : Nat → Int) (nd k r : Nat) : rn F nd k r / 2 ^ k = pv F nd r / 2 ^ k % 10 := Nat.mod_mul_right_div_self _ _ _
theorem rn_mod (F : Nat → Int) (nd k r : Nat) : rn F nd k r % 2 ^ k = pv F nd r % 2 ^ k := Nat.mod_mul_right_mod _ _ _
theorem rn_lt (F : Nat → Int) (nd k r : Nat) : rn F nd k r < 2 ^ k * 10 := Nat.mod_lt _ (Nat.mul_pos (Nat.pow_pos (by omega)) (by omega))
theorem rn_step (P A c : Nat) (hA : 0 < A) (hc : c ≤ 9) : (10 * P + c) % (A * 10) = P % A * 10 + c := by
  have e : P = A * (P / A) + P % A := (Nat.div_add_mod P A).symm
  have hlt := Nat.mod_lt P hA
  have e2 : 10 * P + c = (P % A * 10 + c) + (A * 10) * (P / A) := by
    conv => lhs; rw [e]
    rw [Nat.mul_add, ← Nat.mul_assoc, Nat.mul_comm 10 A]
    omega
  rw [e2, Nat.add_mul_mod_self_left, Nat.mod_eq_of_lt (by omega)]
theorem rn_succ_lt {F : Nat → Int} {nd k r : Nat} (hg : good F nd) (h : r < nd) : rn F nd k (r + 1) = rn F nd k r % 2 ^ k * 10 + dv F r := by
  rw [rn_mod]
  unfold rn
  rw [pv_lt h, rn_step _ _ _ (Nat.pow_pos (by omega)) (hg.dv h)]
theorem rn_succ_ge {F : Nat → Int} {nd k r : Nat} (h : nd ≤ r) : rn F nd k (r + 1) = rn F nd k r % 2 ^ k * 10 := by
  rw [rn_mod]
  unfold rn
  rw [pv_ge h]
  exact rn_step _ _ 0 (Nat.pow_pos (by omega)) (by omega)
def lostR (F : Nat → Int) (nd k r0 : Nat) : Nat → Bool
  | 0 => false
  | j + 1 => lostR F nd k r0 j || (decide (800 ≤ j) && decide (rn F nd k (r0 + j) / 2 ^ k ≠ 0))
theorem lostR_succ (F : Nat → Int) (nd k r0 j : Nat) : lostR F nd k r0 (j + 1) = (lostR F nd k r0 j || (decide (800 ≤ j) && decide (rn F nd k (r0 + j) / 2 ^ k ≠ 0))) := rfl
theorem lostR_low (F : Nat → Int) (nd k r0 : Nat) : ∀ j, j ≤ 800 → lostR F nd k r0 j = false
  | 0, _ => rfl
  | j + 1, h => by rw [lostR_succ, lostR_low F nd k r0 j (by omega), show decide (800 ≤ j) = false from decide_eq_false (by omega)]; rfl

/-- A decimal whose first digits are F's. -/
def DE (w : World) (p : Nat) (F : Nat → Int) (n : Nat) (dp : Int) (ng tr : Bool) : Prop := ∃ g, Dec w p g n dp ng tr ∧ ∀ j, j < n → g j = F j
end Go.Proofs.YtlkbhmmelejmjaaGreatDoor.FltPure
