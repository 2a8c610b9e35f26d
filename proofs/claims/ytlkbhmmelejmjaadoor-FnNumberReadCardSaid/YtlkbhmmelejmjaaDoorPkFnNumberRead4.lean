/- Parts of the proof of FnNumberRead, one behind the other: FltKnown, FltFast, FltShift, FltBoth, FltRound, FltBitsP, FltScope. Each part says ahead of itself what it proves. -/
import Derived.Test.YtlkbhmmelejmjaaDoorPkFnNumberRead1
import Derived.Test.YtlkbhmmelejmjaaDoorPkFnNumberRead2
import Derived.Laws.Externs
import Derived.ScopeJumps

/- functions as print.sh prints them, cut out of its texts. -/
namespace Go.Proofs.YtlkbhmmelejmjaaDoor.FltKnown
open Go.RowKit Go.Proofs.YtlkbhmmelejmjaaDoorW.PrintWords Go.Proofs.YtlkbhmmelejmjaaDoorW.PrintLast Go.Proofs.YtlkbhmmelejmjaaDoorW.PrintMore Go.Proofs.YtlkbhmmelejmjaaDoor.Base0
attribute [local go_sem] max2_int min2_int max_two min_two max_three min_three max_four min_four   -- for this text's walks alone
set_option linter.unusedVariables false
set_option linter.unusedSimpArgs false

-- NOT PRINTED: function 53 (strconv_readFloat)

-- NOT PRINTED: function 56 (strconv_float32frombits)

-- NOT PRINTED: function 54 (strconv_atofHex)

/-! ### strconv_log2Pow10: function 70 -/
def strconv_log2Pow10.f (a0 : Int) : Option (Int) := some ((wrap64 (a0 * 108853)) / 32768)
set_option maxHeartbeats 8000000 in
set_option maxRecDepth 100000 in
theorem strconv_log2Pow10.calls (a0 : Int) (r : Int) (w : World) (h : strconv_log2Pow10.f a0 = some r) :
    Calls Tryd.prog 70 #[.int .i64 a0] w fun e w' => e = .returned (.int .i64 r) ∧ Drawn0 w w' := by
  have H : (some ((wrap64 (a0 * 108853)) / 32768)) = some r := h
  clear h
  obtain rfl := Option.some.inj H
  go_enter Tryd.func70, Tryd.ntmps70
  go_wp2
  go_ret
  exact ⟨by first | rfl | (simp; done) | (simp [*]; done), by repeat (first | exact Drawn0.refl _ | apply Drawn0.step)⟩

-- NOT PRINTED: function 71 (strconv_prescale)

/-! ### strconv_bool2_uint64: function 61 -/
def strconv_bool2_uint64.f (a0 : Bool) : Option (Int) := if a0 = true then (some 1) else (some 0)
set_option maxHeartbeats 8000000 in
set_option maxRecDepth 100000 in
theorem strconv_bool2_uint64.calls (a0 : Bool) (r : Int) (w : World) (h : strconv_bool2_uint64.f a0 = some r) :
    Calls Tryd.prog 61 #[.bool a0] w fun e w' => e = .returned (.int .u64 r) ∧ Drawn0 w w' := by
  have H : (if a0 = true then (some 1) else (some 0)) = some r := h
  clear h
  by_cases c2 : a0 = true
  · subst c2
    have H1 : (some 1) = some r := by rw [if_pos rfl] at H; exact H
    clear H
    have H := H1
    clear H1
    obtain rfl := Option.some.inj H
    go_enter Tryd.func61, Tryd.ntmps61
    go_wp2
    go_ret
    exact ⟨by first | rfl | (simp; done) | (simp [*]; done), by repeat (first | exact Drawn0.refl _ | apply Drawn0.step)⟩
  · replace c2 := Bool.eq_false_iff.mpr c2
    subst c2
    have H1 : (some 0) = some r := by rw [if_neg (show ¬ (false = true) by decide)] at H; exact H
    clear H
    have H := H1
    clear H1
    obtain rfl := Option.some.inj H
    go_enter Tryd.func61, Tryd.ntmps61
    go_wp2
    go_ret
    exact ⟨by first | rfl | (simp; done) | (simp [*]; done), by repeat (first | exact Drawn0.refl _ | apply Drawn0.step)⟩

/-! ### bits_Mul64: function 81 -/
def bits_Mul64.f (a0 : Int) (a1 : Int) : Option (Int × Int) := some (IntKind.u64.wrap ((IntKind.u64.wrap ((IntKind.u64.wrap ((a0 / 4294967296) * (a1 / 4294967296))) + ((IntKind.u64.wrap ((IntKind.u64.wrap ((a0 / 4294967296) * (Go.bits .and .u64 a1 4294967295))) + ((IntKind.u64.wrap ((Go.bits .and .u64 a0 4294967295) * (Go.bits .and .u64 a1 4294967295))) / 4294967296))) / 4294967296))) + ((IntKind.u64.wrap ((Go.bits .and .u64 (IntKind.u64.wrap ((IntKind.u64.wrap ((a0 / 4294967296) * (Go.bits .and .u64 a1 4294967295))) + ((IntKind.u64.wrap ((Go.bits .and .u64 a0 4294967295) * (Go.bits .and .u64 a1 4294967295))) / 4294967296))) 4294967295) + (IntKind.u64.wrap ((Go.bits .and .u64 a0 4294967295) * (a1 / 4294967296))))) / 4294967296)), IntKind.u64.wrap (a0 * a1))
set_option maxHeartbeats 8000000 in
set_option maxRecDepth 100000 in
theorem bits_Mul64.calls (a0 : Int) (a1 : Int) (r1 : Int) (r2 : Int) (w : World) (h : bits_Mul64.f a0 a1 = some (r1, r2)) :
    Calls Tryd.prog 81 #[.int .u64 a0, .int .u64 a1] w fun e w' => e = .returned (.tuple #[.int .u64 r1, .int .u64 r2]) ∧ Drawn0 w w' := by
  have H : (some (IntKind.u64.wrap ((IntKind.u64.wrap ((IntKind.u64.wrap ((a0 / 4294967296) * (a1 / 4294967296))) + ((IntKind.u64.wrap ((IntKind.u64.wrap ((a0 / 4294967296) * (Go.bits .and .u64 a1 4294967295))) + ((IntKind.u64.wrap ((Go.bits .and .u64 a0 4294967295) * (Go.bits .and .u64 a1 4294967295))) / 4294967296))) / 4294967296))) + ((IntKind.u64.wrap ((Go.bits .and .u64 (IntKind.u64.wrap ((IntKind.u64.wrap ((a0 / 4294967296) * (Go.bits .and .u64 a1 4294967295))) + ((IntKind.u64.wrap ((Go.bits .and .u64 a0 4294967295) * (Go.bits .and .u64 a1 4294967295))) / 4294967296))) 4294967295) + (IntKind.u64.wrap ((Go.bits .and .u64 a0 4294967295) * (a1 / 4294967296))))) / 4294967296)), IntKind.u64.wrap (a0 * a1))) = some (r1, r2) := h
  clear h
  simp only [Option.some.injEq, Prod.mk.injEq] at H
  obtain ⟨rfl, rfl⟩ := H
  go_enter Tryd.func81, Tryd.ntmps81
  go_wp2
  go_ret2
  exact ⟨by first | rfl | (simp; done) | (simp [*]; done), by repeat (first | exact Drawn0.refl _ | apply Drawn0.step)⟩

/-- A state of type 113 at block g of W; what its slices lead to came in by w0. -/
def IsS113 (w0 W : World) (g : Nat) (f0 : Int) (f1 : Int) (f2 : Int) : Prop := W.heap[g]? = some (.cells #[.int .u64 f0, .int .u64 f1, .int .i64 f2] 113 (0, 0)) ∧ w0.heap.size ≤ g
theorem IsS113.grown {w0 W : World} {g : Nat} {f0 : Int} {f1 : Int} {f2 : Int} {W1 : World} {row : Option Nat} (h : IsS113 w0 W g f0 f1 f2) (hw : W.grownBy W1 row) (hne : some g ≠ row) : IsS113 w0 W1 g f0 f1 f2 := by
  obtain ⟨hb, hg⟩ := h
  exact ⟨blk_grown hb hw hne, hg⟩
theorem IsS113.own_neN {w0 W : World} {g : Nat} {f0 : Int} {f1 : Int} {f2 : Int} {α : Type} {d : Kd α} {e : Nat} {base : Nat} {ok : Nat → Prop} {v : Value} {xs : List α} (h : IsS113 w0 W g f0 f1 f2) (ho : Kd.N d e W base ok v xs) (ht : e ≠ 113) : some g ≠ v.ownBlock := by
  obtain ⟨hb, hg⟩ := h
  exact Kd.N_ne ho hb ht
theorem IsS113.fresh {w0 W : World} {g : Nat} {f0 : Int} {f1 : Int} {f2 : Int} (h : IsS113 w0 W g f0 f1 f2) : ∀ k, W.heap.size ≤ k → k ≠ g := by
  obtain ⟨hb, hg⟩ := h
  exact Kd.freshB hb
theorem IsS113.kept {w0 W : World} {g : Nat} {f0 : Int} {f1 : Int} {f2 : Int} {W1 : World} {S : Nat → Prop} (h : IsS113 w0 W g f0 f1 f2) (hk : Kept W W1 S) (hne : ¬ S g) : IsS113 w0 W1 g f0 f1 f2 := by
  obtain ⟨hb, hg⟩ := h
  exact ⟨blk_kept hb hk hne, hg⟩
theorem IsS113.below {w0 W : World} {g : Nat} {f0 : Int} {f1 : Int} {f2 : Int} {W1 : World} (h : IsS113 w0 W g f0 f1 f2) (hw : Below W.heap.size W W1) : IsS113 w0 W1 g f0 f1 f2 := h.grown (grown_of_below hw none) (by simp)
theorem IsS113.alloc {w0 W : World} {g : Nat} {f0 : Int} {f1 : Int} {f2 : Int} (h : IsS113 w0 W g f0 f1 f2) (o : Obj) : IsS113 w0 (W.alloc o) g f0 f1 f2 := h.below (below_alloc (Below.refl _ _) o)
theorem IsS113.drewN {w0 W : World} {g : Nat} {f0 : Int} {f1 : Int} {f2 : Int} (h : IsS113 w0 W g f0 f1 f2) (m : Nat) : IsS113 w0 (W.drewN m) g f0 f1 f2 := h
theorem IsS113.drew {w0 W : World} {g : Nat} {f0 : Int} {f1 : Int} {f2 : Int} (h : IsS113 w0 W g f0 f1 f2) : IsS113 w0 W.drew g f0 f1 f2 := h
theorem IsS113.at_ {w0 W : World} {g : Nat} {f0 : Int} {f1 : Int} {f2 : Int} {w' : World} {m : Nat} (hq : W.drewN m = w') (h : IsS113 w0 W g f0 f1 f2) : IsS113 w0 w' g f0 f1 f2 := by subst hq; exact IsS113.drewN h m
theorem IsS113.apart {w0 W : World} {g : Nat} {f0 : Int} {f1 : Int} {f2 : Int} {α : Type} {d : Kd α} {e : Nat} {base : Nat} {ok : Nat → Prop} {v : Value} {xs : List α} (h : IsS113 w0 W g f0 f1 f2) (ho : d.R e W base ok v xs) (ht : ∀ q, q ∈ e :: d.E → q ≠ 113) : d.R e W base (fun k => ok k ∧ k ≠ g) v xs := by
  obtain ⟨hb, hg⟩ := h
  exact Kd.R_types ho hb ht
theorem IsS113.own_ne {w0 W : World} {g : Nat} {f0 : Int} {f1 : Int} {f2 : Int} {α : Type} {d : Kd α} {e : Nat} {base : Nat} {ok : Nat → Prop} {v : Value} {xs : List α} (h : IsS113 w0 W g f0 f1 f2) (ho : d.R e W base ok v xs) (ht : e ≠ 113) : some g ≠ v.ownBlock := by
  obtain ⟨hb, hg⟩ := h
  exact Kd.R_ne ho hb ht
theorem IsS113.apartQ {w0 W : World} {g : Nat} {f0 : Int} {f1 : Int} {f2 : Int} {α : Type} {d : Kd α} {e : Nat} {base : Nat} {ok : Nat → Prop} {v : Value} {xs : List α} (h : IsS113 w0 W g f0 f1 f2) (ho : d.Q e W base ok v xs) (ht : ∀ q, q ∈ e :: d.E → q ≠ 113) : d.Q e W base (fun k => ok k ∧ k ≠ g) v xs := by
  obtain ⟨hb, hg⟩ := h
  exact Kd.Q_types ho hb ht
theorem IsS113.own_neQ {w0 W : World} {g : Nat} {f0 : Int} {f1 : Int} {f2 : Int} {α : Type} {d : Kd α} {e : Nat} {base : Nat} {ok : Nat → Prop} {v : Value} {xs : List α} (h : IsS113 w0 W g f0 f1 f2) (ho : d.Q e W base ok v xs) (ht : e ≠ 113) : some g ≠ v.ownBlock := by
  obtain ⟨hb, hg⟩ := h
  exact Kd.Q_ne ho hb ht
theorem IsS113.apartS {w0 W : World} {g : Nat} {f0 : Int} {f1 : Int} {f2 : Int} {α : Type} {d : Kd α} {e : Nat} {base : Nat} {ok : Nat → Prop} {v : Value} {xs : List α} (h : IsS113 w0 W g f0 f1 f2) (ho : d.S e W base ok v xs) (ht : ∀ q, q ∈ e :: d.E → q ≠ 113) : d.S e W base (fun k => ok k ∧ k ≠ g) v xs := by
  obtain ⟨hb, hg⟩ := h
  exact Kd.S_types ho hb ht
theorem IsS113.own_neS {w0 W : World} {g : Nat} {f0 : Int} {f1 : Int} {f2 : Int} {α : Type} {d : Kd α} {e : Nat} {base : Nat} {ok : Nat → Prop} {v : Value} {xs : List α} (h : IsS113 w0 W g f0 f1 f2) (ho : d.S e W base ok v xs) (ht : e ≠ 113) : some g ≠ v.ownBlock := by
  obtain ⟨hb, hg⟩ := h
  exact Kd.S_ne ho hb ht
theorem IsS113.lt {w0 W : World} {g : Nat} {f0 : Int} {f1 : Int} {f2 : Int} (h : IsS113 w0 W g f0 f1 f2) : g < W.heap.size := by
  obtain ⟨hb, hg⟩ := h
  exact blk_lt hb
theorem IsS113.ge {w0 W : World} {g : Nat} {f0 : Int} {f1 : Int} {f2 : Int} (h : IsS113 w0 W g f0 f1 f2) : w0.heap.size ≤ g := by
  obtain ⟨hb, hg⟩ := h
  exact hg
theorem IsS113.ne_blk {w0 W : World} {g : Nat} {f0 : Int} {f1 : Int} {f2 : Int} {a : Nat} {cs : Array Value} {t : TypeId} {fr : Nat × Nat} (h : IsS113 w0 W g f0 f1 f2) (hb2 : W.heap[a]? = some (.cells cs t fr)) (ht : t ≠ 113) : g ≠ a := by
  obtain ⟨hb, hg⟩ := h
  rintro rfl
  rw [hb] at hb2
  injection hb2 with hb2
  injection hb2 with _ ht2
  exact ht ht2.symm
theorem IsS113.far {w0 W : World} {g : Nat} {f0 : Int} {f1 : Int} {f2 : Int} {p : Addr} (h : IsS113 w0 W g f0 f1 f2) (hne : g ≠ p.block) (u : Value) : IsS113 w0 (W.setCell p u) g f0 f1 f2 := by
  obtain ⟨hb, hg⟩ := h
  exact ⟨blk_far hb hne u, hg⟩
theorem cellS113_0 {W : World} {g : Nat} {f0 : Int} {f1 : Int} {f2 : Int} (h : W.heap[g]? = some (.cells #[.int .u64 f0, .int .u64 f1, .int .i64 f2] 113 (0, 0))) : W.cell? ⟨g, 0, none⟩ = some (.int .u64 f0) := (blk_cell h 0).trans rfl
theorem IsS113.set_0 {w0 W : World} {g : Nat} {f0 : Int} {f1 : Int} {f2 : Int} (h : IsS113 w0 W g f0 f1 f2) (x : Int) : IsS113 w0 (W.setCell ⟨g, 0, none⟩ (.int .u64 x)) g x f1 f2 := by
  obtain ⟨hb, hg⟩ := h
  exact ⟨by simpa using blk_set hb 0 (.int .u64 x), hg⟩
theorem cellS113_1 {W : World} {g : Nat} {f0 : Int} {f1 : Int} {f2 : Int} (h : W.heap[g]? = some (.cells #[.int .u64 f0, .int .u64 f1, .int .i64 f2] 113 (0, 0))) : W.cell? ⟨g, 1, none⟩ = some (.int .u64 f1) := (blk_cell h 1).trans rfl
theorem IsS113.set_1 {w0 W : World} {g : Nat} {f0 : Int} {f1 : Int} {f2 : Int} (h : IsS113 w0 W g f0 f1 f2) (x : Int) : IsS113 w0 (W.setCell ⟨g, 1, none⟩ (.int .u64 x)) g f0 x f2 := by
  obtain ⟨hb, hg⟩ := h
  exact ⟨by simpa using blk_set hb 1 (.int .u64 x), hg⟩
theorem cellS113_2 {W : World} {g : Nat} {f0 : Int} {f1 : Int} {f2 : Int} (h : W.heap[g]? = some (.cells #[.int .u64 f0, .int .u64 f1, .int .i64 f2] 113 (0, 0))) : W.cell? ⟨g, 2, none⟩ = some (.int .i64 f2) := (blk_cell h 2).trans rfl
theorem IsS113.set_2 {w0 W : World} {g : Nat} {f0 : Int} {f1 : Int} {f2 : Int} (h : IsS113 w0 W g f0 f1 f2) (x : Int) : IsS113 w0 (W.setCell ⟨g, 2, none⟩ (.int .i64 x)) g f0 f1 x := by
  obtain ⟨hb, hg⟩ := h
  exact ⟨by simpa using blk_set hb 2 (.int .i64 x), hg⟩
theorem IsS113.new (w0 W : World) (f0 : Int) (f1 : Int) (f2 : Int) (hB : Below w0.heap.size w0 W) : IsS113 w0 (W.alloc (.cells #[.int .u64 f0, .int .u64 f1, .int .i64 f2] 113)) W.heap.size f0 f1 f2 := ⟨by simpa using heap_alloc_new W _, hB.size⟩

/-! ### strconv_bool2_int: function 73 -/
def strconv_bool2_int.f (a0 : Bool) : Option (Int) := if a0 = true then (some 1) else (some 0)
set_option maxHeartbeats 8000000 in
set_option maxRecDepth 100000 in
theorem strconv_bool2_int.calls (a0 : Bool) (r : Int) (w : World) (h : strconv_bool2_int.f a0 = some r) :
    Calls Tryd.prog 73 #[.bool a0] w fun e w' => e = .returned (.int .i64 r) ∧ Drawn0 w w' := by
  have H : (if a0 = true then (some 1) else (some 0)) = some r := h
  clear h
  by_cases c2 : a0 = true
  · subst c2
    have H1 : (some 1) = some r := by rw [if_pos rfl] at H; exact H
    clear H
    have H := H1
    clear H1
    obtain rfl := Option.some.inj H
    go_enter Tryd.func73, Tryd.ntmps73
    go_wp2
    go_ret
    exact ⟨by first | rfl | (simp; done) | (simp [*]; done), by repeat (first | exact Drawn0.refl _ | apply Drawn0.step)⟩
  · replace c2 := Bool.eq_false_iff.mpr c2
    subst c2
    have H1 : (some 0) = some r := by rw [if_neg (show ¬ (false = true) by decide)] at H; exact H
    clear H
    have H := H1
    clear H1
    obtain rfl := Option.some.inj H
    go_enter Tryd.func73, Tryd.ntmps73
    go_wp2
    go_ret
    exact ⟨by first | rfl | (simp; done) | (simp [*]; done), by repeat (first | exact Drawn0.refl _ | apply Drawn0.step)⟩

/-! ### strconv_unmin: function 74 -/
def strconv_unmin.f (a0 : Int) : Option (Int) := some (IntKind.u64.wrap ((IntKind.u64.wrap (a0 * 4)) - 2))
set_option maxHeartbeats 8000000 in
set_option maxRecDepth 100000 in
theorem strconv_unmin.calls (a0 : Int) (r : Int) (w : World) (h : strconv_unmin.f a0 = some r) :
    Calls Tryd.prog 74 #[.int .u64 a0] w fun e w' => e = .returned (.int .u64 r) ∧ Drawn0 w w' := by
  have H : (some (IntKind.u64.wrap ((IntKind.u64.wrap (a0 * 4)) - 2))) = some r := h
  clear h
  obtain rfl := Option.some.inj H
  go_enter Tryd.func74, Tryd.ntmps74
  go_wp2
  go_ret
  exact ⟨by first | rfl | (simp; done) | (simp [*]; done), by repeat (first | exact Drawn0.refl _ | apply Drawn0.step)⟩

-- NOT PRINTED: function 75 (strconv_pack32)

/-! ### strconv_unrounded_round: function 76 -/
def strconv_unrounded_round.f (a0 : Int) : Option (Int) := some ((IntKind.u64.wrap ((IntKind.u64.wrap (a0 + 1)) + (Go.bits .and .u64 (a0 / 4) 1))) / 4)
set_option maxHeartbeats 8000000 in
set_option maxRecDepth 100000 in
theorem strconv_unrounded_round.calls (a0 : Int) (r : Int) (w : World) (h : strconv_unrounded_round.f a0 = some r) :
    Calls Tryd.prog 76 #[.int .u64 a0] w fun e w' => e = .returned (.int .u64 r) ∧ Drawn0 w w' := by
  have H : (some ((IntKind.u64.wrap ((IntKind.u64.wrap (a0 + 1)) + (Go.bits .and .u64 (a0 / 4) 1))) / 4)) = some r := h
  clear h
  obtain rfl := Option.some.inj H
  go_enter Tryd.func76, Tryd.ntmps76
  go_wp2
  go_ret
  exact ⟨by first | rfl | (simp; done) | (simp [*]; done), by repeat (first | exact Drawn0.refl _ | apply Drawn0.step)⟩

-- NOT PRINTED: function 58 (strconv_parseFloat32)

-- NOT PRINTED: function 59 (strconv_decimal_set)

end Go.Proofs.YtlkbhmmelejmjaaDoor.FltKnown

/- The fast road of floats, walked: Len64, prescale, uscale, pack64, parseFloat64. -/
namespace Go.Proofs.YtlkbhmmelejmjaaDoor.FltFast
open Go.RowKit Go.Proofs.YtlkbhmmelejmjaaDoorW.PrintWords Go.Proofs.YtlkbhmmelejmjaaDoor.FltKnown Go.Proofs.YtlkbhmmelejmjaaDoor.FltDec
set_option linter.unusedVariables false
set_option linter.unusedSimpArgs false

theorem fb_run (n : Int) (W : World) : (callFunc 62 #[.int .u64 n]).run Tryd.prog W = .ok (.value (.float .f64 n.toNat)) W := by
  rw [run_callFunc_extern (fn := Tryd.f62) (e := Extern.MathFloatBits.float64frombits) (by kernel_rfl) (by kernel_rfl) (by kernel_rfl) (by kernel_rfl) (by kernel_rfl)]
  rfl

/-- The error for what is too great (1), for what is no number (2). -/
def erV (b : Bool) : Value := if b then .iface 65 (.int .i64 1) else .nilIface
def Dr (v : Value) (w : World) (e : Ending) (w' : World) : Prop := e = .returned v ∧ ∃ n, w' = w.drewN n

/-- pack64: the float, and whether it is too great. -/
def pkO (m x : Int) : Bool := !decide (bits .and .u64 m 4503599627370496 = 0) && decide (972 ≤ x)
def pkV (m x : Int) : Nat := if bits .and .u64 m 4503599627370496 = 0 then m.toNat else if 972 ≤ x then (bits .or .u64 (bits .and .u64 m 9223372036854775808) 9218868437227405312).toNat else (bits .or .u64 (bits .andNot .u64 m 4503599627370496) (IntKind.u64.wrap (IntKind.u64.wrap (1075 + x) * 4503599627370496))).toNat
theorem pack_walk (m x : Int) (w : World) (hx0 : -100000 ≤ x) (hx1 : x ≤ 100000) : Calls Tryd.prog 79 #[.int .u64 m, .int .i64 x] w (Dr (.tuple #[.float .f64 (pkV m x), erV (pkO m x)]) w) := by
  have hfb := fb_run
  by_cases h : bits .and .u64 m 4503599627370496 = 0
  · have e1 : pkV m x = m.toNat := by unfold pkV; rw [if_pos h]
    have e2 : pkO m x = false := by unfold pkO; simp [h]
    rw [e1, e2]
    clear e1 e2
    go_enter Tryd.func79, Tryd.ntmps79
    go_wp2_with fail
    go_ret2
    exact ⟨rfl, 0, rfl⟩
  · have q : (bits .and .u64 m 4503599627370496 == 0) = false := beq_eq_false_iff_ne.mpr h
    by_cases h2 : 972 ≤ x
    · have e1 : pkV m x = (bits .or .u64 (bits .and .u64 m 9223372036854775808) 9218868437227405312).toNat := by unfold pkV; rw [if_neg h, if_pos h2]
      have e2 : pkO m x = true := by unfold pkO; simp [h, h2]
      rw [e1, e2]
      clear e1 e2
      go_enter Tryd.func79, Tryd.ntmps79
      go_wp2_with fail
      go_ret2
      exact ⟨rfl, 0, rfl⟩
    · have e1 : pkV m x = (bits .or .u64 (bits .andNot .u64 m 4503599627370496) (IntKind.u64.wrap (IntKind.u64.wrap (1075 + x) * 4503599627370496))).toNat := by unfold pkV; rw [if_neg h, if_neg h2]
      have e2 : pkO m x = false := by unfold pkO; simp [h2]
      rw [e1, e2]
      clear e1 e2
      go_enter Tryd.func79, Tryd.ntmps79
      go_wp2_with fail
      go_ret2
      exact ⟨rfl, 0, rfl⟩

/-- How many bits a byte has. -/
def t8 (i : Nat) : Nat := if i = 0 then 0 else Nat.log2 i + 1
theorem t8_le (i : Nat) (h : i < 256) : t8 i ≤ 8 := by
  have : ∀ j : Fin 256, t8 j.1 ≤ 8 := by decide +kernel
  exact this ⟨i, h⟩
set_option maxRecDepth 100000 in
theorem tab_at (i : Nat) (h : i < (⟨#[0, 1, 2, 2, 3, 3, 3, 3, 4, 4, 4, 4, 4, 4, 4, 4, 5, 5, 5, 5, 5, 5, 5, 5, 5, 5, 5, 5, 5, 5, 5, 5, 6, 6, 6, 6, 6, 6, 6, 6, 6, 6, 6, 6, 6, 6, 6, 6, 6, 6, 6, 6, 6, 6, 6, 6, 6, 6, 6, 6, 6, 6, 6, 6, 7, 7, 7, 7, 7, 7, 7, 7, 7, 7, 7, 7, 7, 7, 7, 7, 7, 7, 7, 7, 7, 7, 7, 7, 7, 7, 7, 7, 7, 7, 7, 7, 7, 7, 7, 7, 7, 7, 7, 7, 7, 7, 7, 7, 7, 7, 7, 7, 7, 7, 7, 7, 7, 7, 7, 7, 7, 7, 7, 7, 7, 7, 7, 7, 8, 8, 8, 8, 8, 8, 8, 8, 8, 8, 8, 8, 8, 8, 8, 8, 8, 8, 8, 8, 8, 8, 8, 8, 8, 8, 8, 8, 8, 8, 8, 8, 8, 8, 8, 8, 8, 8, 8, 8, 8, 8, 8, 8, 8, 8, 8, 8, 8, 8, 8, 8, 8, 8, 8, 8, 8, 8, 8, 8, 8, 8, 8, 8, 8, 8, 8, 8, 8, 8, 8, 8, 8, 8, 8, 8, 8, 8, 8, 8, 8, 8, 8, 8, 8, 8, 8, 8, 8, 8, 8, 8, 8, 8, 8, 8, 8, 8, 8, 8, 8, 8, 8, 8, 8, 8, 8, 8, 8, 8, 8, 8, 8, 8, 8, 8, 8, 8, 8, 8, 8, 8, 8, 8, 8, 8, 8, 8]⟩ : ByteArray).size) : ((⟨#[0, 1, 2, 2, 3, 3, 3, 3, 4, 4, 4, 4, 4, 4, 4, 4, 5, 5, 5, 5, 5, 5, 5, 5, 5, 5, 5, 5, 5, 5, 5, 5, 6, 6, 6, 6, 6, 6, 6, 6, 6, 6, 6, 6, 6, 6, 6, 6, 6, 6, 6, 6, 6, 6, 6, 6, 6, 6, 6, 6, 6, 6, 6, 6, 7, 7, 7, 7, 7, 7, 7, 7, 7, 7, 7, 7, 7, 7, 7, 7, 7, 7, 7, 7, 7, 7, 7, 7, 7, 7, 7, 7, 7, 7, 7, 7, 7, 7, 7, 7, 7, 7, 7, 7, 7, 7, 7, 7, 7, 7, 7, 7, 7, 7, 7, 7, 7, 7, 7, 7, 7, 7, 7, 7, 7, 7, 7, 7, 8, 8, 8, 8, 8, 8, 8, 8, 8, 8, 8, 8, 8, 8, 8, 8, 8, 8, 8, 8, 8, 8, 8, 8, 8, 8, 8, 8, 8, 8, 8, 8, 8, 8, 8, 8, 8, 8, 8, 8, 8, 8, 8, 8, 8, 8, 8, 8, 8, 8, 8, 8, 8, 8, 8, 8, 8, 8, 8, 8, 8, 8, 8, 8, 8, 8, 8, 8, 8, 8, 8, 8, 8, 8, 8, 8, 8, 8, 8, 8, 8, 8, 8, 8, 8, 8, 8, 8, 8, 8, 8, 8, 8, 8, 8, 8, 8, 8, 8, 8, 8, 8, 8, 8, 8, 8, 8, 8, 8, 8, 8, 8, 8, 8, 8, 8, 8, 8, 8, 8, 8, 8, 8, 8, 8, 8, 8, 8]⟩ : ByteArray)[i]'h).toNat = t8 i := by
  have : ∀ j : Fin 256, ((⟨#[0, 1, 2, 2, 3, 3, 3, 3, 4, 4, 4, 4, 4, 4, 4, 4, 5, 5, 5, 5, 5, 5, 5, 5, 5, 5, 5, 5, 5, 5, 5, 5, 6, 6, 6, 6, 6, 6, 6, 6, 6, 6, 6, 6, 6, 6, 6, 6, 6, 6, 6, 6, 6, 6, 6, 6, 6, 6, 6, 6, 6, 6, 6, 6, 7, 7, 7, 7, 7, 7, 7, 7, 7, 7, 7, 7, 7, 7, 7, 7, 7, 7, 7, 7, 7, 7, 7, 7, 7, 7, 7, 7, 7, 7, 7, 7, 7, 7, 7, 7, 7, 7, 7, 7, 7, 7, 7, 7, 7, 7, 7, 7, 7, 7, 7, 7, 7, 7, 7, 7, 7, 7, 7, 7, 7, 7, 7, 7, 8, 8, 8, 8, 8, 8, 8, 8, 8, 8, 8, 8, 8, 8, 8, 8, 8, 8, 8, 8, 8, 8, 8, 8, 8, 8, 8, 8, 8, 8, 8, 8, 8, 8, 8, 8, 8, 8, 8, 8, 8, 8, 8, 8, 8, 8, 8, 8, 8, 8, 8, 8, 8, 8, 8, 8, 8, 8, 8, 8, 8, 8, 8, 8, 8, 8, 8, 8, 8, 8, 8, 8, 8, 8, 8, 8, 8, 8, 8, 8, 8, 8, 8, 8, 8, 8, 8, 8, 8, 8, 8, 8, 8, 8, 8, 8, 8, 8, 8, 8, 8, 8, 8, 8, 8, 8, 8, 8, 8, 8, 8, 8, 8, 8, 8, 8, 8, 8, 8, 8, 8, 8, 8, 8, 8, 8, 8, 8]⟩ : ByteArray)[j.1]'(j.2)).toNat = t8 j.1 := by decide +kernel
  exact this ⟨i, h⟩
/-- The number of bits of a number of 64 bits. -/
def l8 (n x : Int) : Int := if 256 ≤ x then n + 8 + (t8 (x / 256).toNat : Nat) else n + (t8 x.toNat : Nat)
def l16 (n x : Int) : Int := if 65536 ≤ x then l8 (n + 16) (x / 65536) else l8 n x
def l64 (x : Int) : Int := if 4294967296 ≤ x then l16 32 (x / 4294967296) else l16 0 x
theorem l64_in (x : Int) (hx0 : 0 ≤ x) (hx1 : x < 18446744073709551616) : 0 ≤ l64 x ∧ l64 x ≤ 64 := by
  have key : ∀ n y : Int, 0 ≤ n → 0 ≤ y → y < 65536 → 0 ≤ l8 n y ∧ l8 n y ≤ n + 16 := by
    intro n y h0 h1 h2
    unfold l8
    split
    · have := t8_le (y / 256).toNat (by omega); omega
    · have := t8_le y.toNat (by omega); omega
  have key2 : ∀ n y : Int, 0 ≤ n → 0 ≤ y → y < 4294967296 → 0 ≤ l16 n y ∧ l16 n y ≤ n + 32 := by
    intro n y h0 h1 h2
    unfold l16
    split
    · have := key (n + 16) (y / 65536) (by omega) (by omega) (by omega); omega
    · have := key n y (by omega) (by omega) (by omega); omega
  unfold l64
  split
  · have := key2 32 (x / 4294967296) (by omega) (by omega) (by omega); omega
  · have := key2 0 x (by omega) (by omega) (by omega); omega

set_option maxRecDepth 100000 in
theorem len_walk (x : Int) (hx0 : 0 ≤ x) (hx1 : x < 18446744073709551616) (w : World) : Calls Tryd.prog 69 #[.int .u64 x] w (Dr (.int .i64 (l64 x)) w) := by
  have wr : ∀ (n : Int) (i : Nat), 0 ≤ n → n ≤ 64 → i < 256 → wrap64 (n + wrap64 ((t8 i : Nat) : Int)) = n + (t8 i : Nat) := fun n i h0 h1 h2 => by
    have := t8_le i h2
    unfold wrap64
    omega
  by_cases h : 4294967296 ≤ x
  · have e1 : l64 x = l16 32 (x / 4294967296) := by unfold l64; rw [if_pos h]
    by_cases h2 : 65536 ≤ x / 4294967296
    · have e2 : l16 32 (x / 4294967296) = l8 48 (x / 4294967296 / 65536) := by unfold l16; rw [if_pos h2]; rfl
      by_cases h3 : 256 ≤ x / 4294967296 / 65536
      · rw [e1, e2]
        unfold l8
        rw [if_pos h3]
        clear e1 e2
        replace wr := Aside0.mk wr
        go_enter Tryd.func69, Tryd.ntmps69
        go_wp2_with fail
        go_ret
        refine ⟨?_, 0, rfl⟩
        show Ending.returned (Value.int .i64 _) = _
        rw [tab_at]
        exact congrArg (fun z => Ending.returned (Value.int .i64 z)) ((wr.out _ _ (by omega) (by omega) (by omega)).trans (by omega))
      · rw [e1, e2]
        unfold l8
        rw [if_neg h3]
        clear e1 e2
        replace wr := Aside0.mk wr
        go_enter Tryd.func69, Tryd.ntmps69
        go_wp2_with fail
        go_ret
        refine ⟨?_, 0, rfl⟩
        show Ending.returned (Value.int .i64 _) = _
        rw [tab_at]
        exact congrArg (fun z => Ending.returned (Value.int .i64 z)) ((wr.out _ _ (by omega) (by omega) (by omega)).trans (by omega))
    · have e2 : l16 32 (x / 4294967296) = l8 32 (x / 4294967296) := by unfold l16; rw [if_neg h2]
      by_cases h3 : 256 ≤ x / 4294967296
      · rw [e1, e2]
        unfold l8
        rw [if_pos h3]
        clear e1 e2
        replace wr := Aside0.mk wr
        go_enter Tryd.func69, Tryd.ntmps69
        go_wp2_with fail
        go_ret
        refine ⟨?_, 0, rfl⟩
        show Ending.returned (Value.int .i64 _) = _
        rw [tab_at]
        exact congrArg (fun z => Ending.returned (Value.int .i64 z)) ((wr.out _ _ (by omega) (by omega) (by omega)).trans (by omega))
      · rw [e1, e2]
        unfold l8
        rw [if_neg h3]
        clear e1 e2
        replace wr := Aside0.mk wr
        go_enter Tryd.func69, Tryd.ntmps69
        go_wp2_with fail
        go_ret
        refine ⟨?_, 0, rfl⟩
        show Ending.returned (Value.int .i64 _) = _
        rw [tab_at]
        exact congrArg (fun z => Ending.returned (Value.int .i64 z)) ((wr.out _ _ (by omega) (by omega) (by omega)).trans (by omega))
  · have e1 : l64 x = l16 0 x := by unfold l64; rw [if_neg h]
    by_cases h2 : 65536 ≤ x
    · have e2 : l16 0 x = l8 16 (x / 65536) := by unfold l16; rw [if_pos h2]; rfl
      by_cases h3 : 256 ≤ x / 65536
      · rw [e1, e2]
        unfold l8
        rw [if_pos h3]
        clear e1 e2
        replace wr := Aside0.mk wr
        go_enter Tryd.func69, Tryd.ntmps69
        go_wp2_with fail
        go_ret
        refine ⟨?_, 0, rfl⟩
        show Ending.returned (Value.int .i64 _) = _
        rw [tab_at]
        exact congrArg (fun z => Ending.returned (Value.int .i64 z)) ((wr.out _ _ (by omega) (by omega) (by omega)).trans (by omega))
      · rw [e1, e2]
        unfold l8
        rw [if_neg h3]
        clear e1 e2
        replace wr := Aside0.mk wr
        go_enter Tryd.func69, Tryd.ntmps69
        go_wp2_with fail
        go_ret
        refine ⟨?_, 0, rfl⟩
        show Ending.returned (Value.int .i64 _) = _
        rw [tab_at]
        exact congrArg (fun z => Ending.returned (Value.int .i64 z)) ((wr.out _ _ (by omega) (by omega) (by omega)).trans (by omega))
    · have e2 : l16 0 x = l8 0 x := by unfold l16; rw [if_neg h2]
      by_cases h3 : 256 ≤ x
      · rw [e1, e2]
        unfold l8
        rw [if_pos h3]
        clear e1 e2
        replace wr := Aside0.mk wr
        go_enter Tryd.func69, Tryd.ntmps69
        go_wp2_with fail
        go_ret
        refine ⟨?_, 0, rfl⟩
        show Ending.returned (Value.int .i64 _) = _
        rw [tab_at]
        exact congrArg (fun z => Ending.returned (Value.int .i64 z)) ((wr.out _ _ (by omega) (by omega) (by omega)).trans (by omega))
      · rw [e1, e2]
        unfold l8
        rw [if_neg h3]
        clear e1 e2
        replace wr := Aside0.mk wr
        go_enter Tryd.func69, Tryd.ntmps69
        go_wp2_with fail
        go_ret
        refine ⟨?_, 0, rfl⟩
        show Ending.returned (Value.int .i64 _) = _
        rw [tab_at]
        have h9 := t8_le x.toNat (by omega)
        exact congrArg (fun z => Ending.returned (Value.int .i64 z)) (by unfold wrap64; omega)
end Go.Proofs.YtlkbhmmelejmjaaDoor.FltFast

/- The decimal of the slow road: the shifts, called. -/
namespace Go.Proofs.YtlkbhmmelejmjaaDoor.FltShift
open Go.RowKit Go.Proofs.YtlkbhmmelejmjaaDoorW.PrintWords Go.Proofs.YtlkbhmmelejmjaaDoor.NumKnown Go.Proofs.YtlkbhmmelejmjaaDoor.NumPure Go.Proofs.YtlkbhmmelejmjaaDoor.FltDec Go.Proofs.YtlkbhmmelejmjaaDoor.FltPure Go.Proofs.YtlkbhmmelejmjaaDoor.FltLeft Go.Proofs.YtlkbhmmelejmjaaDoor.FltRight Go.Proofs.YtlkbhmmelejmjaaDoor.FltLaw Go.Proofs.YtlkbhmmelejmjaaDoor.FltState
set_option linter.unusedVariables false
set_option linter.unusedSimpArgs false

/-- Behind a call the state is s' and what lies below the decimal is as it was. -/
def Shd (p : Nat) (ng : Bool) (s' : St) (w : World) (e : Ending) (w' : World) : Prop := e = .returned (.tuple #[]) ∧ s'.At p ng w' ∧ Below p w w'

theorem ls_walk (p k : Nat) (ng : Bool) (s : St) (hs : s.Good) (h1 : 1 ≤ k) (h2 : k ≤ 60) (hd0 : -1000000 ≤ s.dp) (hd1 : s.dp ≤ 1000000) (w : World) (ha : s.At p ng w) (ht : LTab w lcD lcT) : Calls Tryd.prog 82 #[.pointer (some ⟨p, 0, none⟩), .int .u64 k] w (Shd p ng (ls k s) w) := by
  obtain ⟨g, hD, hg⟩ := ha
  obtain ⟨l1, l2, l3, l4⟩ := le_law hs h1 h2
  have hv : val g s.n = val s.F s.n := val_congr hg
  have hT : (lcT k).data.toList = lcL k := by simp [lcT]
  have ho := lc_at k h1 h2
  unfold lcOk at ho
  simp only [Bool.and_eq_true, decide_eq_true_eq] at ho
  have hgood := ls_good hs h1 h2
  refine (left_walk p s.n (le k s) k g s.dp ng s.tr lcD lcT hs.most h2 l1 hd0 hd1 (good_congr hg hs.dig) ?_ ?_ (by rw [hv]; exact l3) (by rw [hv]; exact l4) w hD ht).mono ?_
  · have := ho.1.2
    show (lcL k).toArray.size ≤ 1000
    simpa using this
  · rw [hT, pl_congr hg]
    exact l2
  · rintro e w' ⟨rfl, g', hD', hg', hB⟩
    rw [hv] at hD' hg'
    refine ⟨rfl, ⟨g', ?_, fun j hj => hg' j (Nat.lt_of_lt_of_le hj (cut_le _ _))⟩, hB⟩
    have h1' := hgood.one
    unfold ls at h1'
    simp only [] at h1'
    unfold trimDp at hD'
    rw [show val s.F s.n * 2 ^ k = lX k s from rfl] at hD'
    rw [if_neg (by omega)] at hD'
    exact hD'

/-- The shift to the right. -/
def r0 (k : Nat) (s : St) : Nat := least (fun r => decide (2 ^ k ≤ pv s.F s.n r)) 100 0
def rJ (k : Nat) (s : St) : Nat := least (fun j => decide (rn s.F s.n k (r0 k s + j) = 0)) 2000 (s.n - r0 k s)
def rs (k : Nat) (s : St) : St := ⟨rdig s.F s.n k (r0 k s), cut (rdig s.F s.n k (r0 k s)) (min (rJ k s) 800), s.dp - ((r0 k s : Int) - 1), s.tr || lostR s.F s.n k (r0 k s) (rJ k s)⟩

theorem pv_low {s : St} (hs : s.Good) : ∀ r, 10 ^ r ≤ pv s.F s.n (r + 1)
  | 0 => by
    have h1 := hs.dig.dv_eq (i := 0) hs.one
    have h2 := hs.head
    rw [pv_lt hs.one, pv_zero]
    omega
  | r + 1 => by
    have ih := pv_low hs r
    rw [Nat.pow_succ]
    by_cases h : r + 1 < s.n
    · rw [pv_lt h]; omega
    · rw [pv_ge (by omega)]; omega
theorem r0_law {s : St} (hs : s.Good) {k : Nat} (h2 : k ≤ 60) : 1 ≤ r0 k s ∧ r0 k s ≤ 20 ∧ 2 ^ k ≤ pv s.F s.n (r0 k s) ∧ ∀ r, r < r0 k s → pv s.F s.n r < 2 ^ k := by
  have hk2 : 2 ^ k ≤ 1152921504606846976 := Nat.le_trans (Nat.pow_le_pow_right (by omega) h2) (by decide)
  have hkp : 0 < 2 ^ k := Nat.pow_pos (by omega)
  have h20 : 2 ^ k ≤ pv s.F s.n 20 := Nat.le_trans hk2 (Nat.le_trans (by decide) (pv_low hs 19))
  have a1 := least_is (fun r => decide (2 ^ k ≤ pv s.F s.n r)) 100 0 20 (by omega) (by omega) (by simpa using h20)
  have a2 := least_le (fun r => decide (2 ^ k ≤ pv s.F s.n r)) 100 0 20 (by omega) (by omega) (by simpa using h20)
  have a3 := fun r => least_not (fun r => decide (2 ^ k ≤ pv s.F s.n r)) 100 0 r
  have a1' : 2 ^ k ≤ pv s.F s.n (r0 k s) := of_decide_eq_true a1
  refine ⟨?_, a2, a1', fun r hr => ?_⟩
  · rcases Nat.eq_zero_or_pos (r0 k s) with h | h
    · rw [h, pv_zero] at a1'
      omega
    · exact h
  · have := a3 r (by omega) hr
    simpa using this
theorem r0_hi {s : St} (hs : s.Good) {k : Nat} (h2 : k ≤ 60) : pv s.F s.n (r0 k s) < 2 ^ k * 10 := by
  obtain ⟨a1, a2, a3, a4⟩ := r0_law hs h2
  obtain ⟨r, hr⟩ : ∃ r, r0 k s = r + 1 := ⟨r0 k s - 1, by omega⟩
  have h := a4 r (by omega)
  rw [hr]
  by_cases hrn : r < s.n
  · have := hs.dig.dv hrn
    rw [pv_lt hrn]
    omega
  · rw [pv_ge (by omega)]
    omega
theorem rJ_law {s : St} (hs : s.Good) {k : Nat} (h2 : k ≤ 60) : s.n - r0 k s ≤ rJ k s ∧ rJ k s ≤ 1000 ∧ rn s.F s.n k (r0 k s + rJ k s) = 0 ∧ ∀ j, s.n - r0 k s ≤ j → j < rJ k s → rn s.F s.n k (r0 k s + j) ≠ 0 := by
  obtain ⟨a1, a2, a3, a4⟩ := r0_law hs h2
  have hn := hs.most
  have hz : rn s.F s.n k (r0 k s + (s.n + k + 1 - r0 k s)) = 0 := by
    unfold rn pv
    have hle : r0 k s ≤ s.n + k + 1 := by
      rcases Nat.lt_or_ge (s.n + k + 1) (r0 k s) with h | h
      · have := a4 _ h
        have h3 := pv_low hs (s.n + k)
        have h5 : 2 ^ k ≤ 10 ^ (s.n + k) := Nat.le_trans (Nat.pow_le_pow_left (by omega) k) (Nat.pow_le_pow_right (by omega) (by omega))
        omega
      · exact h
    rw [show r0 k s + (s.n + k + 1 - r0 k s) = s.n + (k + 1) from by omega, if_neg (by omega), Nat.add_sub_cancel_left]
    have : 10 ^ (k + 1) = 2 ^ k * 10 * 5 ^ k := by
      rw [Nat.pow_succ, show (10 : Nat) = 2 * 5 from rfl, Nat.mul_pow]
      simp only [Nat.mul_assoc, Nat.mul_left_comm, Nat.mul_comm]
    rw [this, Nat.mul_comm (2 ^ k * 10), ← Nat.mul_assoc]
    exact Nat.mul_mod_left _ _
  have b1 := least_is (fun j => decide (rn s.F s.n k (r0 k s + j) = 0)) 2000 (s.n - r0 k s) (s.n + k + 1 - r0 k s) (by omega) (by omega) (by simpa using hz)
  have b2 := least_le (fun j => decide (rn s.F s.n k (r0 k s + j) = 0)) 2000 (s.n - r0 k s) (s.n + k + 1 - r0 k s) (by omega) (by omega) (by simpa using hz)
  have b3 := least_ge (fun j => decide (rn s.F s.n k (r0 k s + j) = 0)) 2000 (s.n - r0 k s)
  have b4 := fun j => least_not (fun j => decide (rn s.F s.n k (r0 k s + j) = 0)) 2000 (s.n - r0 k s) j
  refine ⟨b3, ?_, of_decide_eq_true b1, fun j hj1 hj2 => by simpa using b4 j hj1 hj2⟩
  unfold rJ
  omega
theorem rs_head {s : St} (hs : s.Good) {k : Nat} (h2 : k ≤ 60) : rdig s.F s.n k (r0 k s) 0 = 48 + (pv s.F s.n (r0 k s) / 2 ^ k : Nat) ∧ 1 ≤ pv s.F s.n (r0 k s) / 2 ^ k ∧ pv s.F s.n (r0 k s) / 2 ^ k ≤ 9 := by
  obtain ⟨a1, a2, a3, a4⟩ := r0_law hs h2
  have h := r0_hi hs h2
  have hp : 0 < 2 ^ k := Nat.pow_pos (by omega)
  have h9 : pv s.F s.n (r0 k s) / 2 ^ k < 10 := by rw [Nat.div_lt_iff_lt_mul hp]; omega
  refine ⟨?_, Nat.div_pos a3 hp, by omega⟩
  unfold rdig
  rw [Nat.add_zero, Nat.mod_eq_of_lt h9]
theorem rs_good {s : St} (hs : s.Good) {k : Nat} (h2 : k ≤ 60) : (rs k s).Good := by
  obtain ⟨h3, h4, h5⟩ := rs_head hs h2
  obtain ⟨b1, b2, b3, b4⟩ := rJ_law hs h2
  obtain ⟨a1, a2, a3, a4⟩ := r0_law hs h2
  have hne : rdig s.F s.n k (r0 k s) 0 ≠ 48 := by omega
  have hJ : 1 ≤ rJ k s := by
    rcases Nat.eq_zero_or_pos (rJ k s) with h | h
    · rw [h, Nat.add_zero] at b3
      unfold rn at b3
      have := r0_hi hs h2
      rw [Nat.mod_eq_of_lt this] at b3
      have : 0 < 2 ^ k := Nat.pow_pos (by omega)
      omega
    · exact h
  exact ⟨cut_pos hne (by omega), Nat.le_trans (cut_le _ _) (Nat.min_le_right _ _), fun i _ => by show 48 ≤ rdig _ _ _ _ i ∧ rdig _ _ _ _ i ≤ 57; unfold rdig; omega, hne⟩
theorem rs_walk (p k : Nat) (ng : Bool) (s : St) (hs : s.Good) (h2 : k ≤ 60) (hd0 : -1000000 ≤ s.dp) (hd1 : s.dp ≤ 1000000) (w : World) (ha : s.At p ng w) : Calls Tryd.prog 83 #[.pointer (some ⟨p, 0, none⟩), .int .u64 k] w (Shd p ng (rs k s) w) := by
  obtain ⟨g, hD, hg⟩ := ha
  obtain ⟨a1, a2, a3, a4⟩ := r0_law hs h2
  obtain ⟨b1, b2, b3, b4⟩ := rJ_law hs h2
  have hgood := rs_good hs h2
  have hv : val g s.n = val s.F s.n := val_congr hg
  have hvp : 0 < val s.F s.n := by
    have := val_low hs.dig hs.one hs.head
    have h10 : 0 < 10 ^ s.n := Nat.pow_pos (by omega)
    omega
  refine (right_walk p s.n k (r0 k s) (rJ k s) g s.dp ng s.tr hs.most h2 a1 (by omega) (by omega) hd0 hd1 (good_congr hg hs.dig) (by rw [hv]; exact hvp) (fun r hr => by rw [pv_congr hg]; exact a4 r hr) (by rw [pv_congr hg]; exact a3) b1 (by rw [rn_congr hg]; exact b3) (fun j h1 h2 => by rw [rn_congr hg]; exact b4 j h1 h2) w hD).mono ?_
  rintro e w' ⟨rfl, g', hD', hg', hB⟩
  rw [rdig_congr hg] at hD' hg'
  rw [lostR_congr hg] at hD'
  refine ⟨rfl, ⟨g', ?_, fun j hj => hg' j (Nat.lt_of_lt_of_le hj (cut_le _ _))⟩, hB⟩
  have h1' := hgood.one
  unfold rs at h1'
  simp only [] at h1'
  unfold trimDp at hD'
  rw [if_neg (by omega)] at hD'
  exact hD'
end Go.Proofs.YtlkbhmmelejmjaaDoor.FltShift

/- The decimal of the slow road: Shift. -/
namespace Go.Proofs.YtlkbhmmelejmjaaDoor.FltBoth
open Go.RowKit Go.Proofs.YtlkbhmmelejmjaaDoorW.PrintWords Go.Proofs.YtlkbhmmelejmjaaDoor.NumKnown Go.Proofs.YtlkbhmmelejmjaaDoor.NumPure Go.Proofs.YtlkbhmmelejmjaaDoor.FltDec Go.Proofs.YtlkbhmmelejmjaaDoor.FltPure Go.Proofs.YtlkbhmmelejmjaaDoor.FltLeft Go.Proofs.YtlkbhmmelejmjaaDoor.FltRight Go.Proofs.YtlkbhmmelejmjaaDoor.FltLaw Go.Proofs.YtlkbhmmelejmjaaDoor.FltState Go.Proofs.YtlkbhmmelejmjaaDoor.FltShift
set_option linter.unusedVariables false
set_option linter.unusedSimpArgs false

/-- The table of the shifts to the left, below block B. -/
def LTb (B : Nat) (w : World) : Prop := ∃ L o c, 9 < B ∧ L < B ∧ w.cell? ⟨9, 0, none⟩ = some (.slice (some ⟨L, o, none⟩) 61 c) ∧ ∀ k, k < 61 → w.cell? ⟨L, o + k * 2, none⟩ = some (.int .i64 (lcD k)) ∧ w.cell? ⟨L, o + k * 2 + 1, none⟩ = some (.string (lcT k))
theorem LTb.tab {B : Nat} {w : World} (h : LTb B w) : LTab w lcD lcT := by
  obtain ⟨L, o, c, h1, h2, h3, h4⟩ := h
  exact ⟨L, o, c, h3, h4⟩
theorem LTb.keep {B p : Nat} {w w' : World} (h : LTb B w) (hb : Below p w w') (hp : B ≤ p) : LTb B w' := by
  obtain ⟨L, o, c, h1, h2, h3, h4⟩ := h
  exact ⟨L, o, c, h1, h2, (hb.cell (p := ⟨9, 0, none⟩) (Nat.lt_of_lt_of_le h1 hp)).trans h3, fun k hk => ⟨(hb.cell (p := ⟨L, _, none⟩) (Nat.lt_of_lt_of_le h2 hp)).trans (h4 k hk).1, (hb.cell (p := ⟨L, _, none⟩) (Nat.lt_of_lt_of_le h2 hp)).trans (h4 k hk).2⟩⟩
theorem At_nd {s : St} {p : Nat} {ng : Bool} {w : World} (h : s.At p ng w) : w.cell? ⟨p, 800, none⟩ = some (.int .i64 (s.n : Int)) := by
  obtain ⟨g, h1, h2⟩ := h
  exact h1.nd
theorem At_dp {s : St} {p : Nat} {ng : Bool} {w : World} (h : s.At p ng w) : w.cell? ⟨p, 801, none⟩ = some (.int .i64 s.dp) := by
  obtain ⟨g, h1, h2⟩ := h
  exact h1.dp

set_option maxHeartbeats 4000000 in
set_option maxRecDepth 100000 in
theorem shiftL_walk (p k : Nat) (ng : Bool) (s : St) (hs : s.Good) (h1 : 1 ≤ k) (h2 : k ≤ 60) (hd0 : -1000000 ≤ s.dp) (hd1 : s.dp ≤ 1000000) (w : World) (ha : s.At p ng w) (ht : LTab w lcD lcT) : Calls Tryd.prog 77 #[.pointer (some ⟨p, 0, none⟩), .int .i64 (k : Int)] w (Shd p ng (ls k s) w) := by
  have C := Aside0.mk (ls_walk p k ng s hs h1 h2 hd0 hd1 w ha ht)
  have hnd := At_nd ha
  have hn := hs.one
  clear ha ht hs
  generalize s.n = n at hnd hn
  have gk : 0 < k := by omega
  go_enter Tryd.func77, Tryd.ntmps77
  go_wp2_with fail
  go_loopw [1] (fun v1 wr => v1 = .int .i64 (k : Int) ∧ wr = w) (fun _ _ => 0)
  case atStart => exact ⟨rfl, rfl⟩
  case round =>
    obtain ⟨rfl, rfl⟩ := hrel
    have f1 : IntKind.u64.wrap (k : Int) = (k : Int) := by rw [IntKind.wrap_u64]; omega
    have g60 : ¬ 60 < k := by omega
    go_wp2_with fail
    refine C.out.mono ?_
    rintro e w1 ⟨rfl, h⟩
    go_wp2_with fail
    go_end0
    exact ⟨rfl, h⟩

/-- The shift to the right by any number. -/
def rsI : Nat → Nat → St → St
  | 0, m, s => rs m s
  | f + 1, m, s => if 60 < m then rsI f (m - 60) (rs 60 s) else rs m s
theorem rs_dp {s : St} (hs : s.Good) {k : Nat} (h2 : k ≤ 60) : s.dp - 19 ≤ (rs k s).dp ∧ (rs k s).dp ≤ s.dp := by
  obtain ⟨a1, a2, a3, a4⟩ := r0_law hs h2
  show s.dp - 19 ≤ s.dp - ((r0 k s : Int) - 1) ∧ s.dp - ((r0 k s : Int) - 1) ≤ s.dp
  omega

set_option maxHeartbeats 4000000 in
set_option maxRecDepth 100000 in
theorem shiftR_walk (p n : Nat) (ng : Bool) (s : St) (hs : s.Good) (h1 : 1 ≤ n) (h2 : n ≤ 200000) (hd0 : -100000 ≤ s.dp) (hd1 : s.dp ≤ 100000) (w : World) (ha : s.At p ng w) : Calls Tryd.prog 77 #[.pointer (some ⟨p, 0, none⟩), .int .i64 (-(n : Int))] w (Shd p ng (rsI n n s) w) := by
  have hnd := At_nd ha
  have hn := hs.one
  have HA := Aside0.mk ha
  clear ha
  generalize hq : s.n = q at hnd hn
  clear hq
  have gk : 0 < n := by omega
  have hq0 : ((q : Int) == 0) = false := beq_eq_false_iff_ne.mpr (by omega)
  have hn0 : decide ((n : Int) < 0) = false := decide_eq_false (by omega)
  go_enter Tryd.func77, Tryd.ntmps77
  go_wp2_with fail
  go_loopw [1] (fun v1 wr => ∃ (m f : Nat) (t : St), 1 ≤ m ∧ m ≤ n ∧ m ≤ f ∧ v1 = .int .i64 (-(m : Int)) ∧ Aside0 (t.Good ∧ s.dp - (n - m) ≤ t.dp ∧ t.dp ≤ s.dp ∧ rsI f m t = rsI n n s ∧ t.At p ng wr ∧ Below p w wr)) (fun v1 _ => (-(intOf v1)).toNat)
  case atStart => exact ⟨n, n, s, h1, Nat.le_refl _, Nat.le_refl _, rfl, ⟨hs, by omega, by omega, rfl, HA.out, Below.refl _ _⟩⟩
  case round =>
    obtain ⟨m, f, t, hm1, hmn, hmf, rfl, HL⟩ := hrel
    by_cases g60 : 60 < m
    · have C := Aside0.mk (rs_walk p 60 ng t HL.out.1 (by omega) (by have := HL.out.2.1; omega) (by have := HL.out.2.2.1; omega) wr HL.out.2.2.2.2.1)
      have a1 : wrap64 (-(m : Int) + 60) = -((m - 60 : Nat) : Int) := by unfold wrap64; omega
      go_wp2_with fail
      refine C.out.mono ?_
      rintro e w1 ⟨rfl, hat, hb⟩
      have HAT := Aside0.mk hat
      have HB := Aside0.mk hb
      clear hat hb
      go_wp2_with fail
      go_roundw
      case rel =>
        obtain ⟨q1, q2, q3, q4, q5, q6⟩ := HL.out
        obtain ⟨f, rfl⟩ : ∃ f', f = f' + 1 := ⟨f - 1, by omega⟩
        have hr := rs_dp q1 (k := 60) (by omega)
        refine ⟨m - 60, f, rs 60 t, by omega, by omega, by omega, by go_num, ⟨rs_good q1 (by omega), by omega, by omega, ?_, HAT.out, q6.trans HB.out⟩⟩
        rw [← q4]
        conv => rhs; unfold rsI
        rw [if_pos g60]
      case measure => first | (simp [intOf]; done) | (simp [intOf]; omega)
    · have C := Aside0.mk (rs_walk p m ng t HL.out.1 (by omega) (by have := HL.out.2.1; omega) (by have := HL.out.2.2.1; omega) wr HL.out.2.2.2.2.1)
      have a1 : IntKind.u64.wrap (m : Int) = (m : Int) := by rw [IntKind.wrap_u64]; omega
      go_wp2_with fail
      refine C.out.mono ?_
      rintro e w1 ⟨rfl, hat, hb⟩
      have HAT := Aside0.mk hat
      have HB := Aside0.mk hb
      clear hat hb
      go_wp2_with fail
      go_end0
      obtain ⟨q1, q2, q3, q4, q5, q6⟩ := HL.out
      refine ⟨rfl, ?_, q6.trans HB.out⟩
      rw [← q4]
      cases f with
      | zero => exact HAT.out
      | succ f =>
        unfold rsI
        rw [if_neg g60]
        exact HAT.out
end Go.Proofs.YtlkbhmmelejmjaaDoor.FltBoth

/- The decimal of the slow road: shouldRoundUp, RoundedInteger. -/
namespace Go.Proofs.YtlkbhmmelejmjaaDoor.FltRound
open Go.RowKit Go.Proofs.YtlkbhmmelejmjaaDoorW.PrintWords Go.Proofs.YtlkbhmmelejmjaaDoor.NumKnown Go.Proofs.YtlkbhmmelejmjaaDoor.NumPure Go.Proofs.YtlkbhmmelejmjaaDoor.FltDec Go.Proofs.YtlkbhmmelejmjaaDoor.FltPure Go.Proofs.YtlkbhmmelejmjaaDoor.FltLeft Go.Proofs.YtlkbhmmelejmjaaDoor.FltRight Go.Proofs.YtlkbhmmelejmjaaDoor.FltLaw Go.Proofs.YtlkbhmmelejmjaaDoor.FltState Go.Proofs.YtlkbhmmelejmjaaDoor.FltShift Go.Proofs.YtlkbhmmelejmjaaDoor.FltBoth
set_option linter.unusedVariables false
set_option linter.unusedSimpArgs false

/-- Whether a number that is cut at a digit is rounded up. -/
def sru (s : St) (nd : Int) : Bool :=
  if nd < 0 ∨ (s.n : Int) ≤ nd then false
  else if dv s.F nd.toNat = 5 ∧ nd.toNat + 1 = s.n then (s.tr || (decide (0 < nd.toNat) && decide (dv s.F (nd.toNat - 1) % 2 ≠ 0)))
  else decide (5 ≤ dv s.F nd.toNat)
theorem At_dig {s : St} {p : Nat} {ng : Bool} {w : World} (hs : s.Good) (h : s.At p ng w) (i : Nat) (hi : i < s.n) : w.cell? ⟨p, i, none⟩ = some (.int .u8 (48 + (dv s.F i : Int))) := by
  obtain ⟨g, h1, h2⟩ := h
  have := hs.most
  rw [h1.dig i (by omega), h2 i hi, hs.dig.dv_eq hi]
theorem At_tr {s : St} {p : Nat} {ng : Bool} {w : World} (h : s.At p ng w) : w.cell? ⟨p, 803, none⟩ = some (.bool s.tr) := by
  obtain ⟨g, h1, h2⟩ := h
  exact h1.tr
def Same (v : Value) (w : World) (e : Ending) (w' : World) : Prop := e = .returned v ∧ w = w'

set_option maxHeartbeats 4000000 in
set_option maxRecDepth 100000 in
theorem sru_walk (p : Nat) (ng : Bool) (s : St) (nd : Int) (hs : s.Good) (w : World) (ha : s.At p ng w) : Calls Tryd.prog 84 #[.pointer (some ⟨p, 0, none⟩), .int .i64 nd] w (Same (.bool (sru s nd)) w) := by
  have hnd := At_nd ha
  have htr := At_tr ha
  have hn := hs.one
  have hm := hs.most
  by_cases h1 : nd < 0
  · have e : sru s nd = false := by unfold sru; rw [if_pos (.inl h1)]
    rw [e]
    clear htr
    generalize s.n = n at *
    go_enter Tryd.func84, Tryd.ntmps84
    go_wp2_with fail
    go_ret
    exact ⟨rfl, rfl⟩
  · by_cases h2 : (s.n : Int) ≤ nd
    · have e : sru s nd = false := by unfold sru; rw [if_pos (.inr h2)]
      rw [e]
      clear htr
      generalize s.n = n at *
      go_enter Tryd.func84, Tryd.ntmps84
      go_wp2_with fail
      go_ret
      exact ⟨rfl, rfl⟩
    · obtain ⟨i, rfl⟩ : ∃ i : Nat, nd = (i : Int) := ⟨nd.toNat, by omega⟩
      have hin : i < s.n := by omega
      have hc := At_dig hs ha i hin
      have hd9 := hs.dig.dv hin
      have hin8 : i < 800 := by omega
      have e : sru s i = if dv s.F i = 5 ∧ i + 1 = s.n then (s.tr || (decide (0 < i) && decide (dv s.F (i - 1) % 2 ≠ 0))) else decide (5 ≤ dv s.F i) := by
        unfold sru
        rw [if_neg (by omega)]
        rfl
      rw [e]
      clear e
      have hprev : 0 < i → w.cell? ⟨p, i - 1, none⟩ = some (.int .u8 (48 + (dv s.F (i - 1) : Int))) ∧ dv s.F (i - 1) ≤ 9 := fun h => ⟨At_dig hs ha (i - 1) (by omega), hs.dig.dv (by omega)⟩
      clear ha hs
      generalize s.n = n at *
      generalize s.tr = tr at *
      generalize hdd : dv s.F i = d at *
      generalize dv s.F (i - 1) = dq at *
      clear hdd
      by_cases h5 : d = 5
      · subst h5
        by_cases hl : i + 1 = n
        · subst hl
          rw [if_pos ⟨rfl, rfl⟩]
          have a1 : wrap64 ((i : Int) + 1) = ((i + 1 : Nat) : Int) := by unfold wrap64; omega
          cases tr with
          | true =>
            go_enter Tryd.func84, Tryd.ntmps84
            go_wp2_with fail
            go_ret
            exact ⟨rfl, rfl⟩
          | false =>
            by_cases hi0 : 0 < i
            · obtain ⟨hcp, hdq⟩ := hprev hi0
              go_enter Tryd.func84, Tryd.ntmps84
              have hb : ((48 + (dq : Int) - 48) % 2 != 0) = decide (dq % 2 = 1) := by
                rw [show (48 + (dq : Int) - 48) = (dq : Int) from by omega]
                rcases Nat.mod_two_eq_zero_or_one dq with h | h
                · have : (dq : Int) % 2 = 0 := by omega
                  rw [h, this]; rfl
                · have : (dq : Int) % 2 = 1 := by omega
                  rw [h, this]; rfl
              have HB := Aside0.mk hb
              clear hb
              go_wp2_with fail
              go_ret
              exact ⟨by rw [← HB.out]; rfl, rfl⟩
            · obtain rfl : i = 0 := by omega
              go_enter Tryd.func84, Tryd.ntmps84
              go_wp2_with fail
              go_ret
              exact ⟨rfl, rfl⟩
        · rw [if_neg (by omega)]
          have hne : ((i : Int) + 1 == (n : Int)) = false := beq_eq_false_iff_ne.mpr (by omega)
          go_enter Tryd.func84, Tryd.ntmps84
          go_wp2_with fail
          go_ret
          exact ⟨rfl, rfl⟩
      · rw [if_neg (by omega)]
        have hne : ((48 + (d : Int)) == 53) = false := beq_eq_false_iff_ne.mpr (by omega)
        go_enter Tryd.func84, Tryd.ntmps84
        go_wp2_with fail
        go_ret
        exact ⟨by rw [show decide (5 ≤ d) = decide (53 ≤ 48 + (d : Int)) from decide_eq_decide.2 (by omega)]; rfl, rfl⟩

/-- The number that is rounded. -/
def riL (F : Nat → Int) : Nat → Int
  | 0 => 0
  | i + 1 => IntKind.u64.wrap (IntKind.u64.wrap (riL F i * 10) + (dv F i : Int))
def riZ (b : Int) : Nat → Int
  | 0 => b
  | c + 1 => IntKind.u64.wrap (riZ b c * 10)
def ri0 (s : St) : Int := riZ (riL s.F (min s.dp.toNat s.n)) (s.dp.toNat - min s.dp.toNat s.n)
def ri (s : St) : Int := if s.dp > 20 then 18446744073709551615 else if sru s s.dp then IntKind.u64.wrap (ri0 s + 1) else ri0 s

set_option maxHeartbeats 4000000 in
set_option maxRecDepth 100000 in
theorem ri_walk (p : Nat) (ng : Bool) (s : St) (hs : s.Good) (w : World) (ha : s.At p ng w) : Calls Tryd.prog 78 #[.pointer (some ⟨p, 0, none⟩)] w (Same (.int .u64 (ri s)) w) := by
  have hnd := At_nd ha
  have hdp := At_dp ha
  have hn := hs.one
  have hm := hs.most
  have HD := Aside0.mk (fun i (hi : i < s.n) => And.intro (At_dig hs ha i hi) (hs.dig.dv hi))
  have CS := Aside0.mk (sru_walk p ng s s.dp hs w ha)
  clear ha hs
  by_cases h20 : s.dp > 20
  · have e : ri s = 18446744073709551615 := by unfold ri; rw [if_pos h20]
    rw [e]
    generalize s.n = n at *
    generalize s.dp = dp at *
    go_enter Tryd.func78, Tryd.ntmps78
    go_wp2_with fail
    go_ret
    exact ⟨rfl, rfl⟩
  · have e : ri s = if sru s s.dp then IntKind.u64.wrap (ri0 s + 1) else ri0 s := by unfold ri; rw [if_neg h20]
    have he0 : ri0 s = riZ (riL s.F (min s.dp.toNat s.n)) (s.dp.toNat - min s.dp.toNat s.n) := rfl
    generalize ri s = y at e ⊢
    have HY := Aside0.mk e
    have HE := Aside0.mk he0
    clear e he0
    generalize ri0 s = x0 at *
    generalize sru s s.dp = sb at *
    generalize s.n = n at *
    generalize s.dp = dp at *
    have hk1 : min dp.toNat n ≤ dp.toNat := Nat.min_le_left _ _
    have hk2 : min dp.toNat n ≤ n := Nat.min_le_right _ _
    have HM := Aside0.mk (show min dp.toNat n = dp.toNat ∨ min dp.toNat n = n by omega)
    have HK := Aside0.mk (And.intro hk1 hk2)
    clear hk1 hk2
    generalize min dp.toNat n = k at *
    go_enter Tryd.func78, Tryd.ntmps78
    go_upto_block 0 with (fail)
    go_cut [3, 4] (fun v3 v4 wc => v3 = .int .i64 (k : Int) ∧ v4 = .int .u64 (riL s.F k) ∧ wc = w)
    case first =>
      go_wp2_with fail
      go_loopw [3, 4] (fun v3 v4 wr => ∃ i : Nat, i ≤ k ∧ v3 = .int .i64 (i : Int) ∧ v4 = .int .u64 (riL s.F i) ∧ wr = w) (fun v3 _ _ => k - (intOf v3).toNat)
      case atStart => exact ⟨0, Nat.zero_le _, rfl, rfl, rfl⟩
      case round =>
        obtain ⟨i, hi, rfl, rfl, rfl⟩ := hrel
        by_cases hik : i < k
        · have g1 : (i : Int) < dp := by have := HK.out; omega
          have g2 : i < n := by have := HK.out; omega
          have g3 : i < 800 := by omega
          obtain ⟨hc, hd9⟩ := HD.out i g2
          have hr : riL s.F (i + 1) = IntKind.u64.wrap (IntKind.u64.wrap (riL s.F i * 10) + (dv s.F i : Int)) := rfl
          have HR := Aside0.mk hr
          clear hr
          generalize dv s.F i = d at *
          go_wp2_with fail
          go_roundw
          case rel => exact ⟨i + 1, by omega, by go_num, by rw [HR.out, show (48 + (d : Int) - 48) = (d : Int) from by omega], by first | trivial | rfl⟩
          case measure => first | (simp [intOf]; done) | (simp [intOf]; omega)
        · obtain rfl : i = k := by omega
          have hcond : (i : Int) < dp → ¬ i < n := by have h1 := HM.out; have h2 := HK.out; omega
          by_cases gd : (i : Int) < dp
          · have gn : ¬ i < n := hcond gd
            clear hcond
            go_wp2_with fail
            go_meet
            case rel => exact ⟨rfl, rfl, rfl⟩
          · clear hcond
            go_wp2_with fail
            go_meet
            case rel => exact ⟨rfl, rfl, rfl⟩
    case rest =>
      obtain ⟨rfl, rfl, rfl⟩ := hcut
      go_wp2_with fail
      go_loopw [3, 4] (fun v3 v4 wr => ∃ c : Nat, c ≤ dp.toNat - k ∧ v3 = .int .i64 ((k + c : Nat) : Int) ∧ v4 = .int .u64 (riZ (riL s.F k) c) ∧ wr = wc) (fun v3 _ _ => dp.toNat - (intOf v3).toNat)
      case atStart => exact ⟨0, Nat.zero_le _, rfl, rfl, rfl⟩
      case round =>
        obtain ⟨c, hc, rfl, rfl, rfl⟩ := hrel
        by_cases hcd : ((k + c : Nat) : Int) < dp
        · have hr : riZ (riL s.F k) (c + 1) = IntKind.u64.wrap (riZ (riL s.F k) c * 10) := rfl
          have HR := Aside0.mk hr
          clear hr
          go_wp2_with fail
          go_roundw
          case rel => exact ⟨c + 1, by omega, by go_num, by rw [HR.out], by first | trivial | rfl⟩
          case measure => first | (simp [intOf]; done) | (simp [intOf]; omega)
        · have hce : c = dp.toNat - k := by have := HK.out; omega
          have hx := HE.out
          rw [← hce] at hx
          rw [← hx]
          clear hx hce
          go_wp2_with fail
          refine CS.out.mono ?_
          rintro e w1 ⟨rfl, rfl⟩
          have hy := HY.out
          cases sb with
          | true =>
            rw [if_pos rfl] at hy
            have HYY := Aside0.mk hy
            clear hy HY
            go_wp2_with fail
            go_ret
            exact ⟨by rw [HYY.out]; rfl, rfl⟩
          | false =>
            rw [if_neg (by decide)] at hy
            have HYY := Aside0.mk hy
            clear hy HY
            go_wp2_with fail
            go_ret
            exact ⟨by rw [HYY.out]; rfl, rfl⟩
end Go.Proofs.YtlkbhmmelejmjaaDoor.FltRound

/- The decimal of the slow road: floatBits as a function (plain), and that its loops end. -/
namespace Go.Proofs.YtlkbhmmelejmjaaDoor.FltBitsP
open Go.RowKit Go.Proofs.YtlkbhmmelejmjaaDoorW.PrintWords Go.Proofs.YtlkbhmmelejmjaaDoor.NumKnown Go.Proofs.YtlkbhmmelejmjaaDoor.NumPure Go.Proofs.YtlkbhmmelejmjaaDoor.FltDec Go.Proofs.YtlkbhmmelejmjaaDoor.FltPure Go.Proofs.YtlkbhmmelejmjaaDoor.FltLeft Go.Proofs.YtlkbhmmelejmjaaDoor.FltRight Go.Proofs.YtlkbhmmelejmjaaDoor.FltLaw Go.Proofs.YtlkbhmmelejmjaaDoor.FltState Go.Proofs.YtlkbhmmelejmjaaDoor.FltShift Go.Proofs.YtlkbhmmelejmjaaDoor.FltBoth Go.Proofs.YtlkbhmmelejmjaaDoor.FltRound
set_option linter.unusedVariables false
set_option linter.unusedSimpArgs false

/-- The table of steps. -/
def pw (d : Nat) : Nat := ([1, 3, 6, 9, 13, 16, 19, 23, 26] : List Nat).getD d 27
theorem pw_in (d : Nat) : 1 ≤ pw d ∧ pw d ≤ 27 := by
  rcases Nat.lt_or_ge d 9 with h | h
  · have : d = 0 ∨ d = 1 ∨ d = 2 ∨ d = 3 ∨ d = 4 ∨ d = 5 ∨ d = 6 ∨ d = 7 ∨ d = 8 := by omega
    rcases this with rfl | rfl | rfl | rfl | rfl | rfl | rfl | rfl | rfl <;> decide
  · unfold pw
    rw [List.getD_eq_getElem?_getD, List.getElem?_eq_none (by simpa using h)]
    decide
theorem rsI_small {k : Nat} (h : k ≤ 60) (s : St) : rsI k k s = rs k s := by
  cases k with
  | zero => rfl
  | succ k => unfold rsI; rw [if_neg (by omega)]
def d0 (s : St) : Nat := dv s.F 0
theorem d0_in {s : St} (hs : s.Good) : 1 ≤ d0 s ∧ d0 s ≤ 9 := by
  have h1 := hs.dig.dv_eq (i := 0) hs.one
  have h2 := hs.dig.dv (i := 0) hs.one
  have h3 := hs.head
  unfold d0
  omega

def m1 (s : St) : Nat := (10 * s.dp + d0 s).toNat
def m2 (s : St) : Nat := (10 * -s.dp + 9 - d0 s).toNat
theorem rs_d0 {s : St} (hs : s.Good) {k : Nat} (h2 : k ≤ 60) : d0 (rs k s) = pv s.F s.n (r0 k s) / 2 ^ k := by
  obtain ⟨h3, h4, h5⟩ := rs_head hs h2
  show (rdig s.F s.n k (r0 k s) 0 - 48).toNat = _
  rw [h3]
  omega
theorem m1_less {s : St} (hs : s.Good) (hd : 0 < s.dp) {k : Nat} (h1 : 1 ≤ k) (h2 : k ≤ 60) : m1 (rs k s) < m1 s := by
  have hg := rs_good hs h2
  have a := d0_in hs
  have b := d0_in hg
  obtain ⟨r1, r2, r3, r4⟩ := r0_law hs h2
  have e : (rs k s).dp = s.dp - ((r0 k s : Int) - 1) := rfl
  unfold m1
  by_cases hr : r0 k s = 1
  · have h3 := rs_d0 hs h2
    rw [hr] at h3 e
    have h4 : pv s.F s.n 1 = d0 s := by rw [pv_lt hs.one, pv_zero]; unfold d0; omega
    rw [h4] at h3
    have h5 : 2 ≤ 2 ^ k := by
      calc 2 = 2 ^ 1 := rfl
        _ ≤ 2 ^ k := Nat.pow_le_pow_right (by omega) h1
    have h6 : d0 s / 2 ^ k < d0 s := Nat.div_lt_self (by omega) (by omega)
    omega
  · omega
theorem ls_dp {s : St} (hs : s.Good) {k : Nat} (h1 : 1 ≤ k) (h2 : k ≤ 60) : s.dp ≤ (ls k s).dp ∧ (ls k s).dp ≤ s.dp + 20 := by
  have := (le_law hs h1 h2).1
  show s.dp ≤ s.dp + (le k s : Int) ∧ s.dp + (le k s : Int) ≤ s.dp + 20
  omega
theorem m2_less {s : St} (hs : s.Good) (hd : s.dp < 0 ∨ (s.dp = 0 ∧ d0 s < 5)) {k : Nat} (h1 : 1 ≤ k) (h2 : k ≤ 60) : m2 (ls k s) < m2 s := by
  have hg := ls_good hs h1 h2
  have a := d0_in hs
  have b := d0_in hg
  obtain ⟨l1, l2, l3, l4⟩ := le_law hs h1 h2
  obtain ⟨h3, h4⟩ := ls_head hs h1 h2
  have e : (ls k s).dp = s.dp + (le k s : Int) := rfl
  have e0 : d0 (ls k s) = lX k s / 10 ^ (s.n + le k s - 1) := by
    show (dig (s.n + le k s) (lX k s) 0 - 48).toNat = _
    rw [h3]; omega
  unfold m2
  by_cases hr : le k s = 0
  · rw [hr] at e e0
    have hn := hs.one
    obtain ⟨N, hN⟩ : ∃ N, s.n = N + 1 := ⟨s.n - 1, by omega⟩
    have hp : 0 < 10 ^ N := Nat.pow_pos (by omega)
    have h7 : d0 s * 10 ^ N ≤ val s.F s.n := by
      have := (pv_val hs.dig 1).1
      rw [pv_lt hn, pv_zero, Nat.mul_zero, Nat.zero_add, hN, Nat.pow_succ, Nat.pow_one, ← Nat.mul_assoc] at this
      rw [hN]
      exact Nat.le_of_mul_le_mul_right this (by omega)
    have h8 : d0 s * 2 * 10 ^ N ≤ lX k s := by
      have h5 : 2 ≤ 2 ^ k := by
        calc 2 = 2 ^ 1 := rfl
          _ ≤ 2 ^ k := Nat.pow_le_pow_right (by omega) h1
      have : d0 s * 10 ^ N * 2 ≤ val s.F s.n * 2 ^ k := Nat.mul_le_mul h7 h5
      unfold lX
      rw [Nat.mul_right_comm]
      exact this
    have h9 : d0 s * 2 ≤ d0 (ls k s) := by
      rw [e0, hN, Nat.add_zero, Nat.add_sub_cancel]
      exact (Nat.le_div_iff_mul_le hp).2 h8
    omega
  · omega

/-- The loops. -/
def up : Nat → St → Int → St × Int
  | 0, s, x => (s, x)
  | f + 1, s, x => if 0 < s.dp then up f (rs (pw s.dp.toNat) s) (x + pw s.dp.toNat) else (s, x)
def dn : Nat → St → Int → St × Int
  | 0, s, x => (s, x)
  | f + 1, s, x => if s.dp < 0 ∨ (s.dp = 0 ∧ d0 s < 5) then dn f (ls (pw (-s.dp).toNat) s) (x - pw (-s.dp).toNat) else (s, x)
theorem up_end {s : St} (h : ¬ 0 < s.dp) (x : Int) : ∀ f, up f s x = (s, x)
  | 0 => rfl
  | f + 1 => by unfold up; rw [if_neg h]
theorem dn_end {s : St} (h : ¬ (s.dp < 0 ∨ (s.dp = 0 ∧ d0 s < 5))) (x : Int) : ∀ f, dn f s x = (s, x)
  | 0 => rfl
  | f + 1 => by unfold dn; rw [if_neg h]

/-- The number's bits without its sign, and whether it is too great: mantissa, exponent, overflow. -/
def s1 (s : St) : St × Int := up (m1 s) s 0
def s2 (s : St) : St × Int := dn (m2 (s1 s).1) (s1 s).1 (s1 s).2
def x3 (s : St) : Int := (s2 s).2 - 1
def s4 (s : St) : St := if x3 s < -1022 then rsI (-1022 - x3 s).toNat (-1022 - x3 s).toNat (s2 s).1 else (s2 s).1
def x4 (s : St) : Int := if x3 s < -1022 then -1022 else x3 s
def mt (s : St) : Int := ri (ls 53 (s4 s))
def mt5 (s : St) : Int := if mt s = 9007199254740992 then 4503599627370496 else mt s
def x5 (s : St) : Int := if mt s = 9007199254740992 then x4 s + 1 else x4 s
def x6 (s : St) : Int := if bits .and .u64 (mt5 s) 4503599627370496 = 0 then -1023 else x5 s
def over (s : St) : Bool := decide (310 < s.dp) || (!decide (s.dp < -330) && (decide (2047 ≤ x4 s + 1023) || (decide (mt s = 9007199254740992) && decide (2047 ≤ x5 s + 1023))))
def fM (s : St) : Int := if over s then 0 else if s.dp < -330 then 0 else mt5 s
def fX (s : St) : Int := if over s then 1024 else if s.dp < -330 then -1023 else x6 s
end Go.Proofs.YtlkbhmmelejmjaaDoor.FltBitsP

/- A scope with two labels, both jumped to from before them: 1 stands before 0. -/
namespace Go.Proofs.YtlkbhmmelejmjaaDoor.FltScope
open Go.RowKit

/-- As Q; a jump to label 0: J0; to label 1: J1; no other. -/
def jump2 (J0 J1 : Act → World → Prop) (Q : Exit → Act → World → Prop) : Exit → Act → World → Prop
  | .goto l, a, w => (l = 0 ∧ J0 a w) ∨ (l = 1 ∧ J1 a w)
  | e, a, w => Q e a w
def noway : Act → World → Prop := fun _ _ => False

section
variable {P : Program} {a : Act} {w : World} {Q : Exit → Act → World → Prop}
theorem wp_scope_two {c r0 r1 : Code} (J0 J1 : Act → World → Prop) (hf0 : findLabel c 0 = some r0) (hf1 : findLabel c 1 = some r1)
    (first : c.wp P (jump2 J0 J1 Q) a w) (pass1 : ∀ a w, J1 a w → r1.wp P (jump2 J0 noway Q) a w) (pass0 : ∀ a w, J0 a w → r0.wp P (jump2 noway noway Q) a w) : (Code.scope c).wp P Q a w := by
  intro b k cs
  have hg0 : gotoIn 0 (.inScope c :: k) = some (.code r0 :: .inScope c :: k) := by simp [gotoIn, hf0]
  have hg1 : gotoIn 1 (.inScope c :: k) = some (.code r1 :: .inScope c :: k) := by simp [gotoIn, hf1]
  have key0 : ∀ a w, J0 a w → ∃ e a' w', Q e a' w' ∧ Arrives P (lone (b.at a (.code r0 :: .inScope c :: k)) cs w) b k cs e a' w' := by
    intro a w hJ
    obtain ⟨e, a₁, w₁, hq, harr⟩ := pass0 a w hJ b (.inScope c :: k) cs
    cases e with
    | normal => exact ⟨.normal, a₁, w₁, hq, Steps.trans harr (.one step_inScope)⟩
    | exit id => exact ⟨.exit id, a₁, w₁, hq, fun k' hk => harr k' (by simp [exitTo, hk])⟩
    | goto l' => rcases hq with ⟨_, h⟩ | ⟨_, h⟩ <;> exact h.elim
    | ret => exact ⟨_, a₁, w₁, hq, harr⟩
    | panic ch => exact ⟨_, a₁, w₁, hq, harr⟩
    | outgrown => exact ⟨_, a₁, w₁, hq, harr⟩
  have key1 : ∀ a w, J1 a w → ∃ e a' w', Q e a' w' ∧ Arrives P (lone (b.at a (.code r1 :: .inScope c :: k)) cs w) b k cs e a' w' := by
    intro a w hJ
    obtain ⟨e, a₁, w₁, hq, harr⟩ := pass1 a w hJ b (.inScope c :: k) cs
    cases e with
    | normal => exact ⟨.normal, a₁, w₁, hq, Steps.trans harr (.one step_inScope)⟩
    | exit id => exact ⟨.exit id, a₁, w₁, hq, fun k' hk => harr k' (by simp [exitTo, hk])⟩
    | goto l' =>
      rcases hq with ⟨rfl, h⟩ | ⟨_, h⟩
      · obtain ⟨e₂, a₂, w₂, hq₂, harr₂⟩ := key0 a₁ w₁ h
        exact ⟨e₂, a₂, w₂, hq₂, .of_steps (harr _ hg0) harr₂⟩
      · exact h.elim
    | ret => exact ⟨_, a₁, w₁, hq, harr⟩
    | panic ch => exact ⟨_, a₁, w₁, hq, harr⟩
    | outgrown => exact ⟨_, a₁, w₁, hq, harr⟩
  obtain ⟨e, a₁, w₁, hq, harr⟩ := first b (.inScope c :: k) cs
  cases e with
  | normal => exact ⟨.normal, a₁, w₁, hq, .head step_scope (Steps.trans harr (.one step_inScope))⟩
  | exit id => exact ⟨.exit id, a₁, w₁, hq, fun k' hk => .head step_scope (harr k' (by simp [exitTo, hk]))⟩
  | goto l' =>
    rcases hq with ⟨rfl, h⟩ | ⟨rfl, h⟩
    · obtain ⟨e₂, a₂, w₂, hq₂, harr₂⟩ := key0 a₁ w₁ h
      exact ⟨e₂, a₂, w₂, hq₂, .of_steps (.head step_scope (harr _ hg0)) harr₂⟩
    · obtain ⟨e₂, a₂, w₂, hq₂, harr₂⟩ := key1 a₁ w₁ h
      exact ⟨e₂, a₂, w₂, hq₂, .of_steps (.head step_scope (harr _ hg1)) harr₂⟩
  | ret => exact ⟨_, a₁, w₁, hq, .of_steps (.one step_scope) harr⟩
  | panic ch => exact ⟨_, a₁, w₁, hq, .of_steps (.one step_scope) harr⟩
  | outgrown => exact ⟨_, a₁, w₁, hq, .of_steps (.one step_scope) harr⟩
theorem wp_scope_get {c : Code} (J0 J1 : Act → World → Prop) (hf0 : (findLabel c 0).isSome = true) (hf1 : (findLabel c 1).isSome = true)
    (first : c.wp P (jump2 J0 J1 Q) a w) (pass1 : ∀ a w, J1 a w → ((findLabel c 1).getD .skip).wp P (jump2 J0 noway Q) a w) (pass0 : ∀ a w, J0 a w → ((findLabel c 0).getD .skip).wp P (jump2 noway noway Q) a w) : (Code.scope c).wp P Q a w := by
  obtain ⟨r0, h0⟩ := Option.isSome_iff_exists.1 hf0
  obtain ⟨r1, h1⟩ := Option.isSome_iff_exists.1 hf1
  rw [h0] at pass0
  rw [h1] at pass1
  exact wp_scope_two J0 J1 h0 h1 first pass1 pass0
end
end Go.Proofs.YtlkbhmmelejmjaaDoor.FltScope
