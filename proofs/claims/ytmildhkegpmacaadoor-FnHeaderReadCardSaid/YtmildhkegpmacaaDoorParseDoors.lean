/- The doors of FnHeaderRead: ZzHeaderRight (44), impl.HeaderRight (22), ZzHeaderIndent (45), impl.HeaderIndent (23). -/
import Derived.Test.YtmildhkegpmacaaDoorParseWalk
namespace Go.Proofs.YtmildhkegpmacaaDoor.ParseDoors
open Go.RowKit Go.Proofs.YtmildhkegpmacaaDoorW.PrintWords Go.Proofs.YtmildhkegpmacaaDoor.Utf
set_option linter.unusedVariables false
set_option linter.unusedSimpArgs false

set_option maxHeartbeats 1000000 in
set_option maxRecDepth 100000 in
theorem right_zz (s : ByteArray) (w : World) (C : ∀ p w0, Below w.heap.size w w0 → Calls Tryd.prog 65 #[p, .string s] w0 fun e w' => e = .returned .nilIface ∧ Below w0.heap.size w0 w') :
    Calls Tryd.prog 44 #[.string s] w fun e w' => e = .returned (.bool true) ∧ Below w.heap.size w w' := by
  have C := Aside0.mk C
  go_enter Tryd.func44, Tryd.ntmps44
  go_wp2_with fail
  have b0 : ∀ o, Below w.heap.size w (w.alloc o) := fun o => (Below.refl _ w).alloc (Nat.le_refl _) o
  have B0 := Aside0.mk b0
  clear b0
  refine (C.out _ _ (B0.out _)).mono ?_
  rintro e w1 ⟨rfl, b1⟩
  have B1 := Aside0.mk ((B0.out _).trans (b1.mono (B0.out _).size))
  clear b1
  go_wp2_with fail
  go_ret
  exact ⟨rfl, B1.out⟩

set_option maxRecDepth 100000 in
theorem right_any (s : ByteArray) (w : World) (C : ∀ wx, Below w.heap.size w wx → Calls Tryd.prog 44 #[.string s] wx fun e w' => e = .returned (.bool true) ∧ Below wx.heap.size wx w') :
    Calls Tryd.prog 22 #[.string s] w fun e w' => e = .returned (.bool true) ∧ Below w.heap.size w w' := by
  have C := Aside0.mk (C w (Below.refl _ _))
  go_enter Tryd.func22, Tryd.ntmps22
  go_wp2_with fail
  refine C.out.mono ?_
  rintro e w1 ⟨rfl, b1⟩
  have B1 := Aside0.mk b1
  clear b1
  go_wp2_with fail
  go_ret
  exact ⟨rfl, B1.out⟩

set_option maxRecDepth 100000 in
theorem indent_zz (s : ByteArray) (v : Int) (w : World) (C : Calls Tryd.prog 66 #[.string s] w fun e w' => e = .returned (.int .i64 v) ∧ Below w.heap.size w w') :
    Calls Tryd.prog 45 #[.string s] w fun e w' => e = .returned (.int .i64 v) ∧ Below w.heap.size w w' := by
  have C := Aside0.mk C
  go_enter Tryd.func45, Tryd.ntmps45
  go_wp2_with fail
  refine C.out.mono ?_
  rintro e w1 ⟨rfl, b1⟩
  have B1 := Aside0.mk b1
  clear b1
  go_wp2_with fail
  go_ret
  exact ⟨rfl, B1.out⟩

set_option maxRecDepth 100000 in
theorem indent_any (s : ByteArray) (v : Int) (w : World) (C : Calls Tryd.prog 45 #[.string s] w fun e w' => e = .returned (.int .i64 v) ∧ Below w.heap.size w w') :
    Calls Tryd.prog 23 #[.string s] w fun e w' => e = .returned (.int .i64 v) ∧ Below w.heap.size w w' := by
  have C := Aside0.mk C
  go_enter Tryd.func23, Tryd.ntmps23
  go_wp2_with fail
  refine C.out.mono ?_
  rintro e w1 ⟨rfl, b1⟩
  have B1 := Aside0.mk b1
  clear b1
  go_wp2_with fail
  go_ret
  exact ⟨rfl, B1.out⟩
end Go.Proofs.YtmildhkegpmacaaDoor.ParseDoors
