/- Numbers: the comparison with what is wanted (nbTold). -/
import Derived.Test.YtlkbhmmelejmjaaDoorNumImpl
namespace Go.Proofs.YtlkbhmmelejmjaaDoor.NumTold
open Go.RowKit Go.Proofs.YtlkbhmmelejmjaaDoorW.PrintWords Go.Proofs.YtlkbhmmelejmjaaDoor.NumKnown Go.Proofs.YtlkbhmmelejmjaaDoor.NumPure Go.Proofs.YtlkbhmmelejmjaaDoor.NumParse Go.Proofs.YtlkbhmmelejmjaaDoor.NumTok Go.Proofs.YtlkbhmmelejmjaaDoor.NumImpl
set_option linter.unusedVariables false
set_option linter.unusedSimpArgs false
attribute [local go_sem ↓] Go.wp_at_zero Go.wp_at_succ
attribute [local go_sem] run_store_float

def wantV (base : Int) (minus : Bool) (size : Int) : Value := .agg #[.int .i64 1, .int .i64 base, .bool minus, .int .u64 size, .float .f64 0]

set_option maxHeartbeats 2000000 in
set_option maxRecDepth 100000 in
theorem told_10 (text : ByteArray) (a : Int) (w : World) : Calls Tryd.prog 9 #[numV ⟨#[100, 101, 99, 105, 109, 97, 108]⟩ text 2 0 a 0, wantV 10 false a] w (Bo true w) := by
  unfold numV wantV
  go_enter Tryd.func9, Tryd.ntmps9
  go_wp2_with fail
  go_ret
  exact ⟨rfl, ((Below.refl _ _).alloc (Nat.le_refl _) _).alloc (by simp) _⟩

set_option maxHeartbeats 2000000 in
set_option maxRecDepth 100000 in
theorem told_8 (text : ByteArray) (a : Int) (w : World) : Calls Tryd.prog 9 #[numV ⟨#[111, 99, 116, 101, 116]⟩ text 2 0 a 0, wantV 8 false a] w (Bo true w) := by
  unfold numV wantV
  go_enter Tryd.func9, Tryd.ntmps9
  go_wp2_with fail
  go_ret
  exact ⟨rfl, ((Below.refl _ _).alloc (Nat.le_refl _) _).alloc (by simp) _⟩

set_option maxHeartbeats 2000000 in
set_option maxRecDepth 100000 in
theorem told_16 (text : ByteArray) (a : Int) (w : World) : Calls Tryd.prog 9 #[numV ⟨#[104, 101, 120]⟩ text 2 0 a 0, wantV 16 false a] w (Bo true w) := by
  unfold numV wantV
  go_enter Tryd.func9, Tryd.ntmps9
  go_wp2_with fail
  go_ret
  exact ⟨rfl, ((Below.refl _ _).alloc (Nat.le_refl _) _).alloc (by simp) _⟩

set_option maxHeartbeats 2000000 in
set_option maxRecDepth 100000 in
theorem told_neg (text : ByteArray) (a : Int) (h0 : 0 ≤ a) (h1 : a ≤ 9223372036854775808) (w : World) : Calls Tryd.prog 9 #[numV ⟨#[100, 101, 99, 105, 109, 97, 108]⟩ text 1 (-a) 0 0, wantV 10 true a] w (Bo true w) := by
  have f0 : -a ≤ 0 := by omega
  have f1 : (IntKind.u64.wrap (-IntKind.u64.wrap (-a)) == a) = true := by
    rw [IntKind.wrap_u64, IntKind.wrap_u64]; simp; omega
  unfold numV wantV
  go_enter Tryd.func9, Tryd.ntmps9
  go_wp2_with fail
  go_ret
  exact ⟨rfl, ((Below.refl _ _).alloc (Nat.le_refl _) _).alloc (by simp) _⟩
end Go.Proofs.YtlkbhmmelejmjaaDoor.NumTold
