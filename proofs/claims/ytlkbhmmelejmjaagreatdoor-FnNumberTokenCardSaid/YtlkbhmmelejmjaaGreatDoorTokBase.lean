/- Tokens: their places, their makers, their reading as data. -/
import Derived.Test.YtlkbhmmelejmjaaGreatDoorWMore
import Derived.Test.YtlkbhmmelejmjaaGreatDoorWWords
import Derived.Test.YtlkbhmmelejmjaaGreatDoorProg
import Derived.WalkKit
import Derived.Deep.LoopGhost
import Derived.Deep.QuietTactic
import Derived.BigQuiet
import Derived.WalkSpells
import Derived.OwnWalk
import Derived.Laws.OwnMore
import Derived.Laws.Small
import Derived.Deep.RegionHeld3
import Derived.Deep.DrawnRows
import Derived.Deep.AppendLies
namespace Go.Proofs.YtlkbhmmelejmjaaGreatDoor.TokBase
open Go.RowKit Go.Proofs.YtlkbhmmelejmjaaGreatDoorW.PrintWords
set_option linter.unusedVariables false
set_option linter.unusedSimpArgs false
attribute [local go_sem ↓] Go.wp_at_zero Go.wp_at_succ

theorem blk_new' (w : World) (X : Obj) (n : Nat) (h : w.heap.size = n) : (w.alloc X).heap[n]? = some X := h ▸ blk_new w X
theorem size_alloc (w : World) (X : Obj) : (w.alloc X).heap.size = w.heap.size + 1 := by simp

set_option maxRecDepth 100000 in
theorem small_any (n : Int) (h0 : 0 ≤ n) (h1 : n ≤ 200) (w : World) : Calls Tryz.prog 72 #[.int .i64 n] w fun e w' => e = .returned (.int .i64 n) ∧ w = w' := by
  have f0 : ¬ n < 0 := by omega
  have f1 : ¬ 200 < n := by omega
  go_enter Tryz.func72, Tryz.ntmps72
  go_wp2
  go_ret
  exact ⟨rfl, rfl⟩

/-- A place in memory. -/
def Pos (w : World) (q : Nat) (line col off : Int) : Prop := w.heap[q]? = some (.cells #[.int .i64 line, .int .i64 col, .int .i64 off, .int .i64 0, .int .i64 0] 87 (0, 0))
def Posed (line col off : Int) (w : World) (e : Ending) (w' : World) : Prop := ∃ q, e = .returned (.pointer (some ⟨q, 0, none⟩)) ∧ w.heap.size ≤ q ∧ Pos w' q line col off ∧ Below w.heap.size w w'

set_option maxHeartbeats 2000000 in
set_option maxRecDepth 100000 in
theorem position_any (line col off : Int) (h0 : 1 ≤ col) (h1 : col ≤ 200) (w : World) :
    Calls Tryz.prog 22 #[.agg #[.int .i64 line, .int .i64 col, .int .i64 off, .int .i64 0, .int .i64 0]] w (Posed line col off w) := by
  have f2 : (if col < 1 then (1 : Int) else col) = col := if_neg (by omega)
  go_enter Tryz.func22, Tryz.ntmps22
  go_wp2_with fail
  go_region_held3 (fun w' => w'.cell? ⟨w.heap.size, 0, none⟩ = some (.int .i64 line) ∧ w'.cell? ⟨w.heap.size, 1, none⟩ = some (.int .i64 col) ∧ w'.cell? ⟨w.heap.size, 2, none⟩ = some (.int .i64 off) ∧
      w'.cell? ⟨w.heap.size, 3, none⟩ = some (.int .i64 0) ∧ w'.cell? ⟨w.heap.size, 4, none⟩ = some (.int .i64 0)) (go_keep)
    (first | (go_at_call 72; refine (small_any _ (by omega) (by omega) _).mono ?_; rintro e w' ⟨rfl, rfl⟩))
  all_goals
    go_wp2
    go_ret
    refine ⟨w.heap.size + 1, rfl, by omega, ?_, ?_⟩
    · exact blk_new' (w.alloc _) _ _ (size_alloc _ _)
    · exact (((Below.refl _ w).alloc (Nat.le_refl _) _).alloc (by simp) _).drew

set_option maxRecDepth 100000 in
theorem index_nil (s a : Value) (w : World) : Calls Tryz.prog 74 #[s, .pointer none, a] w fun e w' => e = .returned (.int .i64 (-1)) ∧ w = w' := by
  go_enter Tryz.func74, Tryz.ntmps74
  go_wp2
  go_ret
  exact ⟨rfl, rfl⟩

/-- A token in memory, with nothing beside it. -/
def TokAt (w : World) (t q : Nat) (ty ch sg : Int) (v o : ByteArray) : Prop :=
  w.heap[t]? = some (.cells #[.int .i64 ty, .int .i64 ch, .int .i64 sg, .string v, .string o, .string ⟨#[]⟩, .pointer (some ⟨q, 0, none⟩), .pointer none, .pointer none] 58 (0, 0))

def Maked (ty ch sg : Int) (v o : ByteArray) (q : Nat) (w : World) (e : Ending) (w' : World) : Prop := ∃ t, e = .returned (.pointer (some ⟨t, 0, none⟩)) ∧ w.heap.size ≤ t ∧ TokAt w' t q ty ch sg v o ∧ Below w.heap.size w w'

def TagFn (w : World) (e : Ending) (w' : World) : Prop := (e = .returned .nilFunc ∨ e = .returned (.func (.func 110) #[] #[])) ∧ w = w'
set_option maxHeartbeats 4000000 in
set_option maxRecDepth 100000 in
theorem tagmap_any (v : ByteArray) (w : World) : Calls Tryz.prog 88 #[.string v] w (TagFn w) := by
  go_enter Tryz.func88, Tryz.ntmps88
  go_wp2
  all_goals go_ret
  all_goals first | exact ⟨.inl rfl, rfl⟩ | exact ⟨.inr rfl, rfl⟩

theorem nil_neq (w : World) : Sem.run Tryz.prog (binOp BinOp.neq 82 Value.nilFunc Value.nilFunc) w = .ok (.bool false) w := by kernel_rfl
theorem fn_neq (w : World) : Sem.run Tryz.prog (binOp BinOp.neq 82 (Value.func (Fn.func 110) #[] #[]) Value.nilFunc) w = .ok (.bool true) w := by kernel_rfl

set_option maxHeartbeats 4000000 in
set_option maxRecDepth 100000 in
theorem tag_any (v o : ByteArray) (q : Nat) (w : World) : Calls Tryz.prog 63 #[.string v, .string o, .pointer (some ⟨q, 0, none⟩)] w (Maked 15 0 4 v o q w) := by
  have C := Aside0.mk (tagmap_any v w)
  have e1 := nil_neq
  have e2 := fn_neq
  go_enter Tryz.func63, Tryz.ntmps63
  go_wp2_with fail
  refine C.out.mono ?_
  rintro e w1 ⟨rfl | rfl, rfl⟩
  · go_wp2
    go_ret
    exact ⟨_, rfl, Nat.le_refl _, blk_new _ _, (Below.refl _ _).alloc (Nat.le_refl _) _⟩
  · go_wp2
    go_ret
    exact ⟨_, rfl, Nat.le_refl _, blk_new _ _, (Below.refl _ _).alloc (Nat.le_refl _) _⟩

/-- The kinds that are made of a value and an origin, with what they come to. -/
def Kind3 (k ch sg : Int) : Prop := (k = 12 ∧ ch = 0 ∧ sg = 3) ∨ (k = 15 ∧ ch = 0 ∧ sg = 4) ∨ (k = 16 ∧ ch = 0 ∧ sg = 5) ∨ (k = 17 ∧ ch = 0 ∧ sg = 5) ∨ (k = 18 ∧ ch = 0 ∧ sg = 6) ∨ (k = 19 ∧ ch = 0 ∧ sg = 6) ∨ (k = 31 ∧ ch = 2 ∧ sg = 0)

set_option maxHeartbeats 8000000 in
set_option maxRecDepth 100000 in
theorem maker_any (k ch sg : Int) (hk : Kind3 k ch sg) (v o : ByteArray) (q : Nat) (w : World) :
    Calls Tryz.prog 21 #[.int .i64 k, .string v, .string o, .pointer (some ⟨q, 0, none⟩)] w (Maked k ch sg v o q w) := by
  rcases hk with ⟨rfl, rfl, rfl⟩ | ⟨rfl, rfl, rfl⟩ | ⟨rfl, rfl, rfl⟩ | ⟨rfl, rfl, rfl⟩ | ⟨rfl, rfl, rfl⟩ | ⟨rfl, rfl, rfl⟩ | ⟨rfl, rfl, rfl⟩
  case inr.inl =>
    have C := Aside0.mk (tag_any v o q w)
    go_enter Tryz.func21, Tryz.ntmps21
    go_wp2_with fail
    refine C.out.mono ?_
    rintro e w1 ⟨t, rfl, h1, h2, h3⟩
    have H1 := Aside0.mk h1
    have H2 := Aside0.mk h2
    have H3 := Aside0.mk h3
    clear h1 h2 h3
    go_wp2_with fail
    go_ret
    exact ⟨t, rfl, H1.out, H2.out, H3.out⟩
  all_goals
    go_enter Tryz.func21, Tryz.ntmps21
    go_wp2
    go_ret
    exact ⟨_, rfl, Nat.le_refl _, blk_new _ _, (Below.refl _ _).alloc (Nat.le_refl _) _⟩
end Go.Proofs.YtlkbhmmelejmjaaGreatDoor.TokBase
