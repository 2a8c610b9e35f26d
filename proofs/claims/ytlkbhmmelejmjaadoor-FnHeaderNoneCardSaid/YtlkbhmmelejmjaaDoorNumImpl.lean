/- Numbers: impl.ToNumber, and the comparison with what is wanted. -/
import Derived.Test.YtlkbhmmelejmjaaDoorNumTok
namespace Go.Proofs.YtlkbhmmelejmjaaDoor.NumImpl
open Go.RowKit Go.Proofs.YtlkbhmmelejmjaaDoorW.PrintWords Go.Proofs.YtlkbhmmelejmjaaDoor.NumKnown Go.Proofs.YtlkbhmmelejmjaaDoor.NumPure Go.Proofs.YtlkbhmmelejmjaaDoor.NumParse Go.Proofs.YtlkbhmmelejmjaaDoor.NumTok
set_option linter.unusedVariables false
set_option linter.unusedSimpArgs false
attribute [local go_sem ↓] Go.wp_at_zero Go.wp_at_succ

theorem run_store_float {P : Program} {a : Addr} {m : Mode} {w : World} (k : FloatKind) (x : Nat) : (store a (.float k x) m).run P w = stored P w a (.float k x) m := run_store P w a _ m rfl
attribute [local go_sem] run_store_float

def NumP (typ : ByteArray) (v : Value) (text : ByteArray) (w : World) (e : Ending) (w' : World) : Prop := ∃ p, e = .returned (.pointer (some ⟨p, 0, none⟩)) ∧ w.heap.size ≤ p ∧ w'.heap[p]? = some (.cells #[.string typ, v, .string text] 43 (0, 0)) ∧ Below w.heap.size w w'

theorem toNumP (s typ text : ByteArray) (v : Value) (H : ∀ W, Calls Tryd.prog 21 #[.string s] W (Numb typ v text W)) (w : World) : Calls Tryd.prog 15 #[.string s] w (NumP typ v text w) := by
  have C := Aside0.mk H
  clear H
  go_enter Tryd.func15, Tryd.ntmps15
  go_wp2_with fail
  refine (C.out _).mono ?_
  rintro e w1 ⟨p, rfl, h1, h2, h3⟩
  have H1 := Aside0.mk h1
  have H2 := Aside0.mk h2
  have H3 := Aside0.mk h3
  clear h1 h2 h3
  go_wp2_with fail
  go_ret
  exact ⟨p, rfl, H1.out, H2.out, H3.out⟩

theorem ta_22_2 (a : Int) (W : World) : (Instr.typeAssert (.iface 22 (.int .u64 a)) 20 2 true).run Tryd.prog W = .ok (.tuple #[.int .i64 0, .bool false]) W := by kernel_rfl
theorem ta_22_22 (a : Int) (W : World) : (Instr.typeAssert (.iface 22 (.int .u64 a)) 20 22 true).run Tryd.prog W = .ok (.tuple #[.int .u64 a, .bool true]) W := by kernel_rfl
theorem ta_2_2 (a : Int) (W : World) : (Instr.typeAssert (.iface 2 (.int .i64 a)) 20 2 true).run Tryd.prog W = .ok (.tuple #[.int .i64 a, .bool true]) W := by kernel_rfl

/-- A number as data. -/
def numV (typ text : ByteArray) (kind i u : Int) (f : Nat) : Value := .agg #[.bool true, .string typ, .string text, .int .i64 kind, .int .i64 i, .int .u64 u, .float .f64 f]
def NumD (typ text : ByteArray) (kind i u : Int) (f : Nat) (w : World) (e : Ending) (w' : World) : Prop := e = .returned (numV typ text kind i u f) ∧ Below w.heap.size w w'

theorem set7_blk (w : World) (B : Nat) (typ text : ByteArray) (kind i u : Int) (f : Nat) (h : w.heap[B]? = some (.cells #[.bool false, .string ⟨#[]⟩, .string ⟨#[]⟩, .int .i64 0, .int .i64 0, .int .u64 0, .float .f64 0] 25 (0, 0))) : (World.setCell (World.setCell (World.setCell (World.setCell (World.setCell (World.setCell (World.setCell w ⟨B, 0, none⟩ (.bool true)) ⟨B, 1, none⟩ (.string typ)) ⟨B, 2, none⟩ (.string text)) ⟨B, 3, none⟩ (.int .i64 kind)) ⟨B, 4, none⟩ (.int .i64 i)) ⟨B, 5, none⟩ (.int .u64 u)) ⟨B, 6, none⟩ (.float .f64 f)).heap[B]? = some (.cells #[.bool true, .string typ, .string text, .int .i64 kind, .int .i64 i, .int .u64 u, .float .f64 f] 25 (0, 0)) := by
  have h' := (blk_set (blk_set (blk_set (blk_set (blk_set (blk_set (blk_set h 0 (.bool true)) 1 (.string typ)) 2 (.string text)) 3 (.int .i64 kind)) 4 (.int .i64 i)) 5 (.int .u64 u)) 6 (.float .f64 f))
  rw [h']
  simp only [List.setIfInBounds_toArray, List.set_cons_zero, List.set_cons_succ]
theorem set7_below (w0 w : World) (b B : Nat) (typ text : ByteArray) (kind i u : Int) (f : Nat) (h : Below b w0 w) (hb : b ≤ B) : Below b w0 (World.setCell (World.setCell (World.setCell (World.setCell (World.setCell (World.setCell (World.setCell w ⟨B, 0, none⟩ (.bool true)) ⟨B, 1, none⟩ (.string typ)) ⟨B, 2, none⟩ (.string text)) ⟨B, 3, none⟩ (.int .i64 kind)) ⟨B, 4, none⟩ (.int .i64 i)) ⟨B, 5, none⟩ (.int .u64 u)) ⟨B, 6, none⟩ (.float .f64 f)) := (Below.setCell (Below.setCell (Below.setCell (Below.setCell (Below.setCell (Below.setCell (Below.setCell h hb _) hb _) hb _) hb _) hb _) hb _) hb _)

set_option maxHeartbeats 4000000 in
set_option maxRecDepth 100000 in
theorem impl_uint (s typ text : ByteArray) (a : Int) (H : ∀ W, Calls Tryd.prog 15 #[.string s] W (NumP typ (.iface 22 (.int .u64 a)) text W)) (w : World) : Calls Tryd.prog 7 #[.string s] w (NumD typ text 2 0 a 0 w) := by
  have C := Aside0.mk H
  have ta0 := ta_22_2 a
  have ta1 := ta_22_22 a
  clear H
  go_enter Tryd.func7, Tryd.ntmps7
  go_wp2_with fail
  refine (C.out _).mono ?_
  rintro e w1 ⟨p, rfl, h1, h2, h3⟩
  have hz := blk_below (blk_new w (.cells #[.bool false, .string ⟨#[]⟩, .string ⟨#[]⟩, .int .i64 0, .int .i64 0, .int .u64 0, .float .f64 0] 25)) h3
  have z0 := blk_cell hz 0
  have zf0 := blk_frozen hz 0
  have z1 := blk_cell hz 1
  have zf1 := blk_frozen hz 1
  have z2 := blk_cell hz 2
  have zf2 := blk_frozen hz 2
  have z3 := blk_cell hz 3
  have zf3 := blk_frozen hz 3
  have z4 := blk_cell hz 4
  have zf4 := blk_frozen hz 4
  have z5 := blk_cell hz 5
  have zf5 := blk_frozen hz 5
  have z6 := blk_cell hz 6
  have zf6 := blk_frozen hz 6
  have x0 := fun o => blk_cell (blk_alloc h2 o) 0
  have x1 := fun o => blk_cell (blk_alloc h2 o) 1
  have x2 := fun o => blk_cell (blk_alloc h2 o) 2
  have y0 := blk_cell h2 0
  have y1 := blk_cell h2 1
  have y2 := blk_cell h2 2
  simp only [List.getElem?_toArray, List.getElem?_cons_succ, List.getElem?_cons_zero] at x0 x1 x2 y0 y1 y2 z0 z1 z2 z3 z4 z5 z6
  have lt := blk_lt h2
  have lt0 := blk_lt hz
  have hsz : w.heap.size + 1 ≤ w1.heap.size := lt0
  have H2 := Aside0.mk h2
  have H3 := Aside0.mk (((Below.refl w.heap.size w).alloc (Nat.le_refl _) _).trans (h3.mono (by simp)))
  have HZ := Aside0.mk hz
  clear h2 h3 h1 hz
  go_wp2_with fail
  go_region_held3 (fun w' => w'.cell? ⟨p, 0, none⟩ = some (.string typ) ∧ w'.cell? ⟨p, 2, none⟩ = some (.string text)) (go_keep) (fail)
  all_goals
    go_wp2_with fail
    have hblk := blk_drew (blk_alloc (set7_blk w1 w.heap.size typ text 2 (0) (a) (0) HZ.out) (.cells #[.bool true, .string typ, .string text, .int .i64 (2), .int .i64 (0), .int .u64 (a), .float .f64 (0)] 25))
    have hbel := ((set7_below w w1 w.heap.size w.heap.size typ text 2 (0) (a) (0) H3.out (Nat.le_refl _)).alloc (by have := H3.out.size; simp; omega) (.cells #[.bool true, .string typ, .string text, .int .i64 (2), .int .i64 (0), .int .u64 (a), .float .f64 (0)] 25)).drew
    exact bodyPost_ret (results_single rfl (.cell w.heap.size 25 _ (0, 0) _ rfl hblk Tryd.underlying25 rfl (by kernel_rfl) .nil)) rfl ⟨rfl, hbel⟩

set_option maxHeartbeats 4000000 in
set_option maxRecDepth 100000 in
theorem impl_int (s typ text : ByteArray) (a : Int) (H : ∀ W, Calls Tryd.prog 15 #[.string s] W (NumP typ (.iface 2 (.int .i64 a)) text W)) (w : World) : Calls Tryd.prog 7 #[.string s] w (NumD typ text 1 a 0 0 w) := by
  have C := Aside0.mk H
  have ta0 := ta_2_2 a
  clear H
  go_enter Tryd.func7, Tryd.ntmps7
  go_wp2_with fail
  refine (C.out _).mono ?_
  rintro e w1 ⟨p, rfl, h1, h2, h3⟩
  have hz := blk_below (blk_new w (.cells #[.bool false, .string ⟨#[]⟩, .string ⟨#[]⟩, .int .i64 0, .int .i64 0, .int .u64 0, .float .f64 0] 25)) h3
  have z0 := blk_cell hz 0
  have zf0 := blk_frozen hz 0
  have z1 := blk_cell hz 1
  have zf1 := blk_frozen hz 1
  have z2 := blk_cell hz 2
  have zf2 := blk_frozen hz 2
  have z3 := blk_cell hz 3
  have zf3 := blk_frozen hz 3
  have z4 := blk_cell hz 4
  have zf4 := blk_frozen hz 4
  have z5 := blk_cell hz 5
  have zf5 := blk_frozen hz 5
  have z6 := blk_cell hz 6
  have zf6 := blk_frozen hz 6
  have x0 := fun o => blk_cell (blk_alloc h2 o) 0
  have x1 := fun o => blk_cell (blk_alloc h2 o) 1
  have x2 := fun o => blk_cell (blk_alloc h2 o) 2
  have y0 := blk_cell h2 0
  have y1 := blk_cell h2 1
  have y2 := blk_cell h2 2
  simp only [List.getElem?_toArray, List.getElem?_cons_succ, List.getElem?_cons_zero] at x0 x1 x2 y0 y1 y2 z0 z1 z2 z3 z4 z5 z6
  have lt := blk_lt h2
  have lt0 := blk_lt hz
  have hsz : w.heap.size + 1 ≤ w1.heap.size := lt0
  have H2 := Aside0.mk h2
  have H3 := Aside0.mk (((Below.refl w.heap.size w).alloc (Nat.le_refl _) _).trans (h3.mono (by simp)))
  have HZ := Aside0.mk hz
  clear h2 h3 h1 hz
  go_wp2_with fail
  go_region_held3 (fun w' => w'.cell? ⟨p, 0, none⟩ = some (.string typ) ∧ w'.cell? ⟨p, 2, none⟩ = some (.string text)) (go_keep) (fail)
  all_goals
    go_wp2_with fail
    have hblk := blk_drew (blk_alloc (set7_blk w1 w.heap.size typ text 1 (a) (0) (0) HZ.out) (.cells #[.bool true, .string typ, .string text, .int .i64 (1), .int .i64 (a), .int .u64 (0), .float .f64 (0)] 25))
    have hbel := ((set7_below w w1 w.heap.size w.heap.size typ text 1 (a) (0) (0) H3.out (Nat.le_refl _)).alloc (by have := H3.out.size; simp; omega) (.cells #[.bool true, .string typ, .string text, .int .i64 (1), .int .i64 (a), .int .u64 (0), .float .f64 (0)] 25)).drew
    exact bodyPost_ret (results_single rfl (.cell w.heap.size 25 _ (0, 0) _ rfl hblk Tryd.underlying25 rfl (by kernel_rfl) .nil)) rfl ⟨rfl, hbel⟩
end Go.Proofs.YtlkbhmmelejmjaaDoor.NumImpl
