/- Parts of the proof of FnNumberToken, one behind the other: NumTell, NumLives, TokNum, TokTell, FltLaid. Each part says ahead of itself what it proves. -/
import Derived.Test.YtlkbhmmelejmjaaGreatDoorPkFnNumberToken9
import Derived.Test.YtlkbhmmelejmjaaGreatDoorTokMake
import Derived.Test.YtlkbhmmelejmjaaGreatDoorPkFnNumberToken8
import Derived.Lib.LaidU8
import Derived.Stop.LaidErr

/- Numbers: token.ToNumber, impl.ToNumber and isNumber at any text. -/
namespace Go.Proofs.YtlkbhmmelejmjaaGreatDoor.NumTell
open Go.RowKit Go.Proofs.YtlkbhmmelejmjaaGreatDoorW.PrintWords Go.Proofs.YtlkbhmmelejmjaaGreatDoor.NumErr Go.Proofs.YtlkbhmmelejmjaaGreatDoor.NumAny Go.Proofs.YtlkbhmmelejmjaaGreatDoor.NumAll Go.Proofs.YtlkbhmmelejmjaaGreatDoor.FltAtof
set_option linter.unusedVariables false
set_option linter.unusedSimpArgs false
attribute [local go_sem ↓] Go.wp_at_zero Go.wp_at_succ

theorem run_store_float {P : Program} {a : Addr} {m : Mode} {w : World} (k : FloatKind) (x : Nat) : (store a (.float k x) m).run P w = stored P w a (.float k x) m := run_store P w a _ m rfl
attribute [local go_sem] run_store_float

def TnQ (b : Nat) (e : Ending) (w' : World) : Nr → Prop
  | .num typ v text => ∃ p, e = .returned (.pointer (some ⟨p, 0, none⟩)) ∧ b ≤ p ∧ w'.heap[p]? = some (.cells #[.string typ, v, .string text] 64 (0, 0))
  | _ => e = .returned (.pointer none)
def TnP (r : Nr) (w : World) (e : Ending) (w' : World) : Prop := Below w.heap.size w w' ∧ TnQ w.heap.size e w' r

set_option maxRecDepth 100000 in
theorem tn_of (EV : Nat → Value) (s : ByteArray) (r : Nr) (w : World) (C : Calls Tryz.prog 76 #[.string s] w (ToP EV r w)) : Calls Tryz.prog 26 #[.string s] w (TnP r w) := by
  replace C := Aside0.mk C
  unfold ToP at C
  cases r with
  | none =>
    simp only [ToQ] at C
    go_enter Tryz.func26, Tryz.ntmps26
    go_wp2_with fail
    refine C.out.mono ?_
    rintro e w1 ⟨hb, rfl⟩
    go_wp2_with fail
    go_ret
    exact ⟨hb, rfl⟩
  | err k =>
    simp only [ToQ] at C
    go_enter Tryz.func26, Tryz.ntmps26
    go_wp2_with fail
    refine C.out.mono ?_
    rintro e w1 ⟨hb, N, fn, ss, rfl, h1, h2⟩
    replace h1 := Aside0.mk h1
    replace h2 := Aside0.mk h2
    go_wp2_with fail
    go_ret
    exact ⟨hb, rfl⟩
  | num typ v text =>
    simp only [ToQ] at C
    go_enter Tryz.func26, Tryz.ntmps26
    go_wp2_with fail
    refine C.out.mono ?_
    rintro e w1 ⟨hb, p, rfl, h1, h2⟩
    replace h1 := Aside0.mk h1
    replace h2 := Aside0.mk h2
    go_wp2_with fail
    go_ret
    exact ⟨hb, p, rfl, h1.out, h2.out⟩

/-- A number as data. -/
def numV (is : Bool) (typ text : ByteArray) (kind i u : Int) (f : Nat) : Value := .agg #[.bool is, .string typ, .string text, .int .i64 kind, .int .i64 i, .int .u64 u, .float .f64 f]
def NumOf (v : Value) (typ text : ByteArray) (d : Value) : Prop := (∃ a, v = iV a ∧ d = numV true typ text 1 a 0 0) ∨ (∃ a, v = uV a ∧ d = numV true typ text 2 0 a 0) ∨ (∃ x, v = fV x ∧ d = numV true typ text 3 0 0 x)
def ImQ (d : Value) : Nr → Prop
  | .num typ v text => NumOf v typ text d
  | _ => d = numV false ⟨#[]⟩ ⟨#[]⟩ 0 0 0 0
def ImP (r : Nr) (w : World) (e : Ending) (w' : World) : Prop := Below w.heap.size w w' ∧ ∃ d, e = .returned d ∧ ImQ d r

theorem ta_u_i (a : Int) (W : World) : (Instr.typeAssert (uV a) 20 2 true).run Tryz.prog W = .ok (.tuple #[.int .i64 0, .bool false]) W := by kernel_rfl
theorem ta_u_u (a : Int) (W : World) : (Instr.typeAssert (uV a) 20 34 true).run Tryz.prog W = .ok (.tuple #[.int .u64 a, .bool true]) W := by kernel_rfl
theorem ta_i_i (a : Int) (W : World) : (Instr.typeAssert (iV a) 20 2 true).run Tryz.prog W = .ok (.tuple #[.int .i64 a, .bool true]) W := by kernel_rfl
theorem ta_f_i (x : Nat) (W : World) : (Instr.typeAssert (fV x) 20 2 true).run Tryz.prog W = .ok (.tuple #[.int .i64 0, .bool false]) W := by kernel_rfl
theorem ta_f_u (x : Nat) (W : World) : (Instr.typeAssert (fV x) 20 34 true).run Tryz.prog W = .ok (.tuple #[.int .u64 0, .bool false]) W := by kernel_rfl
theorem ta_f_f (x : Nat) (W : World) : (Instr.typeAssert (fV x) 20 35 true).run Tryz.prog W = .ok (.tuple #[.float .f64 x, .bool true]) W := by kernel_rfl

theorem set7_blk (w : World) (B : Nat) (typ text : ByteArray) (kind i u : Int) (f : Nat) (h : w.heap[B]? = some (.cells #[.bool false, .string ⟨#[]⟩, .string ⟨#[]⟩, .int .i64 0, .int .i64 0, .int .u64 0, .float .f64 0] 37 (0, 0))) : (World.setCell (World.setCell (World.setCell (World.setCell (World.setCell (World.setCell (World.setCell w ⟨B, 0, none⟩ (.bool true)) ⟨B, 1, none⟩ (.string typ)) ⟨B, 2, none⟩ (.string text)) ⟨B, 3, none⟩ (.int .i64 kind)) ⟨B, 4, none⟩ (.int .i64 i)) ⟨B, 5, none⟩ (.int .u64 u)) ⟨B, 6, none⟩ (.float .f64 f)).heap[B]? = some (.cells #[.bool true, .string typ, .string text, .int .i64 kind, .int .i64 i, .int .u64 u, .float .f64 f] 37 (0, 0)) := by
  have h' := (blk_set (blk_set (blk_set (blk_set (blk_set (blk_set (blk_set h 0 (.bool true)) 1 (.string typ)) 2 (.string text)) 3 (.int .i64 kind)) 4 (.int .i64 i)) 5 (.int .u64 u)) 6 (.float .f64 f))
  rw [h']
  simp only [List.setIfInBounds_toArray, List.set_cons_zero, List.set_cons_succ]
theorem set7_below (w0 w : World) (b B : Nat) (typ text : ByteArray) (kind i u : Int) (f : Nat) (h : Below b w0 w) (hb : b ≤ B) : Below b w0 (World.setCell (World.setCell (World.setCell (World.setCell (World.setCell (World.setCell (World.setCell w ⟨B, 0, none⟩ (.bool true)) ⟨B, 1, none⟩ (.string typ)) ⟨B, 2, none⟩ (.string text)) ⟨B, 3, none⟩ (.int .i64 kind)) ⟨B, 4, none⟩ (.int .i64 i)) ⟨B, 5, none⟩ (.int .u64 u)) ⟨B, 6, none⟩ (.float .f64 f)) := (Below.setCell (Below.setCell (Below.setCell (Below.setCell (Below.setCell (Below.setCell (Below.setCell h hb _) hb _) hb _) hb _) hb _) hb _) hb _)

def NumP (typ : ByteArray) (v : Value) (text : ByteArray) (w : World) (e : Ending) (w' : World) : Prop := ∃ p, e = .returned (.pointer (some ⟨p, 0, none⟩)) ∧ w.heap.size ≤ p ∧ w'.heap[p]? = some (.cells #[.string typ, v, .string text] 64 (0, 0)) ∧ Below w.heap.size w w'
def NumD (typ text : ByteArray) (kind i u : Int) (f : Nat) (w : World) (e : Ending) (w' : World) : Prop := e = .returned (numV true typ text kind i u f) ∧ Below w.heap.size w w'

set_option maxHeartbeats 4000000 in
set_option maxRecDepth 100000 in
theorem impl_uint (s typ text : ByteArray) (a : Int) (w : World) (C : ∀ W, Below w.heap.size w W → Calls Tryz.prog 26 #[.string s] W (NumP typ (.iface 34 (.int .u64 a)) text W)) : Calls Tryz.prog 13 #[.string s] w (NumD typ text 2 0 a 0 w) := by
  replace C := Aside0.mk C
  have ta0 := ta_u_i a
  have ta1 := ta_u_u a
  unfold uV at ta0 ta1
  go_enter Tryz.func13, Tryz.ntmps13
  go_wp2_with fail
  refine (C.out _ (by first | exact Below.refl _ _ | exact (Below.refl _ _).alloc (Nat.le_refl _) _)).mono ?_
  rintro e w1 ⟨p, rfl, h1, h2, h3⟩
  have hz := blk_below (blk_new w (.cells #[.bool false, .string ⟨#[]⟩, .string ⟨#[]⟩, .int .i64 0, .int .i64 0, .int .u64 0, .float .f64 0] 37)) h3
  have z0 := blk_cell hz 0
  have zf0 := blk_frozen hz 0
  have z1 := blk_cell hz 1
  have zf1 := blk_frozen hz 1
  have z2 := blk_cell hz 2
  have zf2 := blk_frozen hz 2
  have z3 := blk_cell hz 3
  have zf3 := blk_frozen hz 3
  have z4 := blk_cell hz 4
  have zf4 := blk_frozen hz 4
  have z5 := blk_cell hz 5
  have zf5 := blk_frozen hz 5
  have z6 := blk_cell hz 6
  have zf6 := blk_frozen hz 6
  have x0 := fun o => blk_cell (blk_alloc h2 o) 0
  have x1 := fun o => blk_cell (blk_alloc h2 o) 1
  have x2 := fun o => blk_cell (blk_alloc h2 o) 2
  have y0 := blk_cell h2 0
  have y1 := blk_cell h2 1
  have y2 := blk_cell h2 2
  simp only [List.getElem?_toArray, List.getElem?_cons_succ, List.getElem?_cons_zero] at x0 x1 x2 y0 y1 y2 z0 z1 z2 z3 z4 z5 z6
  have lt := blk_lt h2
  have lt0 := blk_lt hz
  have hsz : w.heap.size + 1 ≤ w1.heap.size := lt0
  have H2 := Aside0.mk h2
  have H3 := Aside0.mk (((Below.refl w.heap.size w).alloc (Nat.le_refl _) _).trans (h3.mono (by simp)))
  have HZ := Aside0.mk hz
  clear h2 h3 h1 hz
  go_wp2_with fail
  go_region_held3 (fun w' => w'.cell? ⟨p, 0, none⟩ = some (.string typ) ∧ w'.cell? ⟨p, 2, none⟩ = some (.string text)) (go_keep) (fail)
  all_goals
    go_wp2_with fail
    have hblk := blk_drew (blk_alloc (set7_blk w1 w.heap.size typ text 2 (0) (a) (0) HZ.out) (.cells #[.bool true, .string typ, .string text, .int .i64 (2), .int .i64 (0), .int .u64 (a), .float .f64 (0)] 37))
    have hbel := ((set7_below w w1 w.heap.size w.heap.size typ text 2 (0) (a) (0) H3.out (Nat.le_refl _)).alloc (by have := H3.out.size; simp; omega) (.cells #[.bool true, .string typ, .string text, .int .i64 (2), .int .i64 (0), .int .u64 (a), .float .f64 (0)] 37)).drew
    exact bodyPost_ret (results_single rfl (.cell w.heap.size 37 _ (0, 0) _ rfl hblk Tryz.underlying37 rfl (by kernel_rfl) .nil)) rfl ⟨rfl, hbel⟩

set_option maxHeartbeats 4000000 in
set_option maxRecDepth 100000 in
theorem impl_int (s typ text : ByteArray) (a : Int) (w : World) (C : ∀ W, Below w.heap.size w W → Calls Tryz.prog 26 #[.string s] W (NumP typ (.iface 2 (.int .i64 a)) text W)) : Calls Tryz.prog 13 #[.string s] w (NumD typ text 1 a 0 0 w) := by
  replace C := Aside0.mk C
  have ta0 := ta_i_i a
  unfold iV at ta0
  go_enter Tryz.func13, Tryz.ntmps13
  go_wp2_with fail
  refine (C.out _ (by first | exact Below.refl _ _ | exact (Below.refl _ _).alloc (Nat.le_refl _) _)).mono ?_
  rintro e w1 ⟨p, rfl, h1, h2, h3⟩
  have hz := blk_below (blk_new w (.cells #[.bool false, .string ⟨#[]⟩, .string ⟨#[]⟩, .int .i64 0, .int .i64 0, .int .u64 0, .float .f64 0] 37)) h3
  have z0 := blk_cell hz 0
  have zf0 := blk_frozen hz 0
  have z1 := blk_cell hz 1
  have zf1 := blk_frozen hz 1
  have z2 := blk_cell hz 2
  have zf2 := blk_frozen hz 2
  have z3 := blk_cell hz 3
  have zf3 := blk_frozen hz 3
  have z4 := blk_cell hz 4
  have zf4 := blk_frozen hz 4
  have z5 := blk_cell hz 5
  have zf5 := blk_frozen hz 5
  have z6 := blk_cell hz 6
  have zf6 := blk_frozen hz 6
  have x0 := fun o => blk_cell (blk_alloc h2 o) 0
  have x1 := fun o => blk_cell (blk_alloc h2 o) 1
  have x2 := fun o => blk_cell (blk_alloc h2 o) 2
  have y0 := blk_cell h2 0
  have y1 := blk_cell h2 1
  have y2 := blk_cell h2 2
  simp only [List.getElem?_toArray, List.getElem?_cons_succ, List.getElem?_cons_zero] at x0 x1 x2 y0 y1 y2 z0 z1 z2 z3 z4 z5 z6
  have lt := blk_lt h2
  have lt0 := blk_lt hz
  have hsz : w.heap.size + 1 ≤ w1.heap.size := lt0
  have H2 := Aside0.mk h2
  have H3 := Aside0.mk (((Below.refl w.heap.size w).alloc (Nat.le_refl _) _).trans (h3.mono (by simp)))
  have HZ := Aside0.mk hz
  clear h2 h3 h1 hz
  go_wp2_with fail
  go_region_held3 (fun w' => w'.cell? ⟨p, 0, none⟩ = some (.string typ) ∧ w'.cell? ⟨p, 2, none⟩ = some (.string text)) (go_keep) (fail)
  all_goals
    go_wp2_with fail
    have hblk := blk_drew (blk_alloc (set7_blk w1 w.heap.size typ text 1 (a) (0) (0) HZ.out) (.cells #[.bool true, .string typ, .string text, .int .i64 (1), .int .i64 (a), .int .u64 (0), .float .f64 (0)] 37))
    have hbel := ((set7_below w w1 w.heap.size w.heap.size typ text 1 (a) (0) (0) H3.out (Nat.le_refl _)).alloc (by have := H3.out.size; simp; omega) (.cells #[.bool true, .string typ, .string text, .int .i64 (1), .int .i64 (a), .int .u64 (0), .float .f64 (0)] 37)).drew
    exact bodyPost_ret (results_single rfl (.cell w.heap.size 37 _ (0, 0) _ rfl hblk Tryz.underlying37 rfl (by kernel_rfl) .nil)) rfl ⟨rfl, hbel⟩

set_option maxHeartbeats 4000000 in
set_option maxRecDepth 100000 in
theorem impl_flt (s typ text : ByteArray) (x : Nat) (w : World) (C : ∀ W, Below w.heap.size w W → Calls Tryz.prog 26 #[.string s] W (NumP typ (.iface 35 (.float .f64 x)) text W)) : Calls Tryz.prog 13 #[.string s] w (NumD typ text 3 0 0 x w) := by
  replace C := Aside0.mk C
  have ta0 := ta_f_i x
  have ta1 := ta_f_u x
  have ta2 := ta_f_f x
  unfold fV at ta0 ta1 ta2
  go_enter Tryz.func13, Tryz.ntmps13
  go_wp2_with fail
  refine (C.out _ (by first | exact Below.refl _ _ | exact (Below.refl _ _).alloc (Nat.le_refl _) _)).mono ?_
  rintro e w1 ⟨p, rfl, h1, h2, h3⟩
  have hz := blk_below (blk_new w (.cells #[.bool false, .string ⟨#[]⟩, .string ⟨#[]⟩, .int .i64 0, .int .i64 0, .int .u64 0, .float .f64 0] 37)) h3
  have z0 := blk_cell hz 0
  have zf0 := blk_frozen hz 0
  have z1 := blk_cell hz 1
  have zf1 := blk_frozen hz 1
  have z2 := blk_cell hz 2
  have zf2 := blk_frozen hz 2
  have z3 := blk_cell hz 3
  have zf3 := blk_frozen hz 3
  have z4 := blk_cell hz 4
  have zf4 := blk_frozen hz 4
  have z5 := blk_cell hz 5
  have zf5 := blk_frozen hz 5
  have z6 := blk_cell hz 6
  have zf6 := blk_frozen hz 6
  have x0 := fun o => blk_cell (blk_alloc h2 o) 0
  have x1 := fun o => blk_cell (blk_alloc h2 o) 1
  have x2 := fun o => blk_cell (blk_alloc h2 o) 2
  have y0 := blk_cell h2 0
  have y1 := blk_cell h2 1
  have y2 := blk_cell h2 2
  simp only [List.getElem?_toArray, List.getElem?_cons_succ, List.getElem?_cons_zero] at x0 x1 x2 y0 y1 y2 z0 z1 z2 z3 z4 z5 z6
  have lt := blk_lt h2
  have lt0 := blk_lt hz
  have hsz : w.heap.size + 1 ≤ w1.heap.size := lt0
  have H2 := Aside0.mk h2
  have H3 := Aside0.mk (((Below.refl w.heap.size w).alloc (Nat.le_refl _) _).trans (h3.mono (by simp)))
  have HZ := Aside0.mk hz
  clear h2 h3 h1 hz
  go_wp2_with fail
  go_region_held3 (fun w' => w'.cell? ⟨p, 0, none⟩ = some (.string typ) ∧ w'.cell? ⟨p, 2, none⟩ = some (.string text)) (go_keep) (fail)
  all_goals
    go_wp2_with fail
    have hblk := blk_drew (blk_alloc (set7_blk w1 w.heap.size typ text 3 (0) (0) (x) HZ.out) (.cells #[.bool true, .string typ, .string text, .int .i64 (3), .int .i64 (0), .int .u64 (0), .float .f64 (x)] 37))
    have hbel := ((set7_below w w1 w.heap.size w.heap.size typ text 3 (0) (0) (x) H3.out (Nat.le_refl _)).alloc (by have := H3.out.size; simp; omega) (.cells #[.bool true, .string typ, .string text, .int .i64 (3), .int .i64 (0), .int .u64 (0), .float .f64 (x)] 37)).drew
    exact bodyPost_ret (results_single rfl (.cell w.heap.size 37 _ (0, 0) _ rfl hblk Tryz.underlying37 rfl (by kernel_rfl) .nil)) rfl ⟨rfl, hbel⟩

theorem set7_zero (w : World) (B : Nat) (h : w.heap[B]? = some (.cells #[.bool false, .string ⟨#[]⟩, .string ⟨#[]⟩, .int .i64 0, .int .i64 0, .int .u64 0, .float .f64 0] 37 (0, 0))) : (World.setCell (World.setCell (World.setCell (World.setCell (World.setCell (World.setCell (World.setCell w ⟨B, 0, none⟩ (.bool false)) ⟨B, 1, none⟩ (.string ⟨#[]⟩)) ⟨B, 2, none⟩ (.string ⟨#[]⟩)) ⟨B, 3, none⟩ (.int .i64 0)) ⟨B, 4, none⟩ (.int .i64 0)) ⟨B, 5, none⟩ (.int .u64 0)) ⟨B, 6, none⟩ (.float .f64 0)).heap[B]? = some (.cells #[.bool false, .string ⟨#[]⟩, .string ⟨#[]⟩, .int .i64 0, .int .i64 0, .int .u64 0, .float .f64 0] 37 (0, 0)) := by
  have h' := (blk_set (blk_set (blk_set (blk_set (blk_set (blk_set (blk_set h 0 (.bool false)) 1 (.string ⟨#[]⟩)) 2 (.string ⟨#[]⟩)) 3 (.int .i64 0)) 4 (.int .i64 0)) 5 (.int .u64 0)) 6 (.float .f64 0))
  rw [h']
  simp only [List.setIfInBounds_toArray, List.set_cons_zero, List.set_cons_succ]
theorem set7_zbelow (w0 w : World) (b B : Nat) (h : Below b w0 w) (hb : b ≤ B) : Below b w0 (World.setCell (World.setCell (World.setCell (World.setCell (World.setCell (World.setCell (World.setCell w ⟨B, 0, none⟩ (.bool false)) ⟨B, 1, none⟩ (.string ⟨#[]⟩)) ⟨B, 2, none⟩ (.string ⟨#[]⟩)) ⟨B, 3, none⟩ (.int .i64 0)) ⟨B, 4, none⟩ (.int .i64 0)) ⟨B, 5, none⟩ (.int .u64 0)) ⟨B, 6, none⟩ (.float .f64 0)) := (Below.setCell (Below.setCell (Below.setCell (Below.setCell (Below.setCell (Below.setCell (Below.setCell h hb _) hb _) hb _) hb _) hb _) hb _) hb _)

def NonD (w : World) (e : Ending) (w' : World) : Prop := e = .returned (numV false ⟨#[]⟩ ⟨#[]⟩ 0 0 0 0) ∧ Below w.heap.size w w'
set_option maxHeartbeats 4000000 in
set_option maxRecDepth 100000 in
theorem impl_none (s : ByteArray) (w : World) (C : ∀ W, Below w.heap.size w W → Calls Tryz.prog 26 #[.string s] W (fun e w' => Below W.heap.size W w' ∧ e = .returned (.pointer none))) : Calls Tryz.prog 13 #[.string s] w (NonD w) := by
  replace C := Aside0.mk C
  go_enter Tryz.func13, Tryz.ntmps13
  go_wp2_with fail
  refine (C.out _ (by first | exact Below.refl _ _ | exact (Below.refl _ _).alloc (Nat.le_refl _) _)).mono ?_
  rintro e w1 ⟨h3, rfl⟩
  have hz := blk_below (blk_new w (.cells #[.bool false, .string ⟨#[]⟩, .string ⟨#[]⟩, .int .i64 0, .int .i64 0, .int .u64 0, .float .f64 0] 37)) h3
  have z0 := blk_cell hz 0
  have zf0 := blk_frozen hz 0
  have z1 := blk_cell hz 1
  have zf1 := blk_frozen hz 1
  have z2 := blk_cell hz 2
  have zf2 := blk_frozen hz 2
  have z3 := blk_cell hz 3
  have zf3 := blk_frozen hz 3
  have z4 := blk_cell hz 4
  have zf4 := blk_frozen hz 4
  have z5 := blk_cell hz 5
  have zf5 := blk_frozen hz 5
  have z6 := blk_cell hz 6
  have zf6 := blk_frozen hz 6
  simp only [List.getElem?_toArray, List.getElem?_cons_succ, List.getElem?_cons_zero] at z0 z1 z2 z3 z4 z5 z6
  have lt0 := blk_lt hz
  have H3 := Aside0.mk (((Below.refl w.heap.size w).alloc (Nat.le_refl _) _).trans (h3.mono (by simp)))
  have HZ := Aside0.mk hz
  clear h3 hz
  go_wp2_with fail
  exact bodyPost_ret (results_single rfl (.cell w.heap.size 37 _ (0, 0) _ rfl (set7_zero w1 w.heap.size HZ.out) Tryz.underlying37 rfl (by kernel_rfl) .nil)) rfl ⟨rfl, set7_zbelow w w1 w.heap.size w.heap.size H3.out (Nat.le_refl _)⟩

/-- impl.ToNumber at any text. -/
theorem impl_of (s : ByteArray) (r : Nr) (hv : ∀ typ v text, r = .num typ v text → Vk v) (w : World) (C : ∀ W, Below w.heap.size w W → Calls Tryz.prog 26 #[.string s] W (TnP r W)) : Calls Tryz.prog 13 #[.string s] w (ImP r w) := by
  cases r with
  | none => exact (impl_none s w fun W hW => C W hW).mono fun e w' h => ⟨h.2, _, h.1, rfl⟩
  | err k => exact (impl_none s w fun W hW => C W hW).mono fun e w' h => ⟨h.2, _, h.1, rfl⟩
  | num typ v text =>
    have D : ∀ W, Below w.heap.size w W → Calls Tryz.prog 26 #[.string s] W (NumP typ v text W) := fun W hW => (C W hW).mono fun e w' ⟨hb, p, h1, h2, h3⟩ => ⟨p, h1, h2, h3, hb⟩
    rcases hv typ v text rfl with ⟨a, rfl⟩ | ⟨a, rfl⟩ | ⟨x, rfl⟩
    · exact (impl_int s typ text a w D).mono fun e w' h => ⟨h.2, _, h.1, .inl ⟨a, rfl, rfl⟩⟩
    · exact (impl_uint s typ text a w D).mono fun e w' h => ⟨h.2, _, h.1, .inr (.inl ⟨a, rfl, rfl⟩)⟩
    · exact (impl_flt s typ text x w D).mono fun e w' h => ⟨h.2, _, h.1, .inr (.inr ⟨x, rfl, rfl⟩)⟩

/-! ### any text -/
theorem tn_any (B : Nat) (H O X : Nat → Nat) (EV : Nat → Value) (s : ByteArray) (hsz : s.size ≤ 2147483648) (w : World) (hB : B ≤ w.heap.size) (hT : Tabs B H O X w) (hE : Errs B EV w) : Calls Tryz.prog 26 #[.string s] w (TnP (numR H O X s) w) := tn_of EV s _ w (to_any B H O X EV s hsz w hB hT hE)
theorem im_any (B : Nat) (H O X : Nat → Nat) (EV : Nat → Value) (s : ByteArray) (hsz : s.size ≤ 2147483648) (w : World) (hB : B ≤ w.heap.size) (hT : Tabs B H O X w) (hE : Errs B EV w) : Calls Tryz.prog 13 #[.string s] w (ImP (numR H O X s) w) :=
  impl_of s _ (fun typ v text h => (numR_val h).1) w fun W hW => tn_any B H O X EV s hsz W (Nat.le_trans hB hW.size) (hT.keep hW hB) (hE.keep hW hB)
end Go.Proofs.YtlkbhmmelejmjaaGreatDoor.NumTell

/- Numbers: nbLives, the law's own look whether the functions live. -/
namespace Go.Proofs.YtlkbhmmelejmjaaGreatDoor.NumLives
open Go.RowKit Go.Proofs.YtlkbhmmelejmjaaGreatDoorW.PrintWords Go.Proofs.YtlkbhmmelejmjaaGreatDoor.NumKnown Go.Proofs.YtlkbhmmelejmjaaGreatDoor.NumPure Go.Proofs.YtlkbhmmelejmjaaGreatDoor.NumErr Go.Proofs.YtlkbhmmelejmjaaGreatDoor.NumAny Go.Proofs.YtlkbhmmelejmjaaGreatDoor.NumAll Go.Proofs.YtlkbhmmelejmjaaGreatDoor.NumTell Go.Proofs.YtlkbhmmelejmjaaGreatDoor.FltAtof
set_option linter.unusedVariables false
set_option linter.unusedSimpArgs false
attribute [local go_sem ↓] Go.wp_at_zero Go.wp_at_succ

theorem cnt_none {v : ByteArray} {b : UInt8} (h : b ∉ v.data.toList) : cnt b v = 0 := List.count_eq_zero.2 h
theorem one_none (v : ByteArray) (b : UInt8) (h : b ∉ v.data.toList) (hs : v.size ≤ 2305843009213693952) (w : World) : Calls Tryz.prog 90 #[.string v, .string ⟨#[b]⟩] w (Cnt 0 w) := by
  have := count_one v b hs w
  rw [cnt_none h] at this
  exact this

set_option maxRecDepth 100000 in
theorem detect_of (v : ByteArray) (n m : Int) (r : ByteArray) (C1 : ∀ w, Calls Tryz.prog 90 #[.string v, .string ⟨#[10]⟩] w (Cnt n w)) (C2 : ∀ w, Calls Tryz.prog 90 #[.string v, .string ⟨#[13]⟩] w (Cnt 0 w)) (C3 : ∀ w, Calls Tryz.prog 90 #[.string v, .string ⟨#[13, 10]⟩] w (Cnt 0 w)) (hn : (n = 0 ∧ r = ⟨#[13, 10]⟩) ∨ (0 < n ∧ r = ⟨#[10]⟩)) (w : World) : Calls Tryz.prog 95 #[.string v] w (Str r w) := by
  have A1 := Aside0.mk C1
  have A2 := Aside0.mk C2
  have A3 := Aside0.mk C3
  clear C1 C2 C3
  rcases hn with ⟨rfl, rfl⟩ | ⟨hn, rfl⟩
  · go_enter Tryz.func95, Tryz.ntmps95
    go_wp2_with fail
    refine (A1.out _).mono ?_
    rintro e w1 ⟨rfl, rfl⟩
    go_wp2_with fail
    refine (A2.out _).mono ?_
    rintro e w1 ⟨rfl, rfl⟩
    go_wp2_with fail
    refine (A3.out _).mono ?_
    rintro e w1 ⟨rfl, rfl⟩
    go_wp2_with fail
    go_ret
    exact ⟨rfl, Below.refl _ _⟩
  · have q1 : (n == 0) = false := beq_eq_false_iff_ne.mpr (by omega)
    have q2 : ¬ (n < 0) := by omega
    go_enter Tryz.func95, Tryz.ntmps95
    go_wp2_with fail
    refine (A1.out _).mono ?_
    rintro e w1 ⟨rfl, rfl⟩
    go_wp2_with fail
    refine (A2.out _).mono ?_
    rintro e w1 ⟨rfl, rfl⟩
    go_wp2_with fail
    refine (A3.out _).mono ?_
    rintro e w1 ⟨rfl, rfl⟩
    go_wp2_with fail
    go_ret
    exact ⟨rfl, Below.refl _ _⟩

theorem contains_none (v : ByteArray) (h : (13 : UInt8) ∉ v.data.toList) (hs : v.size ≤ 2305843009213693952) (w : World) : Calls Tryz.prog 96 #[.string v, .string ⟨#[13, 10]⟩] w (Bo false w) := by
  refine (token_zzContains.calls (v.size + 2) v ⟨#[13, 10]⟩ false w ?_).mono fun e w' hh => ⟨hh.1, hh.2.below⟩
  unfold token_zzContains.f
  rw [idx_none_f (b := 13) rfl h hs (by show 2 ≤ _; omega) (by show 0 < 2; omega) (v.size + 2) (by omega)]
  rfl

set_option maxRecDepth 100000 in
theorem lit_none (v : ByteArray) (h0 : (10 : UInt8) ∉ v.data.toList) (h1 : (13 : UInt8) ∉ v.data.toList) (hs : v.size ≤ 2305843009213693952) (w : World) : Calls Tryz.prog 77 #[.string v] w (Str ⟨#[]⟩ w) := by
  have A1 := Aside0.mk (detect_of v 0 0 ⟨#[13, 10]⟩ (one_none v 10 h0 hs) (one_none v 13 h1 hs) (count_two v 13 10 h1 hs) (.inl ⟨rfl, rfl⟩))
  have A2 := Aside0.mk (contains_none v h1 hs)
  clear h0 h1
  go_enter Tryz.func77, Tryz.ntmps77
  go_wp2_with fail
  refine (A1.out _).mono ?_
  rintro e w1 ⟨rfl, hb1⟩
  have B1 := Aside0.mk hb1
  clear hb1
  go_wp2_with fail
  refine (A2.out _).mono ?_
  rintro e w2 ⟨rfl, hb2⟩
  have B2 := Aside0.mk (B1.out.trans (hb2.mono B1.out.size))
  clear hb2
  go_wp2_with fail
  go_ret
  exact ⟨rfl, B2.out⟩

def abab : ByteArray := ⟨#[97, 10, 98, 10]⟩
theorem abab_two (w : World) : Calls Tryz.prog 90 #[.string ⟨#[97, 10, 98, 10]⟩, .string ⟨#[10]⟩] w (Cnt 2 w) := count_one ⟨#[97, 10, 98, 10]⟩ 10 (by show 4 ≤ _; omega) w
theorem abab_det (w : World) : Calls Tryz.prog 95 #[.string ⟨#[97, 10, 98, 10]⟩] w (Str ⟨#[10]⟩ w) :=
  detect_of ⟨#[97, 10, 98, 10]⟩ 2 0 ⟨#[10]⟩ abab_two (one_none _ 13 (by decide) (by show 4 ≤ _; omega)) (count_two _ 13 10 (by decide) (by show 4 ≤ _; omega)) (.inr ⟨by omega, rfl⟩) w
theorem abab_has (w : World) : Calls Tryz.prog 96 #[.string ⟨#[97, 10, 98, 10]⟩, .string ⟨#[10]⟩] w (Bo true w) :=
  (token_zzContains.calls 10 ⟨#[97, 10, 98, 10]⟩ ⟨#[10]⟩ true w (by kernel_rfl)).mono fun e w' hh => ⟨hh.1, hh.2.below⟩
theorem abab_suf (w : World) : Calls Tryz.prog 97 #[.string ⟨#[97, 10, 98, 10]⟩, .string ⟨#[10]⟩] w (Bo true w) :=
  (strings_HasSuffix.calls ⟨#[97, 10, 98, 10]⟩ ⟨#[10]⟩ true w (by kernel_rfl)).mono fun e w' hh => ⟨hh.1, hh.2.below⟩
theorem ten_ten : (⟨#[10]⟩ ++ ⟨#[10]⟩ : ByteArray) = ⟨#[10, 10]⟩ := by apply ByteArray.ext; rw [ByteArray.data_append]; rfl
theorem abab_suf2 (w : World) : Calls Tryz.prog 97 #[.string ⟨#[97, 10, 98, 10]⟩, .string (⟨#[10]⟩ ++ ⟨#[10]⟩)] w (Bo false w) :=
  ten_ten ▸ (strings_HasSuffix.calls ⟨#[97, 10, 98, 10]⟩ ⟨#[10, 10]⟩ false w (by kernel_rfl)).mono fun e w' hh => ⟨hh.1, hh.2.below⟩

set_option maxRecDepth 100000 in
theorem lit_abab (w : World) : Calls Tryz.prog 77 #[.string ⟨#[97, 10, 98, 10]⟩] w (Str ⟨#[124]⟩ w) := by
  go_enter Tryz.func77, Tryz.ntmps77
  go_wp2_with fail
  refine (abab_det _).mono ?_
  rintro e w1 ⟨rfl, hb1⟩
  have B1 := Aside0.mk hb1
  clear hb1
  go_wp2_with fail
  refine (abab_has _).mono ?_
  rintro e w2 ⟨rfl, hb2⟩
  have B2 := Aside0.mk (B1.out.trans (hb2.mono B1.out.size))
  clear hb2
  go_wp2_with fail
  refine (abab_suf2 _).mono ?_
  rintro e w3 ⟨rfl, hb3⟩
  have B3 := Aside0.mk (B2.out.trans (hb3.mono B2.out.size))
  clear hb3
  go_wp2_with fail
  refine (abab_suf _).mono ?_
  rintro e w4 ⟨rfl, hb4⟩
  have B4 := Aside0.mk (B3.out.trans (hb4.mono B3.out.size))
  clear hb4
  go_wp2_with fail
  go_ret
  exact ⟨rfl, B4.out⟩

set_option maxRecDepth 100000 in
theorem head_of (v r : ByteArray) (C : ∀ w, Calls Tryz.prog 77 #[.string v] w (Str r w)) (w : World) : Calls Tryz.prog 28 #[.string v] w (Str r w) := by
  have A := Aside0.mk C
  clear C
  go_enter Tryz.func28, Tryz.ntmps28
  go_wp2_with fail
  refine (A.out _).mono ?_
  rintro e w1 ⟨rfl, hb1⟩
  have B1 := Aside0.mk hb1
  clear hb1
  go_wp2_with fail
  go_ret
  exact ⟨rfl, B1.out⟩

theorem num12 (H O X : Nat → Nat) : numR H O X ⟨#[49, 50]⟩ = .num tDec (uV 12) ⟨#[49, 50]⟩ := by kernel_rfl
def Twelve (w : World) (e : Ending) (w' : World) : Prop := e = .returned (numV true ⟨#[100, 101, 99, 105, 109, 97, 108]⟩ ⟨#[49, 50]⟩ 2 0 12 0) ∧ Below w.heap.size w w'
theorem twelve (B : Nat) (H O X : Nat → Nat) (EV : Nat → Value) (w : World) (hB : B ≤ w.heap.size) (hT : Tabs B H O X w) (hE : Errs B EV w) : Calls Tryz.prog 13 #[.string ⟨#[49, 50]⟩] w (Twelve w) := by
  have C := im_any B H O X EV ⟨#[49, 50]⟩ (by decide) w hB hT hE
  rw [num12] at C
  refine C.mono ?_
  rintro e w' ⟨hb, d, rfl, h⟩
  rcases h with ⟨a, h, _⟩ | ⟨a, h, rfl⟩ | ⟨x, h, _⟩
  · exact absurd h (by unfold uV iV; intro h; injection h with h1 h2; cases h2)
  · have : a = 12 := by unfold uV at h; injection h with h1 h2; injection h2 with h3 h4; exact h4.symm
    subst this
    exact ⟨rfl, hb⟩
  · exact absurd h (by unfold uV fV; intro h; injection h with h1 h2; cases h2)

attribute [local go_sem] run_store_float
def wantV (base : Int) (minus : Bool) (size : Int) : Value := .agg #[.int .i64 1, .int .i64 base, .bool minus, .int .u64 size, .float .f64 0]
set_option maxHeartbeats 2000000 in
set_option maxRecDepth 100000 in
theorem told_10 (text : ByteArray) (a : Int) (w : World) : Calls Tryz.prog 27 #[numV true ⟨#[100, 101, 99, 105, 109, 97, 108]⟩ text 2 0 a 0, wantV 10 false a] w (Bo true w) := by
  unfold numV wantV
  go_enter Tryz.func27, Tryz.ntmps27
  go_wp2_with fail
  go_ret
  exact ⟨rfl, ((Below.refl _ _).alloc (Nat.le_refl _) _).alloc (by simp) _⟩

set_option maxHeartbeats 2000000 in
set_option maxRecDepth 100000 in
theorem lives (B : Nat) (H O X : Nat → Nat) (EV : Nat → Value) (w : World) (hB : B ≤ w.heap.size) (hT : Tabs B H O X w) (hE : Errs B EV w) : Calls Tryz.prog 14 #[] w (Bo true w) := by
  have C0 := Aside0.mk (twelve B H O X EV w hB hT hE)
  have CT := Aside0.mk (told_10 ⟨#[49, 50]⟩ 12)
  unfold wantV at CT
  have CH := Aside0.mk (head_of ⟨#[97, 10, 98, 10]⟩ ⟨#[124]⟩ lit_abab)
  clear hB hT hE
  go_enter Tryz.func14, Tryz.ntmps14
  go_wp2_with fail
  refine C0.out.mono ?_
  rintro e w1 ⟨rfl, hb1⟩
  have B1 := Aside0.mk hb1
  clear hb1
  go_wp2_with fail
  refine (CT.out _).mono ?_
  rintro e w2 ⟨rfl, hb2⟩
  have B2 := Aside0.mk (B1.out.trans (hb2.mono B1.out.size))
  clear hb2
  go_wp2_with fail
  refine (CH.out _).mono ?_
  rintro e w3 ⟨rfl, hb3⟩
  have B3 := Aside0.mk (B2.out.trans (hb3.mono B2.out.size))
  clear hb3
  go_wp2_with fail
  go_ret
  exact ⟨rfl, B3.out⟩
end Go.Proofs.YtlkbhmmelejmjaaGreatDoor.NumLives

/- Tokens: New and Make at a text that is a number. -/
namespace Go.Proofs.YtlkbhmmelejmjaaGreatDoor.TokNum
open Go.RowKit Go.Proofs.YtlkbhmmelejmjaaGreatDoorW.PrintWords Go.Proofs.YtlkbhmmelejmjaaGreatDoor.NumErr Go.Proofs.YtlkbhmmelejmjaaGreatDoor.NumAny Go.Proofs.YtlkbhmmelejmjaaGreatDoor.NumAll Go.Proofs.YtlkbhmmelejmjaaGreatDoor.NumTell Go.Proofs.YtlkbhmmelejmjaaGreatDoor.NumLives Go.Proofs.YtlkbhmmelejmjaaGreatDoor.FltAtof Go.Proofs.YtlkbhmmelejmjaaGreatDoor.TokBase Go.Proofs.YtlkbhmmelejmjaaGreatDoor.TokList Go.Proofs.YtlkbhmmelejmjaaGreatDoor.TokMake
set_option linter.unusedVariables false
set_option linter.unusedSimpArgs false
attribute [local go_sem ↓] Go.wp_at_zero Go.wp_at_succ

def NilFn (w : World) (e : Ending) (w' : World) : Prop := e = .returned .nilFunc ∧ w = w'
set_option maxHeartbeats 1000000 in
set_option maxRecDepth 100000 in
theorem key_none (s : ByteArray) (h0 : (s.toList == [110, 117, 108, 108]) = false) (h1 : (s.toList == [78, 117, 108, 108]) = false) (h2 : (s.toList == [78, 85, 76, 76]) = false) (h3 : (s.toList == [126]) = false) (h4 : (s.toList == [116, 114, 117, 101]) = false) (h5 : (s.toList == [84, 114, 117, 101]) = false) (h6 : (s.toList == [84, 82, 85, 69]) = false) (h7 : (s.toList == [102, 97, 108, 115, 101]) = false) (h8 : (s.toList == [70, 97, 108, 115, 101]) = false) (h9 : (s.toList == [70, 65, 76, 83, 69]) = false) (h10 : (s.toList == [46, 105, 110, 102]) = false) (h11 : (s.toList == [46, 73, 110, 102]) = false) (h12 : (s.toList == [46, 73, 78, 70]) = false) (h13 : (s.toList == [45, 46, 105, 110, 102]) = false) (h14 : (s.toList == [45, 46, 73, 110, 102]) = false) (h15 : (s.toList == [45, 46, 73, 78, 70]) = false) (h16 : (s.toList == [46, 110, 97, 110]) = false) (h17 : (s.toList == [46, 78, 97, 78]) = false) (h18 : (s.toList == [46, 78, 65, 78]) = false) (w : World) : Calls Tryz.prog 87 #[.string s] w (NilFn w) := by
  go_enter Tryz.func87, Tryz.ntmps87
  go_wp2
  go_ret
  exact ⟨rfl, rfl⟩
theorem err0 (H O X : Nat → Nat) : numR H O X ⟨#[110, 117, 108, 108]⟩ = .err 2 := by kernel_rfl
theorem err1 (H O X : Nat → Nat) : numR H O X ⟨#[78, 117, 108, 108]⟩ = .err 2 := by kernel_rfl
theorem err2 (H O X : Nat → Nat) : numR H O X ⟨#[78, 85, 76, 76]⟩ = .err 2 := by kernel_rfl
theorem err3 (H O X : Nat → Nat) : numR H O X ⟨#[126]⟩ = .err 2 := by kernel_rfl
theorem err4 (H O X : Nat → Nat) : numR H O X ⟨#[116, 114, 117, 101]⟩ = .err 2 := by kernel_rfl
theorem err5 (H O X : Nat → Nat) : numR H O X ⟨#[84, 114, 117, 101]⟩ = .err 2 := by kernel_rfl
theorem err6 (H O X : Nat → Nat) : numR H O X ⟨#[84, 82, 85, 69]⟩ = .err 2 := by kernel_rfl
theorem err7 (H O X : Nat → Nat) : numR H O X ⟨#[102, 97, 108, 115, 101]⟩ = .err 2 := by kernel_rfl
theorem err8 (H O X : Nat → Nat) : numR H O X ⟨#[70, 97, 108, 115, 101]⟩ = .err 2 := by kernel_rfl
theorem err9 (H O X : Nat → Nat) : numR H O X ⟨#[70, 65, 76, 83, 69]⟩ = .err 2 := by kernel_rfl
theorem err10 (H O X : Nat → Nat) : numR H O X ⟨#[46, 105, 110, 102]⟩ = .err 2 := by kernel_rfl
theorem err11 (H O X : Nat → Nat) : numR H O X ⟨#[46, 73, 110, 102]⟩ = .err 2 := by kernel_rfl
theorem err12 (H O X : Nat → Nat) : numR H O X ⟨#[46, 73, 78, 70]⟩ = .err 2 := by kernel_rfl
theorem err13 (H O X : Nat → Nat) : numR H O X ⟨#[45, 46, 105, 110, 102]⟩ = .err 2 := by kernel_rfl
theorem err14 (H O X : Nat → Nat) : numR H O X ⟨#[45, 46, 73, 110, 102]⟩ = .err 2 := by kernel_rfl
theorem err15 (H O X : Nat → Nat) : numR H O X ⟨#[45, 46, 73, 78, 70]⟩ = .err 2 := by kernel_rfl
theorem err16 (H O X : Nat → Nat) : numR H O X ⟨#[46, 110, 97, 110]⟩ = .err 2 := by kernel_rfl
theorem err17 (H O X : Nat → Nat) : numR H O X ⟨#[46, 78, 97, 78]⟩ = .err 2 := by kernel_rfl
theorem err18 (H O X : Nat → Nat) : numR H O X ⟨#[46, 78, 65, 78]⟩ = .err 2 := by kernel_rfl
theorem of_toList {s : ByteArray} {l : List UInt8} (h : s.toList = l) : s = ⟨l.toArray⟩ := by
  apply ByteArray.ext
  rw [Lib.toList_data] at h
  rw [← h]
theorem no_word {H O X : Nat → Nat} {s typ text : ByteArray} {v : Value} {l : List UInt8} (h : numR H O X s = .num typ v text) (he : numR H O X ⟨l.toArray⟩ = .err 2) : (s.toList == l) = false := by
  rw [beq_eq_false_iff_ne]
  intro hl
  rw [of_toList hl, he] at h
  cases h
theorem key_num {H O X : Nat → Nat} {s typ text : ByteArray} {v : Value} (h : numR H O X s = .num typ v text) (w : World) : Calls Tryz.prog 87 #[.string s] w (NilFn w) :=
  key_none s (no_word h (err0 H O X)) (no_word h (err1 H O X)) (no_word h (err2 H O X)) (no_word h (err3 H O X)) (no_word h (err4 H O X)) (no_word h (err5 H O X)) (no_word h (err6 H O X)) (no_word h (err7 H O X)) (no_word h (err8 H O X)) (no_word h (err9 H O X)) (no_word h (err10 H O X)) (no_word h (err11 H O X)) (no_word h (err12 H O X)) (no_word h (err13 H O X)) (no_word h (err14 H O X)) (no_word h (err15 H O X)) (no_word h (err16 H O X)) (no_word h (err17 H O X)) (no_word h (err18 H O X)) w

/-- The type of a token of a number by the number's type. -/
def Nt (typ : ByteArray) (n : Int) : Prop := (typ = tHex ∧ n = 29) ∨ (typ = tOct ∧ n = 28) ∨ (typ = tBin ∧ n = 27) ∨ (typ = tFlt ∧ n = 30) ∨ (typ = tDec ∧ n = 26)
theorem fn_nil (w : World) : Sem.run Tryz.prog (binOp BinOp.neq 82 Value.nilFunc Value.nilFunc) w = .ok (.bool false) w := by kernel_rfl

set_option maxHeartbeats 4000000 in
set_option maxRecDepth 100000 in
theorem new_hex (s o text : ByteArray) (v : Value) (q : Nat) (w : World) (hk : Calls Tryz.prog 87 #[.string s] w (NilFn w)) (C : Calls Tryz.prog 26 #[.string s] w (TnP (.num tHex v text) w)) : Calls Tryz.prog 48 #[.string s, .string o, .pointer (some ⟨q, 0, none⟩)] w (Maked 29 2 0 s o q w) := by
  have K := Aside0.mk hk
  replace C := Aside0.mk C
  have e2 := fn_nil
  clear hk
  go_enter Tryz.func48, Tryz.ntmps48
  go_wp2_with fail
  refine K.out.mono ?_
  rintro e w1 ⟨rfl, rfl⟩
  go_wp2_with fail
  refine C.out.mono ?_
  rintro e w2 ⟨hb, p, rfl, h1, h2⟩
  have x0 := fun o => blk_cell (blk_alloc h2 o) 0
  simp only [List.getElem?_toArray, List.getElem?_cons_succ, List.getElem?_cons_zero] at x0
  unfold tHex at x0
  have HB := Aside0.mk hb
  have hs0 := hb.size
  clear h1 h2 hb
  have y0 := blk_cell (blk_new w2 (.cells #[.int .i64 26, .int .i64 2, .int .i64 0, .string s, .string o, .string ⟨#[]⟩, .pointer (some ⟨q, 0, none⟩), .pointer none, .pointer none] 58)) 0
  have yf0 := blk_frozen (blk_new w2 (.cells #[.int .i64 26, .int .i64 2, .int .i64 0, .string s, .string o, .string ⟨#[]⟩, .pointer (some ⟨q, 0, none⟩), .pointer none, .pointer none] 58)) 0
  simp only [List.getElem?_toArray, List.getElem?_cons_succ, List.getElem?_cons_zero] at y0
  go_wp2_with fail
  go_ret
  exact ⟨_, rfl, HB.out.size, blk_new _ _, HB.out.alloc HB.out.size _⟩

set_option maxHeartbeats 4000000 in
set_option maxRecDepth 100000 in
theorem new_oct (s o text : ByteArray) (v : Value) (q : Nat) (w : World) (hk : Calls Tryz.prog 87 #[.string s] w (NilFn w)) (C : Calls Tryz.prog 26 #[.string s] w (TnP (.num tOct v text) w)) : Calls Tryz.prog 48 #[.string s, .string o, .pointer (some ⟨q, 0, none⟩)] w (Maked 28 2 0 s o q w) := by
  have K := Aside0.mk hk
  replace C := Aside0.mk C
  have e2 := fn_nil
  clear hk
  go_enter Tryz.func48, Tryz.ntmps48
  go_wp2_with fail
  refine K.out.mono ?_
  rintro e w1 ⟨rfl, rfl⟩
  go_wp2_with fail
  refine C.out.mono ?_
  rintro e w2 ⟨hb, p, rfl, h1, h2⟩
  have x0 := fun o => blk_cell (blk_alloc h2 o) 0
  simp only [List.getElem?_toArray, List.getElem?_cons_succ, List.getElem?_cons_zero] at x0
  unfold tOct at x0
  have HB := Aside0.mk hb
  have hs0 := hb.size
  clear h1 h2 hb
  have y0 := blk_cell (blk_new w2 (.cells #[.int .i64 26, .int .i64 2, .int .i64 0, .string s, .string o, .string ⟨#[]⟩, .pointer (some ⟨q, 0, none⟩), .pointer none, .pointer none] 58)) 0
  have yf0 := blk_frozen (blk_new w2 (.cells #[.int .i64 26, .int .i64 2, .int .i64 0, .string s, .string o, .string ⟨#[]⟩, .pointer (some ⟨q, 0, none⟩), .pointer none, .pointer none] 58)) 0
  simp only [List.getElem?_toArray, List.getElem?_cons_succ, List.getElem?_cons_zero] at y0
  go_wp2_with fail
  go_ret
  exact ⟨_, rfl, HB.out.size, blk_new _ _, HB.out.alloc HB.out.size _⟩

set_option maxHeartbeats 4000000 in
set_option maxRecDepth 100000 in
theorem new_bin (s o text : ByteArray) (v : Value) (q : Nat) (w : World) (hk : Calls Tryz.prog 87 #[.string s] w (NilFn w)) (C : Calls Tryz.prog 26 #[.string s] w (TnP (.num tBin v text) w)) : Calls Tryz.prog 48 #[.string s, .string o, .pointer (some ⟨q, 0, none⟩)] w (Maked 27 2 0 s o q w) := by
  have K := Aside0.mk hk
  replace C := Aside0.mk C
  have e2 := fn_nil
  clear hk
  go_enter Tryz.func48, Tryz.ntmps48
  go_wp2_with fail
  refine K.out.mono ?_
  rintro e w1 ⟨rfl, rfl⟩
  go_wp2_with fail
  refine C.out.mono ?_
  rintro e w2 ⟨hb, p, rfl, h1, h2⟩
  have x0 := fun o => blk_cell (blk_alloc h2 o) 0
  simp only [List.getElem?_toArray, List.getElem?_cons_succ, List.getElem?_cons_zero] at x0
  unfold tBin at x0
  have HB := Aside0.mk hb
  have hs0 := hb.size
  clear h1 h2 hb
  have y0 := blk_cell (blk_new w2 (.cells #[.int .i64 26, .int .i64 2, .int .i64 0, .string s, .string o, .string ⟨#[]⟩, .pointer (some ⟨q, 0, none⟩), .pointer none, .pointer none] 58)) 0
  have yf0 := blk_frozen (blk_new w2 (.cells #[.int .i64 26, .int .i64 2, .int .i64 0, .string s, .string o, .string ⟨#[]⟩, .pointer (some ⟨q, 0, none⟩), .pointer none, .pointer none] 58)) 0
  simp only [List.getElem?_toArray, List.getElem?_cons_succ, List.getElem?_cons_zero] at y0
  go_wp2_with fail
  go_ret
  exact ⟨_, rfl, HB.out.size, blk_new _ _, HB.out.alloc HB.out.size _⟩

set_option maxHeartbeats 4000000 in
set_option maxRecDepth 100000 in
theorem new_flt (s o text : ByteArray) (v : Value) (q : Nat) (w : World) (hk : Calls Tryz.prog 87 #[.string s] w (NilFn w)) (C : Calls Tryz.prog 26 #[.string s] w (TnP (.num tFlt v text) w)) : Calls Tryz.prog 48 #[.string s, .string o, .pointer (some ⟨q, 0, none⟩)] w (Maked 30 2 0 s o q w) := by
  have K := Aside0.mk hk
  replace C := Aside0.mk C
  have e2 := fn_nil
  clear hk
  go_enter Tryz.func48, Tryz.ntmps48
  go_wp2_with fail
  refine K.out.mono ?_
  rintro e w1 ⟨rfl, rfl⟩
  go_wp2_with fail
  refine C.out.mono ?_
  rintro e w2 ⟨hb, p, rfl, h1, h2⟩
  have x0 := fun o => blk_cell (blk_alloc h2 o) 0
  simp only [List.getElem?_toArray, List.getElem?_cons_succ, List.getElem?_cons_zero] at x0
  unfold tFlt at x0
  have HB := Aside0.mk hb
  have hs0 := hb.size
  clear h1 h2 hb
  have y0 := blk_cell (blk_new w2 (.cells #[.int .i64 26, .int .i64 2, .int .i64 0, .string s, .string o, .string ⟨#[]⟩, .pointer (some ⟨q, 0, none⟩), .pointer none, .pointer none] 58)) 0
  have yf0 := blk_frozen (blk_new w2 (.cells #[.int .i64 26, .int .i64 2, .int .i64 0, .string s, .string o, .string ⟨#[]⟩, .pointer (some ⟨q, 0, none⟩), .pointer none, .pointer none] 58)) 0
  simp only [List.getElem?_toArray, List.getElem?_cons_succ, List.getElem?_cons_zero] at y0
  go_wp2_with fail
  go_ret
  exact ⟨_, rfl, HB.out.size, blk_new _ _, HB.out.alloc HB.out.size _⟩

set_option maxHeartbeats 4000000 in
set_option maxRecDepth 100000 in
theorem new_dec (s o text : ByteArray) (v : Value) (q : Nat) (w : World) (hk : Calls Tryz.prog 87 #[.string s] w (NilFn w)) (C : Calls Tryz.prog 26 #[.string s] w (TnP (.num tDec v text) w)) : Calls Tryz.prog 48 #[.string s, .string o, .pointer (some ⟨q, 0, none⟩)] w (Maked 26 2 0 s o q w) := by
  have K := Aside0.mk hk
  replace C := Aside0.mk C
  have e2 := fn_nil
  clear hk
  go_enter Tryz.func48, Tryz.ntmps48
  go_wp2_with fail
  refine K.out.mono ?_
  rintro e w1 ⟨rfl, rfl⟩
  go_wp2_with fail
  refine C.out.mono ?_
  rintro e w2 ⟨hb, p, rfl, h1, h2⟩
  have x0 := fun o => blk_cell (blk_alloc h2 o) 0
  simp only [List.getElem?_toArray, List.getElem?_cons_succ, List.getElem?_cons_zero] at x0
  unfold tDec at x0
  have HB := Aside0.mk hb
  have hs0 := hb.size
  clear h1 h2 hb
  have y0 := blk_cell (blk_new w2 (.cells #[.int .i64 26, .int .i64 2, .int .i64 0, .string s, .string o, .string ⟨#[]⟩, .pointer (some ⟨q, 0, none⟩), .pointer none, .pointer none] 58)) 0
  have yf0 := blk_frozen (blk_new w2 (.cells #[.int .i64 26, .int .i64 2, .int .i64 0, .string s, .string o, .string ⟨#[]⟩, .pointer (some ⟨q, 0, none⟩), .pointer none, .pointer none] 58)) 0
  simp only [List.getElem?_toArray, List.getElem?_cons_succ, List.getElem?_cons_zero] at y0
  go_wp2_with fail
  go_ret
  exact ⟨_, rfl, HB.out.size, blk_new _ _, HB.out.alloc HB.out.size _⟩

theorem new_num {H O X : Nat → Nat} (s o typ text : ByteArray) (v : Value) (n : Int) (hn : Nt typ n) (h : numR H O X s = .num typ v text) (q : Nat) (w : World) (C : Calls Tryz.prog 26 #[.string s] w (TnP (numR H O X s) w)) : Calls Tryz.prog 48 #[.string s, .string o, .pointer (some ⟨q, 0, none⟩)] w (Maked n 2 0 s o q w) := by
  have K := key_num h w
  rw [h] at C
  rcases hn with ⟨rfl, rfl⟩ | ⟨rfl, rfl⟩ | ⟨rfl, rfl⟩ | ⟨rfl, rfl⟩ | ⟨rfl, rfl⟩
  · exact new_hex s o text v q w K C
  · exact new_oct s o text v q w K C
  · exact new_bin s o text v q w K C
  · exact new_flt s o text v q w K C
  · exact new_dec s o text v q w K C
set_option maxHeartbeats 1000000 in
set_option maxRecDepth 100000 in
theorem maker_num (n : Int) (s o : ByteArray) (q : Nat) (w : World) (C : Calls Tryz.prog 48 #[.string s, .string o, .pointer (some ⟨q, 0, none⟩)] w (Maked n 2 0 s o q w)) : Calls Tryz.prog 21 #[.int .i64 (-1), .string s, .string o, .pointer (some ⟨q, 0, none⟩)] w (Maked n 2 0 s o q w) := by
  have C := Aside0.mk C
  go_enter Tryz.func21, Tryz.ntmps21
  go_wp2_with fail
  refine C.out.mono ?_
  rintro e w1 ⟨t, rfl, h1, h2, h3⟩
  have H1 := Aside0.mk h1
  have H2 := Aside0.mk h2
  have H3 := Aside0.mk h3
  clear h1 h2 h3
  go_wp2_with fail
  go_ret
  exact ⟨t, rfl, H1.out, H2.out, H3.out⟩
end Go.Proofs.YtlkbhmmelejmjaaGreatDoor.TokNum

/- FnNumberToken: the law. -/
namespace Go.Proofs.YtlkbhmmelejmjaaGreatDoor.TokTell
open Go.RowKit Go.Proofs.YtlkbhmmelejmjaaGreatDoorW.PrintWords Go.Proofs.YtlkbhmmelejmjaaGreatDoor.NumKnown Go.Proofs.YtlkbhmmelejmjaaGreatDoor.NumErr Go.Proofs.YtlkbhmmelejmjaaGreatDoor.NumAny Go.Proofs.YtlkbhmmelejmjaaGreatDoor.NumAll Go.Proofs.YtlkbhmmelejmjaaGreatDoor.NumTell Go.Proofs.YtlkbhmmelejmjaaGreatDoor.NumLives Go.Proofs.YtlkbhmmelejmjaaGreatDoor.FltAtof Go.Proofs.YtlkbhmmelejmjaaGreatDoor.TokBase Go.Proofs.YtlkbhmmelejmjaaGreatDoor.TokList Go.Proofs.YtlkbhmmelejmjaaGreatDoor.TokMake Go.Proofs.YtlkbhmmelejmjaaGreatDoor.TokNum
set_option linter.unusedVariables false
set_option linter.unusedSimpArgs false
attribute [local go_sem ↓] Go.wp_at_zero Go.wp_at_succ
attribute [local go_sem] run_store_float

set_option maxHeartbeats 4000000 in
set_option maxRecDepth 100000 in
theorem make_below (k0 k ch sg : Int) (v o : ByteArray) (line col off : Int) (h0 : 1 ≤ col) (h1 : col ≤ 200) (w : World) (hm : ∀ q W, Below w.heap.size w W → Calls Tryz.prog 21 #[.int .i64 k0, .string v, .string o, .pointer (some ⟨q, 0, none⟩)] W (Maked k ch sg v o q W)) :
    Calls Tryz.prog 9 #[.int .i64 k0, .string v, .string o, .agg #[.int .i64 line, .int .i64 col, .int .i64 off, .int .i64 0, .int .i64 0]] w (Mades k ch sg v o line col off w) := by
  have CP := Aside0.mk fun W => position_any line col off h0 h1 W
  have CM := Aside0.mk hm
  clear hm
  go_enter Tryz.func9, Tryz.ntmps9
  go_wp2_with fail
  refine (CP.out _).mono ?_
  rintro e w1 ⟨q, rfl, hq1, hq2, b1⟩
  have HQ := Aside0.mk hq2
  have B1 := Aside0.mk b1
  clear hq1 hq2 b1
  go_wp2_with fail
  have BC : Below w.heap.size w w1 := ((((Below.refl w.heap.size w).alloc (Nat.le_refl _) (.cells #[.int .i64 line, .int .i64 col, .int .i64 off, .int .i64 0, .int .i64 0] 23)).alloc (by simp) (.cells #[.int .i64 0, .int .i64 0, .int .i64 0, .string ⟨#[]⟩, .string ⟨#[]⟩, .string ⟨#[]⟩, .int .i64 0, .int .i64 0, .int .i64 0, .int .i64 0, .int .i64 0, .int .i64 0, .int .i64 0] 25))).trans (B1.out.mono ((((Below.refl w.heap.size w).alloc (Nat.le_refl _) (.cells #[.int .i64 line, .int .i64 col, .int .i64 off, .int .i64 0, .int .i64 0] 23)).alloc (by simp) (.cells #[.int .i64 0, .int .i64 0, .int .i64 0, .string ⟨#[]⟩, .string ⟨#[]⟩, .string ⟨#[]⟩, .int .i64 0, .int .i64 0, .int .i64 0, .int .i64 0, .int .i64 0, .int .i64 0, .int .i64 0] 25))).size)
  refine (CM.out q _ BC).mono ?_
  rintro e w2 ⟨t, rfl, ht1, ht2, b2⟩
  have HT := Aside0.mk ht2
  have B2 := Aside0.mk b2
  clear ht1 ht2 b2
  go_wp2_with fail
  refine (list_one w2.heap.size 1 t q k ch sg v o line col off _ (by rw [blk_cell (blk_new w2 _) 0]; rfl) (blk_alloc HT.out _) (blk_alloc (blk_below HQ.out B2.out) _)).mono ?_
  rintro e w3 ⟨g, cap, rfl, hown, b3⟩
  have B3 := Aside0.mk b3
  have HOWN := Aside0.mk hown
  have hz : ((w.alloc (.cells #[.int .i64 line, .int .i64 col, .int .i64 off, .int .i64 0, .int .i64 0] 23)).heap.size) = w.heap.size + 1 := size_alloc _ _
  have hT := blk_below (blk_alloc (blk_below (blk_below (blk_new' (w.alloc (.cells #[.int .i64 line, .int .i64 col, .int .i64 off, .int .i64 0, .int .i64 0] 23)) (.cells #[.int .i64 0, .int .i64 0, .int .i64 0, .string ⟨#[]⟩, .string ⟨#[]⟩, .string ⟨#[]⟩, .int .i64 0, .int .i64 0, .int .i64 0, .int .i64 0, .int .i64 0, .int .i64 0, .int .i64 0] 25) _ hz) B1.out) B2.out) _) b3
  have HTT := Aside0.mk hT
  have y0 := own_cells hown 0 (by omega)
  have y1 := own_cells hown 1 (by omega)
  have y2 := own_cells hown 2 (by omega)
  have y3 := own_cells hown 3 (by omega)
  have y4 := own_cells hown 4 (by omega)
  have y5 := own_cells hown 5 (by omega)
  have y6 := own_cells hown 6 (by omega)
  have y7 := own_cells hown 7 (by omega)
  have y8 := own_cells hown 8 (by omega)
  have y9 := own_cells hown 9 (by omega)
  have y10 := own_cells hown 10 (by omega)
  have y11 := own_cells hown 11 (by omega)
  have y12 := own_cells hown 12 (by omega)
  simp only [tokCells, List.getElem?_cons_succ, List.getElem?_cons_zero] at y0 y1 y2 y3 y4 y5 y6 y7 y8 y9 y10 y11 y12
  have f0 := blk_frozen hT 0
  have x0 := blk_cell hT 0
  have f1 := blk_frozen hT 1
  have x1 := blk_cell hT 1
  have f2 := blk_frozen hT 2
  have x2 := blk_cell hT 2
  have f3 := blk_frozen hT 3
  have x3 := blk_cell hT 3
  have f4 := blk_frozen hT 4
  have x4 := blk_cell hT 4
  have f5 := blk_frozen hT 5
  have x5 := blk_cell hT 5
  have f6 := blk_frozen hT 6
  have x6 := blk_cell hT 6
  have f7 := blk_frozen hT 7
  have x7 := blk_cell hT 7
  have f8 := blk_frozen hT 8
  have x8 := blk_cell hT 8
  have f9 := blk_frozen hT 9
  have x9 := blk_cell hT 9
  have f10 := blk_frozen hT 10
  have x10 := blk_cell hT 10
  have f11 := blk_frozen hT 11
  have x11 := blk_cell hT 11
  have f12 := blk_frozen hT 12
  have x12 := blk_cell hT 12
  simp only [List.getElem?_toArray, List.getElem?_cons_succ, List.getElem?_cons_zero] at x0 x1 x2 x3 x4 x5 x6 x7 x8 x9 x10 x11 x12
  clear hown b3 hT hz
  go_wp2_with fail
  have hle : w.heap.size ≤ w.heap.size + 1 := by omega
  have hBl : Below w.heap.size w w3 := by
    have c0 : Below w.heap.size w _ := ((Below.refl w.heap.size w).alloc (Nat.le_refl _) (.cells #[.int .i64 line, .int .i64 col, .int .i64 off, .int .i64 0, .int .i64 0] 23)).alloc (by simp) (.cells #[.int .i64 0, .int .i64 0, .int .i64 0, .string ⟨#[]⟩, .string ⟨#[]⟩, .string ⟨#[]⟩, .int .i64 0, .int .i64 0, .int .i64 0, .int .i64 0, .int .i64 0, .int .i64 0, .int .i64 0] 25)
    have c1 := c0.trans (B1.out.mono c0.size)
    have c2 := c1.trans (B2.out.mono c1.size)
    have c3 := c2.alloc c2.size (.cells #[.pointer (some ⟨t, 0, none⟩)] 46)
    exact c3.trans (B3.out.mono c3.size)
  exact bodyPost_ret (results_single rfl (.cell (w.heap.size + 1) 25 _ (0, 0) _ rfl (set13_blk w3 (w.heap.size + 1) k ch sg v o line col off (-1) (-1) HTT.out) Tryz.underlying25 rfl (by kernel_rfl) .nil)) rfl ⟨rfl, set13_below w w3 w.heap.size (w.heap.size + 1) k ch sg v o line col off (-1) (-1) hBl hle⟩


theorem type_f {typ : ByteArray} {n : Int} (h : Nt typ n) : laws_nbType.f typ = some n := by
  rcases h with ⟨rfl, rfl⟩ | ⟨rfl, rfl⟩ | ⟨rfl, rfl⟩ | ⟨rfl, rfl⟩ | ⟨rfl, rfl⟩ <;> kernel_rfl
theorem nt_of {typ : ByteArray} (h : typ = tHex ∨ typ = tOct ∨ typ = tBin ∨ typ = tFlt ∨ typ = tDec) : ∃ n, Nt typ n := by
  rcases h with h | h | h | h | h
  · exact ⟨29, .inl ⟨h, rfl⟩⟩
  · exact ⟨28, .inr (.inl ⟨h, rfl⟩)⟩
  · exact ⟨27, .inr (.inr (.inl ⟨h, rfl⟩))⟩
  · exact ⟨30, .inr (.inr (.inr (.inl ⟨h, rfl⟩)))⟩
  · exact ⟨26, .inr (.inr (.inr (.inr ⟨h, rfl⟩)))⟩
theorem of_num {v : Value} {typ text : ByteArray} {d : Value} (h : NumOf v typ text d) : ∃ k i u f, d = numV true typ text k i u f := by
  rcases h with ⟨a, _, h⟩ | ⟨a, _, h⟩ | ⟨x, _, h⟩
  · exact ⟨_, _, _, _, h⟩
  · exact ⟨_, _, _, _, h⟩
  · exact ⟨_, _, _, _, h⟩

set_option maxHeartbeats 4000000 in
set_option maxRecDepth 100000 in
theorem law_none (s : ByteArray) (w : World) (hbig : s.size ≤ 2147483647) (C : Calls Tryz.prog 13 #[.string s] w (NonD w)) (L : ∀ W, Below w.heap.size w W → Calls Tryz.prog 14 #[] W (Bo true W)) : Calls Tryz.prog 5 #[.string s] w (Bo true w) := by
  have n5 : ¬ (2147483647 : Int) < (s.size : Int) := by omega
  replace C := Aside0.mk C
  replace L := Aside0.mk L
  go_enter Tryz.func5, Tryz.ntmps5
  go_wp2_with fail
  refine C.out.mono ?_
  rintro e w1 ⟨rfl, hb⟩
  have HB := Aside0.mk hb
  have HB2 := Aside0.mk (hb.alloc hb.size (.cells #[.bool false, .string ⟨#[]⟩, .string ⟨#[]⟩, .int .i64 0, .int .i64 0, .int .u64 0, .float .f64 0] 37))
  clear hb
  unfold numV
  go_wp2_with fail
  refine (L.out _ HB2.out).mono ?_
  rintro e w2 ⟨rfl, hb2⟩
  have HB3 := Aside0.mk (HB2.out.trans (hb2.mono HB2.out.size))
  clear hb2
  go_wp2_with fail
  go_ret
  exact ⟨rfl, HB3.out⟩

set_option maxHeartbeats 8000000 in
set_option maxRecDepth 100000 in
theorem law_num (s typ text : ByteArray) (n k i u : Int) (f : Nat) (hn : Nt typ n) (w : World) (hbig : s.size ≤ 2147483647) (C : Calls Tryz.prog 13 #[.string s] w (fun e w' => e = .returned (numV true typ text k i u f) ∧ Below w.heap.size w w')) (M : ∀ W, Below w.heap.size w W → Calls Tryz.prog 9 #[.int .i64 (-1), .string s, .string s, .agg #[.int .i64 1, .int .i64 1, .int .i64 0, .int .i64 0, .int .i64 0]] W (Mades n 2 0 s s 1 1 0 W)) (L : ∀ W, Below w.heap.size w W → Calls Tryz.prog 14 #[] W (Bo true W)) : Calls Tryz.prog 5 #[.string s] w (Bo true w) := by
  have n5 : ¬ (2147483647 : Int) < (s.size : Int) := by omega
  have T := Aside0.mk (fun W => laws_nbType.calls typ n W (type_f hn))
  replace C := Aside0.mk C
  replace M := Aside0.mk M
  replace L := Aside0.mk L
  have hss : (s.toList == s.toList) = true := by simp
  clear hn
  go_enter Tryz.func5, Tryz.ntmps5
  go_wp2_with fail
  refine C.out.mono ?_
  rintro e w1 ⟨rfl, hb⟩
  have HB := Aside0.mk hb
  obtain ⟨o1, ho1⟩ : ∃ o : Obj, o = .cells #[.bool true, .string typ, .string text, .int .i64 k, .int .i64 i, .int .u64 u, .float .f64 f] 37 := ⟨_, rfl⟩
  have hA := blk_new w1 o1
  rw [ho1] at hA
  have HB2 := Aside0.mk (hb.alloc hb.size (.cells #[.bool true, .string typ, .string text, .int .i64 k, .int .i64 i, .int .u64 u, .float .f64 f] 37))
  have x0 := blk_cell hA 0
  simp only [List.getElem?_toArray, List.getElem?_cons_succ, List.getElem?_cons_zero] at x0
  have HA := Aside0.mk hA
  clear hb hA ho1
  unfold numV
  go_wp2_with fail
  refine (M.out _ HB2.out).mono ?_
  rintro e w2 ⟨rfl, hb2⟩
  have HA2 := Aside0.mk (blk_below HA.out hb2)
  have HB3 := Aside0.mk (HB2.out.trans (hb2.mono HB2.out.size))
  have hsz := hb2.size
  simp only [size_alloc] at hsz
  clear hb2 x0
  unfold tokAgg
  simp only [tokCells]
  have x1 := blk_cell (blk_alloc HA2.out (.cells #[.int .i64 n, .int .i64 2, .int .i64 0, .string s, .string s, .string ⟨#[]⟩, .int .i64 1, .int .i64 1, .int .i64 0, .int .i64 0, .int .i64 0, .int .i64 (-1), .int .i64 (-1)] 25)) 1
  have hB := blk_new w2 (.cells #[.int .i64 n, .int .i64 2, .int .i64 0, .string s, .string s, .string ⟨#[]⟩, .int .i64 1, .int .i64 1, .int .i64 0, .int .i64 0, .int .i64 0, .int .i64 (-1), .int .i64 (-1)] 25)
  have y0 := blk_cell hB 0
  have y3 := blk_cell hB 3
  have y4 := blk_cell hB 4
  simp only [List.getElem?_toArray, List.getElem?_cons_succ, List.getElem?_cons_zero] at x1 y0 y3 y4
  have HB4 := Aside0.mk (HB3.out.alloc HB3.out.size (.cells #[.int .i64 n, .int .i64 2, .int .i64 0, .string s, .string s, .string ⟨#[]⟩, .int .i64 1, .int .i64 1, .int .i64 0, .int .i64 0, .int .i64 0, .int .i64 (-1), .int .i64 (-1)] 25))
  have l1 : w1.heap.size < w2.heap.size + 1 := by omega
  have l2 : w2.heap.size < w2.heap.size + 1 := by omega
  clear hB
  go_wp2_with fail
  go_region_held3 (fun w' => w'.cell? ⟨w2.heap.size, 0, none⟩ = some (.int .i64 n) ∧ w'.cell? ⟨w1.heap.size, 1, none⟩ = some (.string typ) ∧ w'.cell? ⟨w2.heap.size, 3, none⟩ = some (.string s) ∧ w'.cell? ⟨w2.heap.size, 4, none⟩ = some (.string s))
    (first | go_keep | (refine ⟨?_, ?_, ?_, ?_⟩ <;> (rw [HX.out.cell (by first | (simp; done) | (simp; omega))]; simp [*])))
    (first
      | (go_at_call 15; refine (T.out _).mono ?_; rintro e w' ⟨rfl, m, rfl⟩)
      | (go_at_call 14; refine (L.out _ (by repeat (first | exact HB4.out | apply pw_below_drewN | apply below_drew1))).mono ?_; rintro e w' ⟨rfl, hx⟩; have HX := Aside0.mk hx))
  all_goals
    go_wp2_with fail
    go_ret
    refine ⟨rfl, ?_⟩
    repeat (first | exact below_then (by repeat (first | exact HB4.out | apply pw_below_drewN | apply below_drew1)) (by exact HB4.out.size) HX.out | apply pw_below_drewN | apply below_drew1)

/-- FnNumberToken. -/
theorem law_any (B : Nat) (H O X : Nat → Nat) (EV : Nat → Value) (s : ByteArray) (w : World) (hB : B ≤ w.heap.size) (hT : Tabs B H O X w) (hE : Errs B EV w) (hmax : s.size ≤ 140737488351232) : Calls Tryz.prog 5 #[.string s] w (Bo true w) := by
  by_cases hbig : 2147483647 < s.size
  · have n5 : (2147483647 : Int) < (s.size : Int) := by omega
    clear hT hE hB
    go_enter Tryz.func5, Tryz.ntmps5
    go_wp2_with fail
    go_ret
    exact ⟨rfl, Below.refl _ _⟩
  · have C := im_any B H O X EV s (by omega) w hB hT hE
    have L : ∀ W, Below w.heap.size w W → Calls Tryz.prog 14 #[] W (Bo true W) := fun W hW => lives B H O X EV W (Nat.le_trans hB hW.size) (hT.keep hW hB) (hE.keep hW hB)
    cases h : numR H O X s with
    | none =>
      rw [h] at C
      exact law_none s w (by omega) (C.mono fun e w' ⟨hb, d, h1, h2⟩ => ⟨by rw [h1, h2], hb⟩) L
    | err k =>
      rw [h] at C
      exact law_none s w (by omega) (C.mono fun e w' ⟨hb, d, h1, h2⟩ => ⟨by rw [h1, h2], hb⟩) L
    | num typ v text =>
      rw [h] at C
      obtain ⟨n, hn⟩ := nt_of (numR_val h).2
      have M : ∀ W, Below w.heap.size w W → Calls Tryz.prog 9 #[.int .i64 (-1), .string s, .string s, .agg #[.int .i64 1, .int .i64 1, .int .i64 0, .int .i64 0, .int .i64 0]] W (Mades n 2 0 s s 1 1 0 W) := fun W hW =>
        make_below (-1) n 2 0 s s 1 1 0 (by omega) (by omega) W fun q V hV => maker_num n s s q V (new_num s s typ text v n hn h q V (tn_any B H O X EV s (by omega) V (Nat.le_trans (Nat.le_trans hB hW.size) hV.size) ((hT.keep hW hB).keep hV (Nat.le_trans hB hW.size)) ((hE.keep hW hB).keep hV (Nat.le_trans hB hW.size))))
      have hv := (numR_val h).1
      rcases hv with ⟨a, rfl⟩ | ⟨a, rfl⟩ | ⟨x, rfl⟩
      · refine law_num s typ text n 1 a 0 0 hn w (by omega) (C.mono fun e w' ⟨hb, d, h1, h2⟩ => ⟨?_, hb⟩) M L
        rcases h2 with ⟨b, h3, h4⟩ | ⟨b, h3, h4⟩ | ⟨x, h3, h4⟩
        · unfold iV at h3; injection h3 with h5 h6; injection h6 with h7 h8; rw [h1, h4, h8]
        · exact absurd h3 (by unfold iV uV; intro h; injection h with h1 h2; cases h2)
        · exact absurd h3 (by unfold iV fV; intro h; injection h with h1 h2; cases h2)
      · refine law_num s typ text n 2 0 a 0 hn w (by omega) (C.mono fun e w' ⟨hb, d, h1, h2⟩ => ⟨?_, hb⟩) M L
        rcases h2 with ⟨b, h3, h4⟩ | ⟨b, h3, h4⟩ | ⟨x, h3, h4⟩
        · exact absurd h3 (by unfold iV uV; intro h; injection h with h1 h2; cases h2)
        · unfold uV at h3; injection h3 with h5 h6; injection h6 with h7 h8; rw [h1, h4, h8]
        · exact absurd h3 (by unfold uV fV; intro h; injection h with h1 h2; cases h2)
      · refine law_num s typ text n 3 0 0 x hn w (by omega) (C.mono fun e w' ⟨hb, d, h1, h2⟩ => ⟨?_, hb⟩) M L
        rcases h2 with ⟨b, h3, h4⟩ | ⟨b, h3, h4⟩ | ⟨y, h3, h4⟩
        · exact absurd h3 (by unfold iV fV; intro h; injection h with h1 h2; cases h2)
        · exact absurd h3 (by unfold uV fV; intro h; injection h with h1 h2; cases h2)
        · unfold fV at h3; injection h3 with h5 h6; injection h6 with h7 h8; rw [h1, h4, h8]
end Go.Proofs.YtlkbhmmelejmjaaGreatDoor.TokTell

/- The tables that floats are read with, from what a row lists of them. -/
namespace Go.Proofs.YtlkbhmmelejmjaaGreatDoor.FltLaid
open Go.RowKit Go.Lib Go.Proofs.YtlkbhmmelejmjaaGreatDoorW.PrintWords Go.Proofs.YtlkbhmmelejmjaaGreatDoor.FltState Go.Proofs.YtlkbhmmelejmjaaGreatDoor.FltBoth Go.Proofs.YtlkbhmmelejmjaaGreatDoor.FltBitsP Go.Proofs.YtlkbhmmelejmjaaGreatDoor.FltBits Go.Proofs.YtlkbhmmelejmjaaGreatDoor.FltFast2 Go.Proofs.YtlkbhmmelejmjaaGreatDoor.FltNum Go.Proofs.YtlkbhmmelejmjaaGreatDoor.FltExact Go.Proofs.YtlkbhmmelejmjaaGreatDoor.FltHexP Go.Proofs.YtlkbhmmelejmjaaGreatDoor.FltAtof Go.Proofs.YtlkbhmmelejmjaaGreatDoor.NumErr
set_option linter.unusedVariables false
set_option linter.unusedSimpArgs false

section
variable {H : Type} {enc : TypeId × Value → H} {P : Program} {w : World} {base : Nat} {sp : Nat → Bool} {held : Bool} {fuel : Nat} {t e : TypeId} {cs : List Value} {p : List MemPlace}
theorem trod_float {k : FloatKind} {x : DataW H × List MemPlace} (ht : P.underlying t = some (.float k)) (h : DataW.trod enc P w base sp held fuel t cs = some x) : ∃ n, cs = [.float k n] ∧ x = (.lit (.float k n), []) := by
  cases fuel with
  | zero => simp [DataW.trod] at h
  | succ n =>
    unfold DataW.trod at h
    rw [ht] at h
    split at h <;> simp_all
/-- A slice: where it lies, and what each of its elements' cells read as. -/
theorem slice_reads {ds sp' : List (DataW H)} (ht : P.underlying t = some (.slice e)) (h : DataW.trod enc P w base sp held fuel t cs = some (.slice ds sp', p)) :
    ∃ (a : Addr) (cap n : Nat), cs = [.slice (some a) ds.length cap] ∧ ∀ i d, ds[i]? = some d → ∃ q cs', w.cells? base (a.add (i * P.cellsOf e)) (P.cellsOf e) = some cs' ∧ DataW.trod enc P w base sp held n e cs' = some (d, q) := by
  rcases DataW.trod_slice ht h with ⟨_, hx⟩ | ⟨a, len, cap, elems, rest, n, rfl, hcs, hx, _, _, _, hl, hel, _, _⟩
  · cases hx
  · have hd : ds = elems.map (·.1) := by
      have := congrArg Prod.fst hx
      simp only [DataW.slice.injEq] at this
      exact this.1
    have hdl : ds.length = len := by rw [hd, List.length_map, hl]
    refine ⟨a, cap, n, by rw [hcs, hdl], fun i d hi => ?_⟩
    rw [hd, List.getElem?_map, Option.map_eq_some_iff] at hi
    obtain ⟨b, hb, rfl⟩ := hi
    have hi' : i < len := by rw [← hl]; exact (List.getElem?_eq_some_iff.1 hb).1
    have := hel i hi'
    rw [hb, Option.bind_eq_some_iff] at this
    obtain ⟨cs', h1, h2⟩ := this
    exact ⟨b.2, cs', h1, h2⟩
theorem add_none (L o j : Nat) : Addr.add ⟨L, o, none⟩ j = ⟨L, o + j, none⟩ := by
  cases j <;> simp [Addr.add]
theorem of_none {a : Addr} {v : Value} (h : w.cell? (a.add 0) = some v) : ∃ L o, a = ⟨L, o, none⟩ := by
  obtain ⟨L, o, s⟩ := a
  have h0 : Addr.add ⟨L, o, s⟩ 0 = ⟨L, o, s⟩ := by simp [Addr.add]
  rw [h0] at h
  have : s = none := by
    cases s with
    | none => rfl
    | some x =>
      unfold World.cell? at h
      split at h <;> simp at h
  exact ⟨L, o, by rw [this]⟩
end

theorem var_lt {w : World} {n : String} {g : Nat} {cs : Array Value} (hg : Tryz.prog.globalNamed n = some g) (h : w.var? Tryz.prog n = some cs) : g < w.heap.size := by
  simp only [World.var?, hg, Option.bind_some] at h
  split at h
  · next c t fr hb => exact (Array.getElem?_eq_some_iff.1 hb).1
  · cases h

def powD : DataW Unit := .slice [.lit (.int .i64 1), .lit (.int .i64 3), .lit (.int .i64 6), .lit (.int .i64 9), .lit (.int .i64 13), .lit (.int .i64 16), .lit (.int .i64 19), .lit (.int .i64 23), .lit (.int .i64 26)] []
theorem pow_at : ∀ k, k < 9 → ([.lit (.int .i64 1), .lit (.int .i64 3), .lit (.int .i64 6), .lit (.int .i64 9), .lit (.int .i64 13), .lit (.int .i64 16), .lit (.int .i64 19), .lit (.int .i64 23), .lit (.int .i64 26)] : List (DataW Unit))[k]? = some (.lit (.int .i64 (pw k)))
  | 0, _ => rfl
  | 1, _ => rfl
  | 2, _ => rfl
  | 3, _ => rfl
  | 4, _ => rfl
  | 5, _ => rfl
  | 6, _ => rfl
  | 7, _ => rfl
  | 8, _ => rfl
  | k + 9, h => by omega
theorem pt_of {w : World} (h : VarReads Tryz.prog w "internal/strconv.powtab" powD) : PT w.heap.size w := by
  obtain ⟨g, t, cs, fuel, p, hg, hty, hvar, hd⟩ := h
  obtain rfl := Option.some.inj ((show Tryz.prog.globalNamed "internal/strconv.powtab" = some 8 by kernel_rfl).symm.trans hg)
  obtain rfl := Option.some.inj ((show (Tryz.prog.globals[8]?).map (·.type) = some 175 by kernel_rfl).symm.trans hty)
  obtain ⟨a, cap, n, hcs, hel⟩ := slice_reads Tryz.underlying175 hd
  have hc1 : Tryz.prog.cellsOf 3 = 1 := by kernel_rfl
  have hk : ∀ k, k < 9 → w.cell? (a.add k) = some (.int .i64 (pw k)) ∧ a.block < w.heap.size := fun k hk => by
    obtain ⟨q, cs', h1, h2⟩ := hel k _ (pow_at k hk)
    rw [hc1, Nat.mul_one] at h1
    obtain ⟨_, _, h3⟩ := World.cells?_some h1
    obtain ⟨z, hz, hx, _⟩ := DataW.trod_int Tryz.underlying3 h2
    have h4 := h3 0 (by omega)
    rw [hz] at h4
    have h5 : (a.add k).add 0 = a.add k := by simp [Addr.add]
    rw [h5] at h4
    simp only [Prod.mk.injEq, DataW.lit.injEq, Lit.int.injEq, true_and] at hx
    rw [hx.1]
    refine ⟨h4, ?_⟩
    have := World.block_lt_of_cell? w _ h4
    have hb : (a.add k).block = a.block := by unfold Addr.add; split <;> rfl
    rw [hb] at this
    exact this
  obtain ⟨L, o, rfl⟩ := of_none (hk 0 (by omega)).1
  refine ⟨L, o, cap, var_lt hg hvar, (hk 0 (by omega)).2, ?_, fun k hkk => ?_⟩
  · rw [World.var?_cell hg hvar 0, ← Array.getElem?_toList, hcs]; rfl
  · have := (hk k hkk).1
    rw [add_none] at this
    exact this

/-- The powers of ten as floats. -/
def XL : List Nat := [4607182418800017408, 4621819117588971520, 4636737291354636288, 4652007308841189376, 4666723172467343360, 4681608360884174848, 4696837146684686336, 4711630319722168320, 4726483295884279808, 4741671816366391296, 4756540486875873280, 4771362005757984768, 4786511204640096256, 4801453603149578240, 4816244402031689728, 4831355200913801216, 4846369599423283200, 4861130398305394688, 4876203697187506176, 4891288408196988160, 4906019910204099648, 4921056587992461136, 4936209963552724370]
def XF (k : Nat) : Nat := XL.getD k 0
def tenD : DataW Unit := .slice (XL.map fun x => .lit (.float .f64 x)) []
theorem pos_all : ((List.range 23).all fun k => match D.read (XF k) with | .number false n _ => n != 0 | _ => false) = true := by decide +kernel
theorem pos_at (k : Nat) (h : k < 23) : Pos (XF k) := by
  have := List.all_eq_true.1 pos_all k (List.mem_range.2 h)
  unfold Pos
  revert this
  cases D.read (XF k) with
  | number s n j =>
    cases s with
    | false => exact fun hn => ⟨n, j, rfl, by simpa using hn⟩
    | true => exact fun hn => by simp at hn
  | infinity s => exact fun hn => by simp at hn
  | _ => exact fun hn => by simp at hn
theorem xt_of {w : World} (h : VarReads Tryz.prog w "internal/strconv.float64pow10" tenD) : XT w.heap.size XF w := by
  obtain ⟨g, t, cs, fuel, p, hg, hty, hvar, hd⟩ := h
  obtain rfl := Option.some.inj ((show Tryz.prog.globalNamed "internal/strconv.float64pow10" = some 9 by kernel_rfl).symm.trans hg)
  obtain rfl := Option.some.inj ((show (Tryz.prog.globals[9]?).map (·.type) = some 177 by kernel_rfl).symm.trans hty)
  obtain ⟨a, cap, n, hcs, hel⟩ := slice_reads Tryz.underlying177 hd
  have hc1 : Tryz.prog.cellsOf 35 = 1 := by kernel_rfl
  have hk : ∀ k, k < 23 → w.cell? (a.add k) = some (.float .f64 (XF k)) ∧ a.block < w.heap.size := fun k hk => by
    have hX : (XL.map fun x => (.lit (.float .f64 x) : DataW Unit))[k]? = some (.lit (.float .f64 (XF k))) := by
      have hl : k < XL.length := hk
      rw [List.getElem?_map, List.getElem?_eq_getElem hl]
      simp [XF, List.getD, hl]
    obtain ⟨q, cs', h1, h2⟩ := hel k _ hX
    rw [hc1, Nat.mul_one] at h1
    obtain ⟨_, _, h3⟩ := World.cells?_some h1
    obtain ⟨z, hz, hx⟩ := trod_float Tryz.underlying35 h2
    have h4 := h3 0 (by omega)
    rw [hz] at h4
    have h5 : (a.add k).add 0 = a.add k := by simp [Addr.add]
    rw [h5] at h4
    simp only [Prod.mk.injEq, DataW.lit.injEq, Lit.float.injEq, true_and] at hx
    rw [hx.1]
    refine ⟨h4, ?_⟩
    have := World.block_lt_of_cell? w _ h4
    have hb : (a.add k).block = a.block := by unfold Addr.add; split <;> rfl
    rw [hb] at this
    exact this
  obtain ⟨L, o, rfl⟩ := of_none (hk 0 (by omega)).1
  refine ⟨L, o, cap, var_lt hg hvar, (hk 0 (by omega)).2, ?_, fun k hkk => ?_⟩
  · rw [World.var?_cell hg hvar 0, ← Array.getElem?_toList, hcs]; rfl
  · have := (hk k hkk).1
    rw [add_none] at this
    exact this

theorem cheat_len : Pinned.cheatRows.length = 61 := by decide +kernel
theorem lt_of {w : World} (h : VarReads Tryz.prog w "internal/strconv.leftcheats" Pinned.leftcheats) : LTb w.heap.size w := by
  obtain ⟨g, t, cs, fuel, p, hg, hty, hvar, hd⟩ := h
  obtain rfl := Option.some.inj ((show Tryz.prog.globalNamed "internal/strconv.leftcheats" = some 11 by kernel_rfl).symm.trans hg)
  obtain rfl := Option.some.inj ((show (Tryz.prog.globals[11]?).map (·.type) = some 193 by kernel_rfl).symm.trans hty)
  obtain ⟨a, cap, n, hcs, hel⟩ := slice_reads Tryz.underlying193 hd
  have hc2 : Tryz.prog.cellsOf 192 = 2 := by kernel_rfl
  have hi1 : Tryz.prog.cellsOf 3 = 1 := by kernel_rfl
  have hs1 : Tryz.prog.cellsOf 9 = 1 := by kernel_rfl
  have hlen : (Pinned.cheatRows.map fun x => (.agg [.lit (.int .i64 x.1), .lit (.string x.2)] : DataW Unit)).length = 61 := by rw [List.length_map, cheat_len]
  have hk : ∀ k, k < 61 → w.cell? (a.add (k * 2)) = some (.int .i64 (lcD k)) ∧ w.cell? ((a.add (k * 2)).add 1) = some (.string (lcT k)) ∧ a.block < w.heap.size := fun k hk => by
    have hl : k < Pinned.cheatRows.length := by rw [cheat_len]; exact hk
    have hX : (Pinned.cheatRows.map fun x => (.agg [.lit (.int .i64 x.1), .lit (.string x.2)] : DataW Unit))[k]? = some (.agg [.lit (.int .i64 (lcD k)), .lit (.string (lcL k))]) := by
      rw [List.getElem?_map, List.getElem?_eq_getElem hl]
      simp [lcD, lcL, List.getD, hl]
    obtain ⟨q, cs', h1, h2⟩ := hel k _ hX
    rw [hc2] at h1
    obtain ⟨_, hcl, h3⟩ := World.cells?_some h1
    obtain ⟨xs, n', hn', hxs, _, hxl, hall⟩ := DataW.trod_struct Tryz.underlying192 h2
    have hx2 : xs.map (·.1) = [.lit (.int .i64 (lcD k)), .lit (.string (lcL k))] := by
      have := congrArg Prod.fst hxs
      simpa using this.symm
    obtain ⟨x0, x1, rfl⟩ : ∃ x0 x1, xs = [x0, x1] := by
      match xs, hx2 with
      | [x0, x1], _ => exact ⟨x0, x1, rfl⟩
    simp only [List.map_cons, List.map_nil, List.cons.injEq, and_true] at hx2
    have f0 := hall 0 _ rfl
    have f1 := hall 1 _ rfl
    change DataW.trod _ _ _ _ _ _ _ 3 ((cs'.drop 0).take (Tryz.prog.cellsOf 3)) = some x0 at f0
    change DataW.trod _ _ _ _ _ _ _ 9 ((cs'.drop 1).take (Tryz.prog.cellsOf 9)) = some x1 at f1
    rw [hi1] at f0
    rw [hs1] at f1
    obtain ⟨z, hz, hz2, _⟩ := DataW.trod_int Tryz.underlying3 f0
    obtain ⟨s, hs, hs2, _⟩ := DataW.trod_string Tryz.underlying9 f1
    have g0 := h3 0 (by omega)
    have g1 := h3 1 (by omega)
    have c0 := congrArg (·[0]?) hz
    have c1 := congrArg (·[0]?) hs
    simp only [List.getElem?_take, List.getElem?_drop, Nat.add_zero, List.getElem?_cons_zero, Nat.lt_one_iff, if_true] at c0 c1
    rw [c0] at g0
    rw [c1] at g1
    have h5 : (a.add (k * 2)).add 0 = a.add (k * 2) := by simp [Addr.add]
    rw [h5] at g0
    have e0 : z = lcD k := by
      have := hx2.1
      rw [hz2] at this
      simp only [DataW.lit.injEq, Lit.int.injEq, true_and] at this
      exact this
    have e1 : s = lcT k := by
      have := hx2.2
      rw [hs2] at this
      simp only [DataW.lit.injEq, Lit.string.injEq] at this
      unfold lcT
      rw [← this]
    rw [e0] at g0
    rw [e1] at g1
    refine ⟨g0, g1, ?_⟩
    have := World.block_lt_of_cell? w _ g0
    have hb : (a.add (k * 2)).block = a.block := by unfold Addr.add; split <;> rfl
    rw [hb] at this
    exact this
  have h00 := (hk 0 (by omega)).1
  rw [Nat.zero_mul] at h00
  obtain ⟨L, o, rfl⟩ := of_none h00
  refine ⟨L, o, cap, var_lt hg hvar, (hk 0 (by omega)).2.2, ?_, fun k hkk => ?_⟩
  · rw [World.var?_cell hg hvar 0, ← Array.getElem?_toList, hcs, hlen]; rfl
  · obtain ⟨h1, h2, _⟩ := hk k hkk
    rw [add_none] at h1 h2
    rw [add_none] at h2
    exact ⟨h1, h2⟩

def HF (k : Nat) : Nat := (Pinned.pow10Rows.getD k (0, 0)).1
def OF (k : Nat) : Nat := (Pinned.pow10Rows.getD k (0, 0)).2
theorem pow_len : Pinned.pow10Rows.length = 696 := by decide +kernel
theorem tt_of {w : World} (h : VarReads Tryz.prog w "internal/strconv.pow10Tab" Pinned.pow10Tab) : TT w.heap.size (fun k => HF k) (fun k => OF k) w := by
  obtain ⟨g, t, cs, fuel, p, hg, hty, hvar, hd⟩ := h
  obtain rfl := Option.some.inj ((show Tryz.prog.globalNamed "internal/strconv.pow10Tab" = some 10 by kernel_rfl).symm.trans hg)
  obtain rfl := Option.some.inj ((show (Tryz.prog.globals[10]?).map (·.type) = some 182 by kernel_rfl).symm.trans hty)
  have hc2 : Tryz.prog.cellsOf 181 = 2 := by kernel_rfl
  have hu1 : Tryz.prog.cellsOf 34 = 1 := by kernel_rfl
  refine ⟨var_lt hg hvar, fun k hk => ?_⟩
  obtain ⟨fuel', d, q, hdi, he⟩ := array_elem Tryz.underlying182 hd k hk
  have hl : k < Pinned.pow10Rows.length := by rw [pow_len]; exact hk
  rw [List.getElem?_map, List.getElem?_eq_getElem hl] at hdi
  have hd' : d = .agg ([(HF k : Int), (OF k : Int)].map fun z => .lit (.int .u64 z)) := by
    simp only [Option.map_some, Option.some.injEq] at hdi
    rw [← hdi]
    simp [HF, OF, List.getD, hl]
  subst hd'
  rw [hc2] at he
  have hcs := ints_of_struct Tryz.underlying181 (fun j f hj => by
    match j, hj with
    | 0, hj => simp at hj; subst hj; exact ⟨Tryz.underlying34, rfl, hu1⟩
    | 1, hj => simp at hj; subst hj; exact ⟨Tryz.underlying34, rfl, hu1⟩
    | j + 2, hj => simp at hj) (by rw [hc2]; rfl) he
  have e0 := congrArg (·[0]?) hcs
  have e1 := congrArg (·[1]?) hcs
  simp only [List.getElem?_take, List.getElem?_drop] at e0 e1
  constructor
  · rw [World.var?_cell hg hvar (k * 2), ← Array.getElem?_toList]
    simpa using e0
  · rw [World.var?_cell hg hvar (k * 2 + 1), ← Array.getElem?_toList]
    simpa using e1

def infoD (m x b : Int) : DataW Unit := .agg [.lit (.int .u64 m), .lit (.int .u64 x), .lit (.int .i64 b)]
theorem fi_of {w : World} (h : VarReads Tryz.prog w "internal/strconv.float64info" (infoD 52 11 (-1023))) : FI w.heap.size 6 w := by
  obtain ⟨g, t, cs, fuel, p, hg, hty, hvar, hd⟩ := h
  obtain rfl := Option.some.inj ((show Tryz.prog.globalNamed "internal/strconv.float64info" = some 6 by kernel_rfl).symm.trans hg)
  obtain rfl := Option.some.inj ((show (Tryz.prog.globals[6]?).map (·.type) = some 139 by kernel_rfl).symm.trans hty)
  obtain ⟨xs, n', hn', hxs, _, hxl, hall⟩ := DataW.trod_struct Tryz.underlying139 hd
  have hi1 : Tryz.prog.cellsOf 3 = 1 := by kernel_rfl
  have hu1 : Tryz.prog.cellsOf 112 = 1 := by kernel_rfl
  have hx2 : xs.map (·.1) = [.lit (.int .u64 52), .lit (.int .u64 11), .lit (.int .i64 (-1023))] := by
    have := congrArg Prod.fst hxs
    simpa [infoD] using this.symm
  obtain ⟨x0, x1, x2, rfl⟩ : ∃ x0 x1 x2, xs = [x0, x1, x2] := by
    match xs, hx2 with
    | [x0, x1, x2], _ => exact ⟨x0, x1, x2, rfl⟩
  simp only [List.map_cons, List.map_nil, List.cons.injEq, and_true] at hx2
  have f0 := hall 0 _ rfl
  have f1 := hall 1 _ rfl
  have f2 := hall 2 _ rfl
  change DataW.trod _ _ _ _ _ _ _ 112 ((cs.toList.drop 0).take (Tryz.prog.cellsOf 112)) = some x0 at f0
  change DataW.trod _ _ _ _ _ _ _ 112 ((cs.toList.drop 1).take (Tryz.prog.cellsOf 112)) = some x1 at f1
  change DataW.trod _ _ _ _ _ _ _ 3 ((cs.toList.drop 2).take (Tryz.prog.cellsOf 3)) = some x2 at f2
  rw [hu1] at f0 f1
  rw [hi1] at f2
  obtain ⟨z0, hz0, hy0, _⟩ := DataW.trod_int Tryz.underlying112 f0
  obtain ⟨z1, hz1, hy1, _⟩ := DataW.trod_int Tryz.underlying112 f1
  obtain ⟨z2, hz2, hy2, _⟩ := DataW.trod_int Tryz.underlying3 f2
  have c0 := congrArg (·[0]?) hz0
  have c1 := congrArg (·[0]?) hz1
  have c2 := congrArg (·[0]?) hz2
  simp only [List.getElem?_take, List.getElem?_drop, Nat.add_zero, List.getElem?_cons_zero, Nat.lt_one_iff, if_true] at c0 c1 c2
  have e0 := hx2.1; rw [hy0] at e0; simp only [DataW.lit.injEq, Lit.int.injEq, true_and] at e0
  have e1 := hx2.2.1; rw [hy1] at e1; simp only [DataW.lit.injEq, Lit.int.injEq, true_and] at e1
  have e2 := hx2.2.2; rw [hy2] at e2; simp only [DataW.lit.injEq, Lit.int.injEq, true_and] at e2
  subst e0 e1 e2
  refine ⟨var_lt hg hvar, ?_, ?_, ?_⟩
  · rw [World.var?_cell hg hvar 0, ← Array.getElem?_toList]; exact c0
  · rw [World.var?_cell hg hvar 1, ← Array.getElem?_toList]; exact c1
  · rw [World.var?_cell hg hvar 2, ← Array.getElem?_toList]; exact c2

theorem op_of {w : World} (h : VarReads Tryz.prog w "internal/strconv.optimize" (.lit (.bool true))) : 5 < w.heap.size ∧ w.cell? ⟨5, 0, none⟩ = some (.bool true) := by
  obtain ⟨g, t, cs, fuel, p, hg, hty, hvar, hd⟩ := h
  obtain rfl := Option.some.inj ((show Tryz.prog.globalNamed "internal/strconv.optimize" = some 5 by kernel_rfl).symm.trans hg)
  obtain rfl := Option.some.inj ((show (Tryz.prog.globals[5]?).map (·.type) = some 4 by kernel_rfl).symm.trans hty)
  obtain ⟨b, hb, hx⟩ := DataW.trod_bool Tryz.underlying4 hd
  refine ⟨var_lt hg hvar, ?_⟩
  rw [World.var?_cell hg hvar 0, ← Array.getElem?_toList, hb]
  simp only [Prod.mk.injEq, DataW.lit.injEq, Lit.bool.injEq] at hx
  rw [← hx.1]; rfl

/-- A listed variable of cells stands in a block without a frozen part. -/
theorem LaidVars_row {w : World} : ∀ {l : List (String × DataW Unit)} {ps : List MemPlace}, DataW.LaidVars Tryz.prog w l ps → ∀ n d, (n, d) ∈ l → ∃ g t cs fuel p, Tryz.prog.globalNamed n = some g ∧ (Tryz.prog.globals[g]?).map (·.type) = some t ∧ w.var? Tryz.prog n = some cs ∧ DataW.trod (fun _ => ()) Tryz.prog w 0 (fun _ => true) false fuel t cs.toList = some (d, p) ∧ ∀ x ∈ MemPlace.row ⟨g, 0, none⟩ cs.size, x ∈ ps
  | [], _, _, _, _, hm => by cases hm
  | (n', d') :: r, ps, h, n, d, hm => by
    obtain ⟨g, t, cs, fuel, p, q, h1, h2, h3, h4, h5, h6⟩ := h
    rcases List.mem_cons.1 hm with e | e
    · cases e
      exact ⟨g, t, cs, fuel, p, h1, h2, h3, h4, fun x hx => by rw [h6]; exact List.mem_append_left _ (List.mem_append_left _ hx)⟩
    · obtain ⟨g', t', cs', fuel', p', k1, k2, k3, k4, k5⟩ := LaidVars_row h5 n d e
      exact ⟨g', t', cs', fuel', p', k1, k2, k3, k4, fun x hx => by rw [h6]; exact List.mem_append_right _ (k5 x hx)⟩
theorem block_of {w : World} {l : List (String × DataW Unit)} (h : laidMet Tryz.prog l w) {n : String} {d : DataW Unit} (hm : (n, d) ∈ l) {g : Nat} (hg : Tryz.prog.globalNamed n = some g) (hne : ∀ cs : Array Value, cs.size = 0 → ∀ fuel t p, (Tryz.prog.globals[g]?).map (·.type) = some t → DataW.trod (fun _ => ()) Tryz.prog w 0 (fun _ => true) false fuel t cs.toList ≠ some (d, p)) : g < w.heap.size ∧ ∃ c t, w.heap[g]? = some (.cells c t (0, 0)) := by
  obtain ⟨ps, hv, _, hrows⟩ := h
  obtain ⟨g', t, cs, fuel, p, h1, h2, h3, h4, h5⟩ := LaidVars_row hv n d hm
  obtain rfl := Option.some.inj (hg.symm.trans h1)
  have h0 : 0 < cs.size := by
    rcases Nat.eq_zero_or_pos cs.size with h | h
    · exact absurd h4 (hne cs h fuel t p h2)
    · exact h
  have hin : MemPlace.cell g 0 ∈ ps := h5 _ (by
    unfold MemPlace.row
    refine List.mem_map.2 ⟨0, List.mem_range.2 h0, ?_⟩
    simp [Addr.add])
  exact ⟨var_lt hg h3, (hrows g 0 hin).1⟩
theorem info_ne {w : World} {g : Nat} (hg : (Tryz.prog.globals[g]?).map (·.type) = some 139) (d : DataW Unit) : ∀ cs : Array Value, cs.size = 0 → ∀ fuel t p, (Tryz.prog.globals[g]?).map (·.type) = some t → DataW.trod (fun _ => ()) Tryz.prog w 0 (fun _ => true) false fuel t cs.toList ≠ some (d, p) := by
  intro cs hcs fuel t p ht h
  obtain rfl := Option.some.inj (hg.symm.trans ht)
  obtain ⟨xs, n', hn', hxs, hl, _⟩ := DataW.trod_struct Tryz.underlying139 h
  have hc : Tryz.prog.cellsOf 139 = 3 := by kernel_rfl
  rw [hc, Array.length_toList] at hl
  omega
theorem pq_of {w : World} {l : List (String × DataW Unit)} {d64 d32 : DataW Unit} (h : laidMet Tryz.prog l w) (h64 : ("internal/strconv.float64info", d64) ∈ l) (h32 : ("internal/strconv.float32info", d32) ∈ l) : PQ w.heap.size w := by
  have g64 : Tryz.prog.globalNamed "internal/strconv.float64info" = some 6 := by kernel_rfl
  have g32 : Tryz.prog.globalNamed "internal/strconv.float32info" = some 4 := by kernel_rfl
  have t64 : (Tryz.prog.globals[6]?).map (·.type) = some 139 := by kernel_rfl
  have t32 : (Tryz.prog.globals[4]?).map (·.type) = some 139 := by kernel_rfl
  have b64 := block_of h h64 g64 (info_ne t64 d64)
  have b32 := block_of h h32 g32 (info_ne t32 d32)
  exact ⟨b64.1, b32.1, b64.2, b32.2⟩

def EVof (aR aS : Addr) (k : Nat) : Value := if k = 1 then .iface 157 (.pointer (some aR)) else .iface 157 (.pointer (some aS))
theorem errs_of {w : World} {aR aS : Addr} (hR : w.var? Tryz.prog "strconv.ErrRange" = some #[.iface 157 (.pointer (some aR))]) (hS : w.var? Tryz.prog "strconv.ErrSyntax" = some #[.iface 157 (.pointer (some aS))]) : Errs w.heap.size (EVof aR aS) w := by
  have gR : Tryz.prog.globalNamed "strconv.ErrRange" = some 2 := by kernel_rfl
  have gS : Tryz.prog.globalNamed "strconv.ErrSyntax" = some 3 := by kernel_rfl
  refine ⟨⟨var_lt gR hR, ?_⟩, ⟨var_lt gS hS, ?_⟩, fun k => ?_⟩
  · have := World.var?_cell gR hR 0; simpa [EVof] using this
  · have := World.var?_cell gS hS 0; simpa [EVof] using this
  · unfold EVof
    split
    · exact ⟨_, rfl⟩
    · exact ⟨_, rfl⟩
theorem star : "*" ++ "errors.errorString" = "*errors.errorString" := by decide
theorem row_err (u : TypeId) (h : Tryz.prog.typeName? 3 u = some "*errors.errorString") : u = 157 :=
  typeName_ptr_named (nm := "errors.errorString") (by rw [star]; kernel_rfl) (by kernel_rfl) (by decide) u (by rw [star]; exact h)
theorem cells_es : Tryz.prog.cellsOf 159 = 1 := by kernel_rfl
theorem cells_str : Tryz.prog.cellsOf 9 = 1 := by kernel_rfl
/-- Of two listed errors, ErrRange right ahead of ErrSyntax. -/
theorem errs_laid {w : World} {tR tS : List UInt8} {r : List (String × DataW Unit)} (h : laidMet Tryz.prog (("strconv.ErrRange", .iface "*errors.errorString" (.ptr (.agg [.lit (.string tR)]))) :: ("strconv.ErrSyntax", .iface "*errors.errorString" (.ptr (.agg [.lit (.string tS)]))) :: r) w) : ∃ EV, Errs w.heap.size EV w := by
  have gR : Tryz.prog.globalNamed "strconv.ErrRange" = some 2 := by kernel_rfl
  have gS : Tryz.prog.globalNamed "strconv.ErrSyntax" = some 3 := by kernel_rfl
  have tyR : (Tryz.prog.globals[2]?).map (·.type) = some 79 := by kernel_rfl
  have tyS : (Tryz.prog.globals[3]?).map (·.type) = some 79 := by kernel_rfl
  obtain ⟨aR, _, hR, _⟩ := laid_sentinel h gR tyR Tryz.underlying79 row_err Tryz.underlying157 Tryz.underlying159 rfl rfl Tryz.underlying9 cells_es cells_str
  obtain ⟨aS, _, hS, _⟩ := laid_sentinel (laidMet.tail h) gS tyS Tryz.underlying79 row_err Tryz.underlying157 Tryz.underlying159 rfl rfl Tryz.underlying9 cells_es cells_str
  exact ⟨_, errs_of hR hS⟩
end Go.Proofs.YtlkbhmmelejmjaaGreatDoor.FltLaid
