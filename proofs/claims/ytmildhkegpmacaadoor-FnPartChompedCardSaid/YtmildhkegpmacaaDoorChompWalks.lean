/- The walks that make a scanner's context: Scanner.Init of the empty text, newContext, zzAt. -/
import Derived.Test.YtmildhkegpmacaaDoorHeadWalks
namespace Go.Proofs.YtmildhkegpmacaaDoor.ChompWalks
open Go.RowKit Go.Proofs.YtmildhkegpmacaaDoorW.PrintWords Go.Proofs.YtmildhkegpmacaaDoor.Utf
set_option linter.unusedVariables false
set_option linter.unusedSimpArgs false

/-- A context in memory. -/
def Ctx (w : World) (g : Nat) (idx size nsp nsop : Int) (src buf obuf tokens mstate : Value) : Prop :=
  w.heap[g]? = some (.cells #[.int .i64 idx, .int .i64 size, .int .i64 nsp, .int .i64 nsop, src, buf, obuf, tokens, mstate] 98 (0, 0))

theorem below_sets {b g : Nat} {w w1 : World} (h : Below b w w1) (hb : b ≤ g) (i : Nat) (v : Value) : Below b w (w1.setCell ⟨g, i, none⟩ v) := h.setCell hb v

set_option maxHeartbeats 1000000 in
set_option maxRecDepth 100000 in
theorem resetBuffer_any (g : Nat) (idx size nsp nsop : Int) (src tokens mstate : Value) (w : World) (h : Ctx w g idx size nsp nsop src (.slice none 0 0) (.slice none 0 0) tokens mstate) :
    Calls Tryd.prog 148 #[.pointer (some ⟨g, 0, none⟩)] w fun e w' => e = .returned (.tuple #[]) ∧ Ctx w' g idx size 0 0 src (.slice none 0 0) (.slice none 0 0) tokens mstate ∧ ∀ b, b ≤ g → Below b w w' := by
  have H := Aside0.mk h
  have x2 := blk_cell h 2
  have x3 := blk_cell h 3
  have x5 := blk_cell h 5
  have x6 := blk_cell h 6
  have f2 := blk_frozen h 2
  have f3 := blk_frozen h 3
  have f5 := blk_frozen h 5
  have f6 := blk_frozen h 6
  simp only [List.getElem?_toArray, List.getElem?_cons_succ, List.getElem?_cons_zero] at x2 x3 x5 x6
  clear h
  go_enter Tryd.func148, Tryd.ntmps148
  go_wp2_with fail
  go_end0
  refine ⟨rfl, ?_, fun b hb => ?_⟩
  · have h := blk_set (blk_set (blk_set (blk_set H.out 5 (.slice none 0 0)) 6 (.slice none 0 0)) 2 (.int .i64 0)) 3 (.int .i64 0)
    unfold Ctx
    rw [h]
    rfl
  · exact below_sets (below_sets (below_sets (below_sets (Below.refl _ _) hb _ _) hb _ _) hb _ _) hb _ _

set_option maxHeartbeats 1000000 in
set_option maxRecDepth 100000 in
theorem reset_any (g : Nat) (idx size nsp nsop : Int) (src mstate : Value) (t : Addr) (A : Option Addr) (n c : Nat) (w : World) (h : Ctx w g idx size nsp nsop src (.slice none 0 0) (.slice none 0 0) (.slice (some t) 0 0) mstate) :
    Calls Tryd.prog 132 #[.pointer (some ⟨g, 0, none⟩), .slice A n c] w fun e w' => e = .returned (.tuple #[]) ∧ (∃ tok, Ctx w' g 0 n 0 0 (.slice A n c) (.slice none 0 0) (.slice none 0 0) tok (.pointer none)) ∧ ∀ b, b ≤ g → Below b w w' := by
  have H := Aside0.mk h
  have x0 := blk_cell h 0
  have x1 := blk_cell h 1
  have x4 := blk_cell h 4
  have x7 := blk_cell h 7
  have f0 := blk_frozen h 0
  have f1 := blk_frozen h 1
  have f4 := blk_frozen h 4
  have f7 := blk_frozen h 7
  simp only [List.getElem?_toArray, List.getElem?_cons_succ, List.getElem?_cons_zero] at x0 x1 x4 x7
  have RB := Aside0.mk fun w1 src tokens (h1 : Ctx w1 g 0 n nsp nsop src (.slice none 0 0) (.slice none 0 0) tokens mstate) => resetBuffer_any g 0 n nsp nsop src tokens mstate w1 h1
  clear h
  go_enter Tryd.func132, Tryd.ntmps132
  go_wp2_with fail
  refine (RB.out _ (.slice A n c) ?tk ?hc).mono ?_
  case hc =>
    have h := blk_set (blk_set (blk_set (blk_set H.out 0 (.int .i64 0)) 1 (.int .i64 n)) 4 (.slice A n c)) 7 (.slice (some t) 0 0)
    unfold Ctx
    rw [h]
    rfl
  rintro e w1 ⟨rfl, h1, b1⟩
  have H1 := Aside0.mk h1
  have B1 := Aside0.mk b1
  have x8 := blk_cell h1 8
  have f8 := blk_frozen h1 8
  simp only [List.getElem?_toArray, List.getElem?_cons_succ, List.getElem?_cons_zero] at x8
  clear h1 b1 x0 x1 x4 x7 f0 f1 f4 f7 RB
  go_wp2_with fail
  go_end0
  refine ⟨rfl, ⟨.slice (some t) 0 0, ?_⟩, fun b hb => ?_⟩
  · have h := blk_set H1.out 8 (.pointer none)
    unfold Ctx
    rw [h]
    rfl
  · exact below_sets ((below_sets (below_sets (below_sets (below_sets (Below.refl _ _) hb _ _) hb _ _) hb _ _) hb _ _).trans (B1.out b hb)) hb _ _

set_option maxHeartbeats 1000000 in
set_option maxRecDepth 100000 in
theorem create_any (w : World) : Calls Tryd.prog 131 #[] w fun e w' => ∃ g t, e = .returned (.pointer (some ⟨g, 0, none⟩)) ∧ w.heap.size ≤ g ∧ Ctx w' g 0 0 0 0 (.slice none 0 0) (.slice none 0 0) (.slice none 0 0) (.slice (some t) 0 0) (.pointer none) ∧ Below w.heap.size w w' := by
  go_enter Tryd.func131, Tryd.ntmps131
  go_wp2_with fail
  go_ret
  refine ⟨_, ⟨w.heap.size, 0, none⟩, rfl, by omega, ?_, ((Below.refl _ w).alloc (Nat.le_refl _) _).alloc ?_ _⟩
  · have := blk_new (w.alloc (Obj.cells #[] 87)) (Obj.cells #[Value.int IntKind.i64 0, Value.int IntKind.i64 0, Value.int IntKind.i64 0, Value.int IntKind.i64 0,
          Value.slice none 0 0, Value.slice none 0 0, Value.slice none 0 0,
          Value.slice (some { block := w.heap.size, off := 0 }) 0 0, Value.pointer none] 98)
    unfold Ctx
    rw [← this]
    simp
  · simp

set_option maxHeartbeats 1000000 in
set_option maxRecDepth 100000 in
theorem newContext_any (A : Option Addr) (n c : Nat) (w : World) : Calls Tryd.prog 87 #[.slice A n c] w fun e w' => ∃ g tok, e = .returned (.pointer (some ⟨g, 0, none⟩)) ∧ w.heap.size ≤ g ∧ Ctx w' g 0 n 0 0 (.slice A n c) (.slice none 0 0) (.slice none 0 0) tok (.pointer none) ∧ Below w.heap.size w w' := by
  have CR := Aside0.mk fun wx => create_any wx
  go_enter Tryd.func87, Tryd.ntmps87
  go_wp2_with fail
  refine (CR.out _).mono ?_
  rintro e w1 ⟨g, t, rfl, hg, h1, b1⟩
  have B1 := Aside0.mk b1
  have RS := Aside0.mk (reset_any g 0 0 0 0 _ _ t A n c w1 h1)
  clear b1 h1 CR
  go_wp2_with fail
  refine RS.out.mono ?_
  rintro e w2 ⟨rfl, ⟨tok, h2⟩, b2⟩
  have B2 := Aside0.mk (B1.out.trans (b2 _ hg))
  have H2 := Aside0.mk h2
  clear b2 h2 RS
  go_wp2_with fail
  go_ret
  exact ⟨g, tok, rfl, hg, H2.out, B2.out⟩

set_option maxHeartbeats 1000000 in
set_option maxRecDepth 100000 in
theorem clearState_any (g : Nat) (C : Array Value) (hC : C.size = 18) (w : World) (h : w.heap[g]? = some (.cells C 105 (0, 0))) :
    Calls Tryd.prog 119 #[.pointer (some ⟨g, 0, none⟩)] w fun e w' => e = .returned (.tuple #[]) ∧ w'.cell? ⟨g, 0, none⟩ = w.cell? ⟨g, 0, none⟩ ∧ ∀ b, b ≤ g → Below b w w' := by
  have hx : ∀ i, i < 18 → ∃ v, w.cell? ⟨g, i, none⟩ = some v := fun i hi => ⟨C[i]'(by omega), by rw [blk_cell h i, Array.getElem?_eq_getElem]⟩
  obtain ⟨v6, x6⟩ := hx 6 (by omega)
  obtain ⟨v7, x7⟩ := hx 7 (by omega)
  obtain ⟨v8, x8⟩ := hx 8 (by omega)
  obtain ⟨v9, x9⟩ := hx 9 (by omega)
  have f6 := blk_frozen h 6
  have f7 := blk_frozen h 7
  have f8 := blk_frozen h 8
  have f9 := blk_frozen h 9
  have H := Aside0.mk h
  clear h hx
  go_enter Tryd.func119, Tryd.ntmps119
  go_wp2_with fail
  go_end0
  refine ⟨rfl, ?_, fun b hb => ?_⟩
  · have h := blk_set (blk_set (blk_set (blk_set H.out 8 (.int .i64 0)) 6 (.int .i64 0)) 9 (.int .i64 0)) 7 (.int .i64 0)
    rw [blk_cell h 0, blk_cell H.out 0]
    simp
  · exact below_sets (below_sets (below_sets (below_sets (Below.refl _ _) hb _ _) hb _ _) hb _ _) hb _ _

set_option maxHeartbeats 1000000 in
set_option maxRecDepth 100000 in
theorem init_any (g : Nat) (C : Array Value) (hC : C.size = 18) (w : World) (h : w.heap[g]? = some (.cells C 105 (0, 0))) :
    Calls Tryd.prog 84 #[.pointer (some ⟨g, 0, none⟩), .string ⟨#[]⟩] w fun e w' => e = .returned (.tuple #[]) ∧ (∃ a c, w'.cell? ⟨g, 0, none⟩ = some (.slice a 0 c)) ∧ ∀ b, b ≤ g → Below b w w' := by
  have hrc := run_runes_of_string (P := Tryd.prog) w 9 57 21 ⟨#[]⟩ Tryd.underlying9 Tryd.underlying57 Tryd.underlying21 (by decide)
  have hz : (Conv.runesFrom (⟨#[]⟩ : ByteArray) (⟨#[]⟩ : ByteArray).size 0 #[]) = #[] := rfl
  rw [hz] at hrc
  simp only [List.size_toArray, List.length_nil, Array.size_empty] at hrc
  have hg := blk_lt h
  obtain ⟨W, hW⟩ : ∃ W, W = (w.drew.alloc (.cells (#[] ++ Array.replicate (grownCap w 0 0 21 - 0) (.int .i32 0)) 21)) := ⟨_, rfl⟩
  have hBW : Below w.heap.size w W := by rw [hW]; exact (Below.refl _ w).drew.alloc (Nat.le_refl _) _
  have h1 : W.heap[g]? = some (.cells C 105 (0, 0)) := blk_below h hBW
  rw [← hW] at hrc
  have hx : ∀ i, i < 18 → ∃ v, W.cell? ⟨g, i, none⟩ = some v := fun i hi => ⟨C[i]'(by omega), by rw [blk_cell h1 i, Array.getElem?_eq_getElem]⟩
  obtain ⟨v0, x0⟩ := hx 0 (by omega)
  obtain ⟨v1, x1⟩ := hx 1 (by omega)
  obtain ⟨v2, x2⟩ := hx 2 (by omega)
  obtain ⟨v3, x3⟩ := hx 3 (by omega)
  obtain ⟨v4, x4⟩ := hx 4 (by omega)
  obtain ⟨v5, x5⟩ := hx 5 (by omega)
  obtain ⟨v10, x10⟩ := hx 10 (by omega)
  have f0 := blk_frozen h1 0
  have f1 := blk_frozen h1 1
  have f2 := blk_frozen h1 2
  have f3 := blk_frozen h1 3
  have f4 := blk_frozen h1 4
  have f5 := blk_frozen h1 5
  have f10 := blk_frozen h1 10
  have HB := Aside0.mk hBW
  have H1 := Aside0.mk h1
  have CS := Aside0.mk fun C hC w h => clearState_any g C hC w h
  clear h h1 hx hW hBW hz
  go_enter Tryd.func84, Tryd.ntmps84
  go_wp2_with fail
  have h7 := blk_set (blk_set (blk_set (blk_set (blk_set (blk_set (blk_set H1.out 0 (.slice (some ⟨w.heap.size, 0, none⟩) 0 (grownCap w 0 0 21))) 1 (.int .i64 0)) 2 (.int .i64 0)) 3 (.int .i64 1)) 4 (.int .i64 1)) 5 (.int .i64 1)) 10 (.bool true)
  refine (CS.out _ (by simp [hC]) _ h7).mono ?_
  rintro e w1 ⟨rfl, hc, b1⟩
  rw [blk_cell h7 0] at hc
  have HC := Aside0.mk hc
  have B1 := Aside0.mk b1
  clear hc b1 h7 x0 x1 x2 x3 x4 x5 x10 f0 f1 f2 f3 f4 f5 f10
  go_wp2_with fail
  go_end0
  refine ⟨rfl, ⟨some ⟨w.heap.size, 0, none⟩, grownCap w 0 0 21, ?_⟩, fun b hb => ?_⟩
  · rw [HC.out]
    simp [hC]
  · have hbw : Below b w _ := HB.out.mono (by omega)
    exact (below_sets (below_sets (below_sets (below_sets (below_sets (below_sets (below_sets hbw hb _ _) hb _ _) hb _ _) hb _ _) hb _ _) hb _ _) hb _ _).trans (B1.out b hb)

set_option maxHeartbeats 1000000 in
set_option maxRecDepth 100000 in
/-- A scanner at the beginning of the empty text, and its context. -/
theorem at_any (w : World) : Calls Tryd.prog 63 #[.string ⟨#[]⟩] w fun e w' => ∃ (p : Value) (g : Nat) (src tok : Value), e = .returned (.tuple #[p, .pointer (some ⟨g, 0, none⟩)]) ∧ w.heap.size ≤ g ∧ Ctx w' g 0 0 0 0 src (.slice none 0 0) (.slice none 0 0) tok (.pointer none) ∧ Below w.heap.size w w' := by
  have CI := Aside0.mk (init_any w.heap.size _ rfl _ (blk_new w (Obj.cells
        #[Value.slice none 0 0, Value.int IntKind.i64 0, Value.int IntKind.i64 0, Value.int IntKind.i64 0,
          Value.int IntKind.i64 0, Value.int IntKind.i64 0, Value.int IntKind.i64 0, Value.int IntKind.i64 0,
          Value.int IntKind.i64 0, Value.int IntKind.i64 0, Value.bool false, Value.bool false, Value.bool false,
          Value.bool false, Value.int IntKind.i64 0, Value.int IntKind.i64 0, Value.int IntKind.i64 0,
          Value.pointer none]
        105)))
  have CN := Aside0.mk fun A n c wx => newContext_any A n c wx
  go_enter Tryd.func63, Tryd.ntmps63
  go_wp2_with fail
  refine CI.out.mono ?_
  rintro e w1 ⟨rfl, ⟨a, c, hc⟩, b1⟩
  have B1 := Aside0.mk (((Below.refl _ w).alloc (Nat.le_refl _) _).trans (b1 _ (Nat.le_refl _)))
  clear b1 CI
  go_wp2_with fail
  refine (CN.out _ _ _ _).mono ?_
  rintro e w2 ⟨g, tok, rfl, hg, h2, b2⟩
  have B2 := Aside0.mk (B1.out.trans (b2.mono B1.out.size))
  have H2 := Aside0.mk h2
  have hgw : w.heap.size ≤ g := Nat.le_trans B1.out.size hg
  clear b2 h2 CN hc
  go_wp2_with fail
  go_ret2
  exact ⟨_, g, _, tok, rfl, hgw, H2.out, B2.out⟩
end Go.Proofs.YtmildhkegpmacaaDoor.ChompWalks
