/- Parts of the proof of FnPartLines, one behind the other: ScInit, ScCtx. Each part says ahead of itself what it proves. -/
import Derived.Test.YtgglhfbjbddjjaaDoorPkFnPartLines12

/- Scanner.Init at any text; newContext. -/
namespace Go.Proofs.YtgglhfbjbddjjaaDoor.ScInit
open Go.RowKit Go.Proofs.YtgglhfbjbddjjaaDoorW.PrintWords Go.Proofs.YtgglhfbjbddjjaaDoorW.PrintMore Go.Proofs.YtgglhfbjbddjjaaDoor.Utf Go.Proofs.YtgglhfbjbddjjaaDoor.Runes Go.Proofs.YtgglhfbjbddjjaaDoor.ScBase Go.Proofs.YtgglhfbjbddjjaaDoor.ScStep Go.Proofs.YtgglhfbjbddjjaaDoor.ScLoop
set_option linter.unusedVariables false
set_option linter.unusedSimpArgs false
attribute [local go_sem ↓] Go.wp_at_zero Go.wp_at_succ

theorem below_sets {b g : Nat} {w w1 : World} (h : Below b w w1) (hb : b ≤ g) (i : Nat) (v : Value) : Below b w (w1.setCell ⟨g, i, none⟩ v) := h.setCell hb v
set_option maxHeartbeats 1000000 in
set_option maxRecDepth 100000 in
theorem clear_any (S : Nat) (src : Value) (p : Int) (w : World) (h : SC w S src p) :
    Calls Tryd.prog 34 #[.pointer (some ⟨S, 0, none⟩)] w fun e w' => e = .returned (.tuple #[]) ∧ SC w' S src p ∧ Fr w w' (fun k => k = S) := by
  obtain ⟨sz, ln, col, off, ldc, ind, pli, lvl, b1, b2, b3, b4, y1, y2, y3, y4, hs⟩ := h
  have x6 := blk_cell hs 6
  have x7 := blk_cell hs 7
  have x8 := blk_cell hs 8
  have x9 := blk_cell hs 9
  have f6 := blk_frozen hs 6
  have f7 := blk_frozen hs 7
  have f8 := blk_frozen hs 8
  have f9 := blk_frozen hs 9
  simp only [List.getElem?_toArray, List.getElem?_cons_succ, List.getElem?_cons_zero] at x6 x7 x8 x9
  have HS := Aside0.mk hs
  clear hs
  go_enter Tryd.func34, Tryd.ntmps34
  go_wp2_with fail
  go_end0
  refine ⟨rfl, ⟨sz, ln, col, off, 0, 0, 0, 0, b1, b2, b3, b4, y1, y2, y3, y4, ?_⟩, ?_⟩
  · rw [blk_set (blk_set (blk_set (blk_set HS.out 8 _) 6 _) 9 _) 7 _]
    simp only [List.setIfInBounds_toArray, List.set_cons_zero, List.set_cons_succ]
  · exact ((((Fr.refl w (fun k => k = S)).set (p := ⟨S, 8, none⟩) rfl _).set (p := ⟨S, 6, none⟩) rfl _).set (p := ⟨S, 9, none⟩) rfl _).set (p := ⟨S, 7, none⟩) rfl _
set_option maxHeartbeats 2000000 in
set_option maxRecDepth 100000 in
theorem init_any (S : Nat) (s : ByteArray) (rs : List Int) (src : Value) (p : Int) (w : World) (h : SC w S src p) (hsc : ∀ r ∈ rs, Scalar r) (he : B s = enc rs) (hs : s.size ≤ 65536) :
    Calls Tryd.prog 26 #[.pointer (some ⟨S, 0, none⟩), .string s] w fun e w' => e = .returned (.tuple #[]) ∧ ∃ G cap0, SC w' S (sl G rs.length cap0) 0 ∧ Reads w' G rs ∧ rs.length ≤ cap0 ∧ w.heap.size ≤ G ∧ G < w'.heap.size ∧ Fr w w' (fun k => k = S) := by
  have hru := runes_of s rs hsc he
  have hl : rs.length ≤ 65536 := by have := runes_length s s.size 0; rw [hru] at this; omega
  have hrc := run_runes_of_string (P := Tryd.prog) w 9 32 21 s Tryd.underlying9 Tryd.underlying32 Tryd.underlying21 (by rw [runes_size, hru]; omega)
  rw [runes_size, hru] at hrc
  have hrn := fun C t => reads_new s w rs hru C t
  obtain ⟨W, hW⟩ : ∃ W, W = (w.drew.alloc (Obj.cells (Conv.runesFrom s s.size 0 #[] ++ Array.replicate (grownCap w rs.length 0 21 - rs.length) (Value.int IntKind.i32 0)) 21)) := ⟨_, rfl⟩
  have hRd : Reads W w.heap.size rs := by rw [hW]; exact hrn _ _
  have hBW : Below w.heap.size w W := by rw [hW]; exact (Below.refl _ w).drew.alloc (Nat.le_refl _) _
  have hWs : W.heap.size = w.heap.size + 1 := by rw [hW]; simp
  have hcp : rs.length ≤ grownCap w rs.length 0 21 := grownCap_ge _ _ _ _
  rw [← hW] at hrc
  clear hW hrn
  have hS0 := SC.lt h
  have hSW : SC W S src p := h.blk (hBW.block S hS0)
  obtain ⟨sz, ln, col, off, ldc, ind, pli, lvl, b1, b2, b3, b4, y1, y2, y3, y4, hsb⟩ := hSW
  have x0 := blk_cell hsb 0
  have x1 := blk_cell hsb 1
  have x2 := blk_cell hsb 2
  have x3 := blk_cell hsb 3
  have x4 := blk_cell hsb 4
  have x5 := blk_cell hsb 5
  have x10 := blk_cell hsb 10
  have f0 := blk_frozen hsb 0
  have f1 := blk_frozen hsb 1
  have f2 := blk_frozen hsb 2
  have f3 := blk_frozen hsb 3
  have f4 := blk_frozen hsb 4
  have f5 := blk_frozen hsb 5
  have f10 := blk_frozen hsb 10
  simp only [List.getElem?_toArray, List.getElem?_cons_succ, List.getElem?_cons_zero] at x0 x1 x2 x3 x4 x5 x10
  have HSB := Aside0.mk hsb
  have HRD := Aside0.mk hRd
  have HBW := Aside0.mk hBW
  have HCP := Aside0.mk hcp
  have HWS := Aside0.mk hWs
  have HS0 := Aside0.mk hS0
  have CS := Aside0.mk (fun (src : Value) (W : World) (h : SC W S src 0) => clear_any S src 0 W h)
  clear h hsb hRd hBW hcp hru hsc he hWs
  generalize grownCap w rs.length 0 21 = cap0 at *
  go_enter Tryd.func26, Tryd.ntmps26
  go_wp2_with fail
  refine (CS.out (sl w.heap.size rs.length cap0) _ ?sc).mono ?_
  case sc =>
    refine ⟨rs.length, 1, 1, 1, ldc, ind, pli, lvl, true, b2, b3, b4, y1, y2, y3, y4, ?_⟩
    rw [blk_set (blk_set (blk_set (blk_set (blk_set (blk_set (blk_set HSB.out 0 _) 1 _) 2 _) 3 _) 4 _) 5 _) 10 _]
    simp only [List.setIfInBounds_toArray, List.set_cons_zero, List.set_cons_succ]
    rfl
  rintro e w1 ⟨rfl, hS1, hb1⟩
  have HS1 := Aside0.mk hS1
  have HB1 := Aside0.mk hb1
  clear hS1 hb1
  go_wp2_with fail
  go_end0
  have hf : Fr W w1 (fun k => k = S) := (((((((((Fr.refl W (fun k => k = S)).set (p := ⟨S, 0, none⟩) rfl _).set (p := ⟨S, 1, none⟩) rfl _).set (p := ⟨S, 2, none⟩) rfl _).set (p := ⟨S, 3, none⟩) rfl _).set (p := ⟨S, 4, none⟩) rfl _).set (p := ⟨S, 5, none⟩) rfl _).set (p := ⟨S, 10, none⟩) rfl _)).trans HB1.out (fun y _ h => h)
  have hws := HWS.out
  have hs0 := HS0.out
  refine ⟨rfl, w.heap.size, cap0, HS1.out, reads_blk HRD.out (hf.block _ (by omega) (by omega)), HCP.out, Nat.le_refl _, by have := hf.size; omega, (Fr.of_below HBW.out _).trans hf (fun y _ h => h)⟩
end Go.Proofs.YtgglhfbjbddjjaaDoor.ScInit

/- A context of the scanner, new. -/
namespace Go.Proofs.YtgglhfbjbddjjaaDoor.ScCtx
open Go.RowKit Go.Proofs.YtgglhfbjbddjjaaDoorW.PrintWords Go.Proofs.YtgglhfbjbddjjaaDoor.Utf Go.Proofs.YtgglhfbjbddjjaaDoor.ScBase Go.Proofs.YtgglhfbjbddjjaaDoor.ScLoop
set_option linter.unusedVariables false
set_option linter.unusedSimpArgs false

/-- A context in memory. -/
def Ctx (w : World) (g : Nat) (idx size nsp nsop : Int) (src buf obuf tokens mstate : Value) : Prop :=
  w.heap[g]? = some (.cells #[.int .i64 idx, .int .i64 size, .int .i64 nsp, .int .i64 nsop, src, buf, obuf, tokens, mstate] 86 (0, 0))

theorem below_sets {b g : Nat} {w w1 : World} (h : Below b w w1) (hb : b ≤ g) (i : Nat) (v : Value) : Below b w (w1.setCell ⟨g, i, none⟩ v) := h.setCell hb v

set_option maxHeartbeats 1000000 in
set_option maxRecDepth 100000 in
theorem resetBuffer_any (g : Nat) (idx size nsp nsop : Int) (src tokens mstate : Value) (w : World) (h : Ctx w g idx size nsp nsop src (.slice none 0 0) (.slice none 0 0) tokens mstate) :
    Calls Tryd.prog 51 #[.pointer (some ⟨g, 0, none⟩)] w fun e w' => e = .returned (.tuple #[]) ∧ Ctx w' g idx size 0 0 src (.slice none 0 0) (.slice none 0 0) tokens mstate ∧ ∀ b, b ≤ g → Below b w w' := by
  have H := Aside0.mk h
  have x2 := blk_cell h 2
  have x3 := blk_cell h 3
  have x5 := blk_cell h 5
  have x6 := blk_cell h 6
  have f2 := blk_frozen h 2
  have f3 := blk_frozen h 3
  have f5 := blk_frozen h 5
  have f6 := blk_frozen h 6
  simp only [List.getElem?_toArray, List.getElem?_cons_succ, List.getElem?_cons_zero] at x2 x3 x5 x6
  clear h
  go_enter Tryd.func51, Tryd.ntmps51
  go_wp2_with fail
  go_end0
  refine ⟨rfl, ?_, fun b hb => ?_⟩
  · have h := blk_set (blk_set (blk_set (blk_set H.out 5 (.slice none 0 0)) 6 (.slice none 0 0)) 2 (.int .i64 0)) 3 (.int .i64 0)
    unfold Ctx
    rw [h]
    rfl
  · exact below_sets (below_sets (below_sets (below_sets (Below.refl _ _) hb _ _) hb _ _) hb _ _) hb _ _

set_option maxHeartbeats 1000000 in
set_option maxRecDepth 100000 in
theorem reset_any (g : Nat) (idx size nsp nsop : Int) (src mstate : Value) (t : Addr) (A : Option Addr) (n c : Nat) (w : World) (h : Ctx w g idx size nsp nsop src (.slice none 0 0) (.slice none 0 0) (.slice (some t) 0 0) mstate) :
    Calls Tryd.prog 47 #[.pointer (some ⟨g, 0, none⟩), .slice A n c] w fun e w' => e = .returned (.tuple #[]) ∧ (∃ tok, Ctx w' g 0 n 0 0 (.slice A n c) (.slice none 0 0) (.slice none 0 0) tok (.pointer none)) ∧ ∀ b, b ≤ g → Below b w w' := by
  have H := Aside0.mk h
  have x0 := blk_cell h 0
  have x1 := blk_cell h 1
  have x4 := blk_cell h 4
  have x7 := blk_cell h 7
  have f0 := blk_frozen h 0
  have f1 := blk_frozen h 1
  have f4 := blk_frozen h 4
  have f7 := blk_frozen h 7
  simp only [List.getElem?_toArray, List.getElem?_cons_succ, List.getElem?_cons_zero] at x0 x1 x4 x7
  have RB := Aside0.mk fun w1 src tokens (h1 : Ctx w1 g 0 n nsp nsop src (.slice none 0 0) (.slice none 0 0) tokens mstate) => resetBuffer_any g 0 n nsp nsop src tokens mstate w1 h1
  clear h
  go_enter Tryd.func47, Tryd.ntmps47
  go_wp2_with fail
  refine (RB.out _ (.slice A n c) ?tk ?hc).mono ?_
  case hc =>
    have h := blk_set (blk_set (blk_set (blk_set H.out 0 (.int .i64 0)) 1 (.int .i64 n)) 4 (.slice A n c)) 7 (.slice (some t) 0 0)
    unfold Ctx
    rw [h]
    rfl
  rintro e w1 ⟨rfl, h1, b1⟩
  have H1 := Aside0.mk h1
  have B1 := Aside0.mk b1
  have x8 := blk_cell h1 8
  have f8 := blk_frozen h1 8
  simp only [List.getElem?_toArray, List.getElem?_cons_succ, List.getElem?_cons_zero] at x8
  clear h1 b1 x0 x1 x4 x7 f0 f1 f4 f7 RB
  go_wp2_with fail
  go_end0
  refine ⟨rfl, ⟨.slice (some t) 0 0, ?_⟩, fun b hb => ?_⟩
  · have h := blk_set H1.out 8 (.pointer none)
    unfold Ctx
    rw [h]
    rfl
  · exact below_sets ((below_sets (below_sets (below_sets (below_sets (Below.refl _ _) hb _ _) hb _ _) hb _ _) hb _ _).trans (B1.out b hb)) hb _ _

set_option maxHeartbeats 1000000 in
set_option maxRecDepth 100000 in
theorem create_any (w : World) : Calls Tryd.prog 46 #[] w fun e w' => ∃ g t, e = .returned (.pointer (some ⟨g, 0, none⟩)) ∧ w.heap.size ≤ g ∧ Ctx w' g 0 0 0 0 (.slice none 0 0) (.slice none 0 0) (.slice none 0 0) (.slice (some t) 0 0) (.pointer none) ∧ Below w.heap.size w w' := by
  go_enter Tryd.func46, Tryd.ntmps46
  go_wp2_with fail
  go_ret
  refine ⟨_, ⟨w.heap.size, 0, none⟩, rfl, by omega, ?_, ((Below.refl _ w).alloc (Nat.le_refl _) _).alloc ?_ _⟩
  · have := blk_new (w.alloc (Obj.cells #[] 45)) (Obj.cells #[Value.int IntKind.i64 0, Value.int IntKind.i64 0, Value.int IntKind.i64 0, Value.int IntKind.i64 0,
          Value.slice none 0 0, Value.slice none 0 0, Value.slice none 0 0,
          Value.slice (some { block := w.heap.size, off := 0 }) 0 0, Value.pointer none] 86)
    unfold Ctx
    rw [← this]
    simp
  · simp

set_option maxHeartbeats 1000000 in
set_option maxRecDepth 100000 in
theorem newContext_any (A : Option Addr) (n c : Nat) (w : World) : Calls Tryd.prog 29 #[.slice A n c] w fun e w' => ∃ g tok, e = .returned (.pointer (some ⟨g, 0, none⟩)) ∧ w.heap.size ≤ g ∧ Ctx w' g 0 n 0 0 (.slice A n c) (.slice none 0 0) (.slice none 0 0) tok (.pointer none) ∧ Below w.heap.size w w' := by
  have CR := Aside0.mk fun wx => create_any wx
  go_enter Tryd.func29, Tryd.ntmps29
  go_wp2_with fail
  refine (CR.out _).mono ?_
  rintro e w1 ⟨g, t, rfl, hg, h1, b1⟩
  have B1 := Aside0.mk b1
  have RS := Aside0.mk (reset_any g 0 0 0 0 _ _ t A n c w1 h1)
  clear b1 h1 CR
  go_wp2_with fail
  refine RS.out.mono ?_
  rintro e w2 ⟨rfl, ⟨tok, h2⟩, b2⟩
  have B2 := Aside0.mk (B1.out.trans (b2 _ hg))
  have H2 := Aside0.mk h2
  clear b2 h2 RS
  go_wp2_with fail
  go_ret
  exact ⟨g, tok, rfl, hg, H2.out, B2.out⟩
theorem ctx_cx {w : World} {C : Nat} {n : Int} {src tok ms : Value} (h : Ctx w C 0 n 0 0 src (.slice none 0 0) (.slice none 0 0) tok ms) : CX w C 0 src (.slice none 0 0) := ⟨n, 0, 0, _, _, _, h⟩
theorem new_any (G n c : Nat) (w : World) : Calls Tryd.prog 29 #[sl G n c] w fun e w' => ∃ C, e = .returned (.pointer (some ⟨C, 0, none⟩)) ∧ w.heap.size ≤ C ∧ CX w' C 0 (sl G n c) (.slice none 0 0) ∧ Below w.heap.size w w' :=
  (newContext_any (some ⟨G, 0, none⟩) n c w).mono fun e w' hh => by
    obtain ⟨g, tok, h1, h2, h3, h4⟩ := hh
    exact ⟨g, h1, h2, ctx_cx h3, h4⟩
end Go.Proofs.YtgglhfbjbddjjaaDoor.ScCtx
