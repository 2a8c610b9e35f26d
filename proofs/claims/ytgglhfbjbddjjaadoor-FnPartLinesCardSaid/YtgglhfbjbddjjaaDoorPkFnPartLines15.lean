/- Parts of the proof of FnPartLines, one behind the other: ScDoor, ScList, ScQuot. Each part says ahead of itself what it proves. -/
import Derived.Test.YtgglhfbjbddjjaaDoorPkFnPartLines13
import Derived.Test.YtgglhfbjbddjjaaDoorPkFnPartLines14
import Derived.Test.YtgglhfbjbddjjaaDoorPkFnPartLines12

/- ZzQuoted: the door to the scanners of quoted text. -/
namespace Go.Proofs.YtgglhfbjbddjjaaDoor.ScDoor
open Go.RowKit Go.Proofs.YtgglhfbjbddjjaaDoorW.PrintWords Go.Proofs.YtgglhfbjbddjjaaDoor.Utf Go.Proofs.YtgglhfbjbddjjaaDoor.Runes Go.Proofs.YtgglhfbjbddjjaaDoor.ScBase Go.Proofs.YtgglhfbjbddjjaaDoor.ScStep Go.Proofs.YtgglhfbjbddjjaaDoor.ScHex Go.Proofs.YtgglhfbjbddjjaaDoor.ScLoop Go.Proofs.YtgglhfbjbddjjaaDoor.ScInit Go.Proofs.YtgglhfbjbddjjaaDoor.ScCtx Go.Proofs.YtgglhfbjbddjjaaDoor.ScSingle
set_option linter.unusedVariables false
set_option linter.unusedSimpArgs false
attribute [local go_sem ↓] Go.wp_at_zero Go.wp_at_succ

/-- The scanner's contract, for one of the two (function F). -/
def ScanC (F : Nat) (ty : Int) (L R : List Int) (w0 : World) : Prop := ∀ (w : World) (S C G cap0 : Nat), Below w0.heap.size w0 w → w0.heap.size ≤ S → w0.heap.size ≤ C → Pl w S C G → SC w S (sl G L.length cap0) 0 → CX w C 0 (sl G L.length cap0) (.slice none 0 0) → Reads w G L → L.length ≤ cap0 →
  Calls Tryd.prog F #[.pointer (some ⟨S, 0, none⟩), .pointer (some ⟨C, 0, none⟩)] w (ScP w S C G cap0 L ty R)
/-- The answer: a token with the value, and how many runes were passed. -/
def ZzP (w : World) (L : List Int) (ty : Int) (R : List Int) (e : Ending) (w' : World) : Prop :=
  ∃ (t q : Nat) (o : ByteArray), e = .returned (.tuple #[.pointer (some ⟨t, 0, none⟩), .int .i64 ((L.length - 1 : Nat) : Int), .nilIface]) ∧ TokB w' t ty (ba (enc R)) o q ∧ PosB w' q ∧ Below w.heap.size w w'
set_option maxHeartbeats 2000000 in
set_option maxRecDepth 100000 in
theorem zz_any (single : Bool) (F : Nat) (hF : F = if single then 28 else 27) (ty : Int) (L R : List Int) (s : ByteArray) (w : World) (hsc : ∀ r ∈ L, Scalar r) (he : B s = enc L) (hs : s.size ≤ 65536) (hC : ScanC F ty L R w) :
    Calls Tryd.prog 18 #[.string s, .bool single] w (ZzP w L ty R) := by
  have CI := Aside0.mk (fun (S : Nat) (src : Value) (p : Int) (W : World) (h : SC W S src p) => init_any S s L src p W h hsc he hs)
  have CN := Aside0.mk (fun (G n c : Nat) (W : World) => new_any G n c W)
  have HC := Aside0.mk hC
  clear hsc he hC
  cases single with
  | true =>
    simp only [if_true] at hF
    subst hF
    go_enter Tryd.func18, Tryd.ntmps18
    go_wp2_with fail
    generalize hW0 : w.alloc _ = w0
    have hS0 : SC w0 w.heap.size (.slice none 0 0) 0 := by rw [← hW0]; exact ⟨0, 0, 0, 0, 0, 0, 0, 0, false, false, false, false, .int .i64 0, .int .i64 0, .int .i64 0, .pointer none, blk_new w _⟩
    have hB0 : Below w.heap.size w w0 := by rw [← hW0]; exact (Below.refl _ w).alloc (Nat.le_refl _) _
    have hz0 : w0.heap.size = w.heap.size + 1 := by rw [← hW0]; simp
    clear hW0
    refine (CI.out w.heap.size _ 0 w0 hS0).mono ?_
    rintro e w1 ⟨rfl, G, cap0, hS1, hR1, hc1, hG, hGlt, hF1⟩
    have hB1 : Below w.heap.size w w1 := hB0.trans ⟨hF1.os, hF1.tape, hF1.output, hF1.size, fun k hk => hF1.block k (by omega) (by omega)⟩
    obtain ⟨sz, ln, col, off, ldc, ind, pli, lvl, b1, b2, b3, b4, y1, y2, y3, y4, hsb⟩ := hS1
    have x0 := blk_cell hsb 0
    simp only [List.getElem?_toArray, List.getElem?_cons_zero] at x0
    have HSB := Aside0.mk (show SC w1 w.heap.size (sl G L.length cap0) 0 from ⟨sz, ln, col, off, ldc, ind, pli, lvl, b1, b2, b3, b4, y1, y2, y3, y4, hsb⟩)
    have hls : w.heap.size < w1.heap.size := blk_lt hsb
    have CN1 := Aside0.mk (CN.out G L.length cap0 w1)
    have HR1 := Aside0.mk hR1
    have HB1 := Aside0.mk hB1
    clear hS0 hB0 hF1 hsb CI CN hR1 hB1
    go_wp2_with fail
    refine CN1.out.mono ?_
    rintro e w2 ⟨C, rfl, hC1, hCX, hB2⟩
    have CS := Aside0.mk (HC.out w2 w.heap.size C G cap0 (below_then HB1.out HB1.out.size hB2) (Nat.le_refl _) (by omega) ⟨by have := hB2.size; omega, CX.lt hCX, by have := hB2.size; omega, by omega, by omega, by omega⟩ (HSB.out.blk (hB2.block _ hls)) hCX (HR1.out.below hB2) hc1)
    have HB2 := Aside0.mk (below_then HB1.out HB1.out.size hB2)
    clear hCX hB2
    go_wp2_with fail
    refine CS.out.mono ?_
    rintro e w3 ⟨t, q, o, rfl, ht, hq, _, _, hS3, hF3⟩
    obtain ⟨sz, ln, col, off, ldc, ind, pli, lvl, b1, b2, b3, b4, y1, y2, y3, y4, hsb⟩ := hS3
    have x1 := blk_cell hsb 1
    simp only [List.getElem?_toArray, List.getElem?_cons_succ, List.getElem?_cons_zero] at x1
    have H3 := Aside0.mk (And.intro ht (And.intro hq hF3))
    clear ht hq hF3 hsb x0
    go_wp2_with fail
    go_quiet (fail)
    go_wp2_with fail
    go_ret3
    obtain ⟨ht, hq, hF3⟩ := H3.out
    exact ⟨t, q, o, rfl, ht, hq, pw_below_drewN (HB2.out.trans (hF3.below HB2.out.size (fun k hk hx => by rcases hx with hx | hx <;> omega))) _⟩
  | false =>
    simp only [Bool.false_eq_true, if_false] at hF
    subst hF
    go_enter Tryd.func18, Tryd.ntmps18
    go_wp2_with fail
    generalize hW0 : w.alloc _ = w0
    have hS0 : SC w0 w.heap.size (.slice none 0 0) 0 := by rw [← hW0]; exact ⟨0, 0, 0, 0, 0, 0, 0, 0, false, false, false, false, .int .i64 0, .int .i64 0, .int .i64 0, .pointer none, blk_new w _⟩
    have hB0 : Below w.heap.size w w0 := by rw [← hW0]; exact (Below.refl _ w).alloc (Nat.le_refl _) _
    have hz0 : w0.heap.size = w.heap.size + 1 := by rw [← hW0]; simp
    clear hW0
    refine (CI.out w.heap.size _ 0 w0 hS0).mono ?_
    rintro e w1 ⟨rfl, G, cap0, hS1, hR1, hc1, hG, hGlt, hF1⟩
    have hB1 : Below w.heap.size w w1 := hB0.trans ⟨hF1.os, hF1.tape, hF1.output, hF1.size, fun k hk => hF1.block k (by omega) (by omega)⟩
    obtain ⟨sz, ln, col, off, ldc, ind, pli, lvl, b1, b2, b3, b4, y1, y2, y3, y4, hsb⟩ := hS1
    have x0 := blk_cell hsb 0
    simp only [List.getElem?_toArray, List.getElem?_cons_zero] at x0
    have HSB := Aside0.mk (show SC w1 w.heap.size (sl G L.length cap0) 0 from ⟨sz, ln, col, off, ldc, ind, pli, lvl, b1, b2, b3, b4, y1, y2, y3, y4, hsb⟩)
    have hls : w.heap.size < w1.heap.size := blk_lt hsb
    have CN1 := Aside0.mk (CN.out G L.length cap0 w1)
    have HR1 := Aside0.mk hR1
    have HB1 := Aside0.mk hB1
    clear hS0 hB0 hF1 hsb CI CN hR1 hB1
    go_wp2_with fail
    refine CN1.out.mono ?_
    rintro e w2 ⟨C, rfl, hC1, hCX, hB2⟩
    have CS := Aside0.mk (HC.out w2 w.heap.size C G cap0 (below_then HB1.out HB1.out.size hB2) (Nat.le_refl _) (by omega) ⟨by have := hB2.size; omega, CX.lt hCX, by have := hB2.size; omega, by omega, by omega, by omega⟩ (HSB.out.blk (hB2.block _ hls)) hCX (HR1.out.below hB2) hc1)
    have HB2 := Aside0.mk (below_then HB1.out HB1.out.size hB2)
    clear hCX hB2
    go_wp2_with fail
    refine CS.out.mono ?_
    rintro e w3 ⟨t, q, o, rfl, ht, hq, _, _, hS3, hF3⟩
    obtain ⟨sz, ln, col, off, ldc, ind, pli, lvl, b1, b2, b3, b4, y1, y2, y3, y4, hsb⟩ := hS3
    have x1 := blk_cell hsb 1
    simp only [List.getElem?_toArray, List.getElem?_cons_succ, List.getElem?_cons_zero] at x1
    have H3 := Aside0.mk (And.intro ht (And.intro hq hF3))
    clear ht hq hF3 hsb x0
    go_wp2_with fail
    go_quiet (fail)
    go_wp2_with fail
    go_ret3
    obtain ⟨ht, hq, hF3⟩ := H3.out
    exact ⟨t, q, o, rfl, ht, hq, pw_below_drewN (HB2.out.trans (hF3.below HB2.out.size (fun k hk hx => by rcases hx with hx | hx <;> omega))) _⟩
end Go.Proofs.YtgglhfbjbddjjaaDoor.ScDoor

/- Tokens: a token's place and a list of one token as data; Make. -/
namespace Go.Proofs.YtgglhfbjbddjjaaDoor.ScList
open Go.RowKit Go.Proofs.YtgglhfbjbddjjaaDoorW.PrintWords Go.Proofs.YtgglhfbjbddjjaaDoor.Utf Go.Proofs.YtgglhfbjbddjjaaDoor.ScBase Go.Proofs.YtgglhfbjbddjjaaDoor.ScHex Go.Proofs.YtgglhfbjbddjjaaDoor.ScLoop
set_option linter.unusedVariables false
set_option linter.unusedSimpArgs false
attribute [local go_sem ↓] Go.wp_at_zero Go.wp_at_succ

def Pos (w : World) (q : Nat) (line col off ind lvl : Int) : Prop := w.heap[q]? = some (.cells #[.int .i64 line, .int .i64 col, .int .i64 off, .int .i64 ind, .int .i64 lvl] 97 (0, 0))
def TokAt (w : World) (t q : Nat) (ty ch sg : Int) (v o : ByteArray) : Prop := w.heap[t]? = some (.cells #[.int .i64 ty, .int .i64 ch, .int .i64 sg, .string v, .string o, .string ⟨#[]⟩, .pointer (some ⟨q, 0, none⟩), .pointer none, .pointer none] 71 (0, 0))
set_option maxRecDepth 100000 in
theorem index_nil (s a : Value) (w : World) : Calls Tryd.prog 31 #[s, .pointer none, a] w fun e w' => e = .returned (.int .i64 (-1)) ∧ w = w' := by
  go_enter Tryd.func31, Tryd.ntmps31
  go_wp2
  go_ret
  exact ⟨rfl, rfl⟩def Placed (line col off ind lvl : Int) (w : World) (e : Ending) (w' : World) : Prop := e = .returned (.agg #[.int .i64 line, .int .i64 col, .int .i64 off, .int .i64 ind, .int .i64 lvl]) ∧ Below w.heap.size w w'

set_option maxHeartbeats 4000000 in
set_option maxRecDepth 100000 in
theorem place_any (t q : Nat) (line col off ind lvl : Int) (w : World) (ht : w.cell? ⟨t, 6, none⟩ = some (.pointer (some ⟨q, 0, none⟩))) (hq : Pos w q line col off ind lvl) :
    Calls Tryd.prog 30 #[.pointer (some ⟨t, 0, none⟩)] w (Placed line col off ind lvl w) := by
  have lt := World.block_lt_of_cell? w _ ht
  have lq := blk_lt hq
  have x0 := fun o => blk_cell (blk_alloc hq o) 0
  have x1 := fun o => blk_cell (blk_alloc hq o) 1
  have x2 := fun o => blk_cell (blk_alloc hq o) 2
  have x3 := fun o => blk_cell (blk_alloc hq o) 3
  have x4 := fun o => blk_cell (blk_alloc hq o) 4
  simp only [List.getElem?_toArray, List.getElem?_cons_succ, List.getElem?_cons_zero] at x0 x1 x2 x3 x4
  have ht' := fun o => pw_cell_below ((Below.refl _ w).alloc (Nat.le_refl _) o) ht
  clear ht hq
  go_enter Tryd.func30, Tryd.ntmps30
  go_wp2_with fail
  go_region_held3 (fun w' => w'.cell? ⟨q, 0, none⟩ = some (.int .i64 line) ∧ w'.cell? ⟨q, 1, none⟩ = some (.int .i64 col) ∧ w'.cell? ⟨q, 2, none⟩ = some (.int .i64 off) ∧
      w'.cell? ⟨q, 3, none⟩ = some (.int .i64 ind) ∧ w'.cell? ⟨q, 4, none⟩ = some (.int .i64 lvl)) (go_keep) (fail)
  all_goals
    go_wp2
    exact bodyPost_ret (v := .agg #[.int .i64 line, .int .i64 col, .int .i64 off, .int .i64 ind, .int .i64 lvl]) (by simp [results, Tryd.results30, go_sem]) rfl ⟨rfl, ((Below.refl _ w).alloc (Nat.le_refl _) _).drew⟩

theorem info25 : (Tryd.prog.info? 29).map (fun i => (i.zero, i.size, i.bytes)) = some (some (.agg #[.int .i64 0, .int .i64 0, .int .i64 0, .string ⟨#[]⟩, .string ⟨#[]⟩, .string ⟨#[]⟩, .int .i64 0, .int .i64 0, .int .i64 0, .int .i64 0, .int .i64 0, .int .i64 0, .int .i64 0]), 13, 128) := by kernel_rfl

/-- A token as data. -/
def tokCells (ty ch sg : Int) (v o : ByteArray) (line col off ind lvl prev next : Int) : List Value :=
  [.int .i64 ty, .int .i64 ch, .int .i64 sg, .string v, .string o, .string ⟨#[]⟩, .int .i64 line, .int .i64 col, .int .i64 off, .int .i64 ind, .int .i64 lvl, .int .i64 prev, .int .i64 next]

def Listed (ty ch sg : Int) (v o : ByteArray) (line col off ind lvl : Int) (w : World) (e : Ending) (w' : World) : Prop := ∃ g cap, e = .returned (.slice (some ⟨g, 0, none⟩) 1 cap) ∧
  w'.ownsRow w.heap.size 29 13 (.slice (some ⟨g, 0, none⟩) 1 cap) 1 (tokCells ty ch sg v o line col off ind lvl (-1) (-1)) ∧ Below w.heap.size w w'

set_option maxHeartbeats 8000000 in
set_option maxRecDepth 100000 in
theorem list_one (b c t q : Nat) (ty ch sg : Int) (v o : ByteArray) (line col off ind lvl : Int) (w : World) (hb : w.cell? ⟨b, 0, none⟩ = some (.pointer (some ⟨t, 0, none⟩))) (ht : TokAt w t q ty ch sg v o) (hq : Pos w q line col off ind lvl) :
    Calls Tryd.prog 19 #[.slice (some ⟨b, 0, none⟩) 1 c] w (Listed ty ch sg v o line col off ind lvl w) := by
  obtain ⟨i0, hi, hz0, hz1, hz2⟩ := info_parts info25
  have HT := Aside0.mk ht
  have HQ := Aside0.mk hq
  have HX := Aside0.mk hb
  have x0 := blk_cell ht 0
  have x1 := blk_cell ht 1
  have x2 := blk_cell ht 2
  have x3 := blk_cell ht 3
  have x4 := blk_cell ht 4
  have x5 := blk_cell ht 5
  have x6 := blk_cell ht 6
  have x7 := blk_cell ht 7
  have x8 := blk_cell ht 8
  simp only [List.getElem?_toArray, List.getElem?_cons_succ, List.getElem?_cons_zero] at x0 x1 x2 x3 x4 x5 x6 x7 x8
  have lt := blk_lt ht
  have CP := Aside0.mk fun W (hW : Below w.heap.size w W) => place_any t q line col off ind lvl W (pw_cell_below hW x6) (blk_below hq hW)
  have HO : Aside0 (w.ownsRow w.heap.size 29 13 (.slice none 0 0) 0 []) := ⟨⟨rfl, .inl ⟨rfl, rfl⟩⟩⟩
  clear ht hq
  go_enter Tryd.func19, Tryd.ntmps19
  go_wp2_with fail
  go_loopw [3, 8] (fun out si wr => (si = .int .i64 0 ∧ out = .slice none 0 0 ∧ wr = w) ∨ (si = .int .i64 1 ∧ ∃ g cap, out = .slice (some ⟨g, 0, none⟩) 1 cap ∧
      wr.ownsRow w.heap.size 29 13 (.slice (some ⟨g, 0, none⟩) 1 cap) 1 (tokCells ty ch sg v o line col off ind lvl (-1) (-1)) ∧ Below w.heap.size w wr)) (fun _ si _ => 1 - (intOf si).toNat)
  case atStart => exact .inl ⟨rfl, rfl, rfl⟩
  case round =>
    rcases hrel with ⟨rfl, rfl, rfl⟩ | ⟨rfl, g, cap, rfl, hown, hbel⟩
    · go_wp2_with fail
      go_region_held3 (fun w' => w'.cell? ⟨t, 0, none⟩ = some (.int .i64 ty) ∧ w'.cell? ⟨t, 1, none⟩ = some (.int .i64 ch) ∧ w'.cell? ⟨t, 2, none⟩ = some (.int .i64 sg) ∧ w'.cell? ⟨t, 3, none⟩ = some (.string v) ∧ w'.cell? ⟨t, 4, none⟩ = some (.string o) ∧ w'.cell? ⟨t, 5, none⟩ = some (.string ⟨#[]⟩) ∧ w'.cell? ⟨t, 6, none⟩ = some (.pointer (some ⟨q, 0, none⟩)) ∧ w'.cell? ⟨t, 7, none⟩ = some (.pointer none) ∧ w'.cell? ⟨t, 8, none⟩ = some (.pointer none))
        (first
          | go_keep
          | (go_split_ands
             refine ⟨?_, ?_, ?_, ?_, ?_, ?_, ?_, ?_, ?_⟩ <;> (rw [hgrow.cell_far _ (by simp; omega) (by simp [Value.ownBlock])]; simp [*])))
        (first
          | ((go_at_call 30; refine (CP.out _ (by first | exact Below.refl _ _ | exact (Below.refl _ _).drew)).mono ?_; rintro e wp ⟨rfl, hpb⟩; have z0 := pw_cell_below hpb x0; have z1 := pw_cell_below hpb x1; have z2 := pw_cell_below hpb x2; have z3 := pw_cell_below hpb x3; have z4 := pw_cell_below hpb x4; have z5 := pw_cell_below hpb x5; have z6 := pw_cell_below hpb x6; have z7 := pw_cell_below hpb x7; have z8 := pw_cell_below hpb x8; have n0 := World.new_ne wp _ z0; have lz := World.block_lt_of_cell? wp _ z0))
          | ((go_at_call 31; refine (index_nil _ _ _).mono ?_; rintro e w' ⟨rfl, rfl⟩))
          | ((refine step_append_lies _ (by rfl) _ _ _ (by rfl) wr.heap.size 29 i0 _ 13 128 Tryd.underlying50 hi hz0 hz1 hz2 rfl (by omega) (.slice none 0 0) 0 [] (by rfl) ⟨rfl, .inl ⟨rfl, rfl⟩⟩ ⟨wp.heap.size, 0, none⟩ 1 1 (tokCells ty ch sg v o line col off ind lvl (-1) (-1)) (by rfl) (by rfl) (World.news_of_block (cs := (tokCells ty ch sg v o line col off ind lvl (-1) (-1)).toArray) (t := 29) (fr := (0, 0)) (heap_alloc_new wp _)) (by simp [tokCells, Value.oneCell']) (by omega) (by unfold maxLen; omega) (by omega) (by have := hpb.size; simp at this ⊢; omega) (wp.heap.size + 1) (by simp) ?_; intro g cap w1 hown1 hgrow hat hlt)))
      all_goals
        have HW := Aside0.mk hown1
        have HG := Aside0.mk hgrow
        have HP := Aside0.mk hpb
        clear hown1 hgrow hpb
        go_wp2
        go_roundw
        case rel => exact .inr ⟨rfl, g, cap, rfl, by simpa using HW.out, ((Below.refl wr.heap.size wr).drew).trans ((HP.out.alloc HP.out.size _).grown HG.out (by have := HP.out.size; simp at this ⊢; omega) (fun k h => by cases h))⟩
        case measure => simp [intOf]
    · have HOWN := Aside0.mk hown
      have HB := Aside0.mk hbel
      clear hown hbel
      go_wp2
      go_ret
      exact ⟨g, cap, rfl, HOWN.out, HB.out⟩

end Go.Proofs.YtgglhfbjbddjjaaDoor.ScList

/- impl.ScanQuoted, over ZzQuoted's contract. -/
namespace Go.Proofs.YtgglhfbjbddjjaaDoor.ScQuot
open Go.RowKit Go.Proofs.YtgglhfbjbddjjaaDoorW.PrintWords Go.Proofs.YtgglhfbjbddjjaaDoor.Utf Go.Proofs.YtgglhfbjbddjjaaDoor.ScBase Go.Proofs.YtgglhfbjbddjjaaDoor.ScHex Go.Proofs.YtgglhfbjbddjjaaDoor.ScLoop Go.Proofs.YtgglhfbjbddjjaaDoor.ScList Go.Proofs.YtgglhfbjbddjjaaDoor.ScDoor
set_option linter.unusedVariables false
set_option linter.unusedSimpArgs false
attribute [local go_sem ↓] Go.wp_at_zero Go.wp_at_succ

/-- A token as data, as a value. -/
def tokV (ty : Int) (v o : ByteArray) (a b c d f : Int) : Value := .agg #[.int .i64 ty, .int .i64 0, .int .i64 6, .string v, .string o, .string ⟨#[]⟩, .int .i64 a, .int .i64 b, .int .i64 c, .int .i64 d, .int .i64 f, .int .i64 (-1), .int .i64 (-1)]
def QuP (w : World) (L : List Int) (ty : Int) (R : List Int) (e : Ending) (w' : World) : Prop :=
  ∃ (o : ByteArray) (a b c d f : Int), e = .returned (.tuple #[tokV ty (ba (enc R)) o a b c d f, .int .i64 ((L.length - 1 : Nat) : Int), .bool true]) ∧ Below w.heap.size w w'
set_option maxHeartbeats 2000000 in
set_option maxRecDepth 100000 in
theorem quoted_any (single : Bool) (ty : Int) (L R : List Int) (s : ByteArray) (w : World) (hZ : ∀ W, Below w.heap.size w W → Calls Tryd.prog 18 #[.string s, .bool single] W (ZzP W L ty R)) :
    Calls Tryd.prog 10 #[.string s, .bool single] w (QuP w L ty R) := by
  have HZ := Aside0.mk hZ
  clear hZ
  go_enter Tryd.func10, Tryd.ntmps10
  go_wp2_with fail
  generalize hW0 : w.alloc _ = w0
  have hB0 : Below w.heap.size w w0 := by rw [← hW0]; exact (Below.refl _ w).alloc (Nat.le_refl _) _
  have hz0 := (show w0.heap[w.heap.size]? = some _ by rw [← hW0]; exact blk_new w _)
  refine (HZ.out w0 hB0).mono ?_
  rintro e w1 ⟨t, q, o, rfl, ht, ⟨a, b, c, d, f, hq⟩, hB1⟩
  have H1 := Aside0.mk (And.intro ht (And.intro hq hB1))
  clear ht hq hB1
  go_wp2_with fail
  obtain ⟨ht, hq, hB1⟩ := H1.out
  refine (list_one w1.heap.size 1 t q ty 0 6 (ba (enc R)) o a b c d f _ (by rw [blk_cell (blk_new w1 _) 0]; rfl) (blk_alloc ht _) (blk_alloc hq _)).mono ?_
  rintro e w2 ⟨g, cap, rfl, hown, hB2⟩
  have hB3 : Below w0.heap.size w0 w2 := (hB1.alloc hB1.size _).trans (hB2.mono (by have := hB1.size; simp; omega))
  have hz2 := blk_below hz0 hB3
  have hcl : ∀ j, j < 13 → w2.cell? ⟨g, j, none⟩ = (tokCells ty 0 6 (ba (enc R)) o a b c d f (-1) (-1))[j]? := fun j hj => World.ownsRow.cellAt hown j (by omega)
  have c0 := hcl 0 (by omega)
  have c1 := hcl 1 (by omega)
  have c2 := hcl 2 (by omega)
  have c3 := hcl 3 (by omega)
  have c4 := hcl 4 (by omega)
  have c5 := hcl 5 (by omega)
  have c6 := hcl 6 (by omega)
  have c7 := hcl 7 (by omega)
  have c8 := hcl 8 (by omega)
  have c9 := hcl 9 (by omega)
  have c10 := hcl 10 (by omega)
  have c11 := hcl 11 (by omega)
  have c12 := hcl 12 (by omega)
  simp only [tokCells, List.getElem?_cons_succ, List.getElem?_cons_zero] at c0 c1 c2 c3 c4 c5 c6 c7 c8 c9 c10 c11 c12
  have HB3 := Aside0.mk hB3
  have HB0 := Aside0.mk hB0
  have HZ2 := Aside0.mk hz2
  have f0 := blk_frozen hz2 0
  have f1 := blk_frozen hz2 1
  have f2 := blk_frozen hz2 2
  have f3 := blk_frozen hz2 3
  have f4 := blk_frozen hz2 4
  have f5 := blk_frozen hz2 5
  have f6 := blk_frozen hz2 6
  have f7 := blk_frozen hz2 7
  have f8 := blk_frozen hz2 8
  have f9 := blk_frozen hz2 9
  have f10 := blk_frozen hz2 10
  have f11 := blk_frozen hz2 11
  have f12 := blk_frozen hz2 12
  have z0 := blk_cell hz2 0
  have z1 := blk_cell hz2 1
  have z2 := blk_cell hz2 2
  have z3 := blk_cell hz2 3
  have z4 := blk_cell hz2 4
  have z5 := blk_cell hz2 5
  have z6 := blk_cell hz2 6
  have z7 := blk_cell hz2 7
  have z8 := blk_cell hz2 8
  have z9 := blk_cell hz2 9
  have z10 := blk_cell hz2 10
  have z11 := blk_cell hz2 11
  have z12 := blk_cell hz2 12
  simp only [List.getElem?_toArray, List.getElem?_cons_succ, List.getElem?_cons_zero] at z0 z1 z2 z3 z4 z5 z6 z7 z8 z9 z10 z11 z12
  clear hown hB2 hB3 hz2 hcl ht hq hB1 H1 hz0 hB0 hW0
  go_wp2_with fail
  have hblk := blk_set (blk_set (blk_set (blk_set (blk_set (blk_set (blk_set (blk_set (blk_set (blk_set (blk_set (blk_set (blk_set HZ2.out 0 (.int .i64 ty)) 1 (.int .i64 0)) 2 (.int .i64 6)) 3 (.string (ba (enc R)))) 4 (.string o)) 5 (.string ⟨#[]⟩)) 6 (.int .i64 a)) 7 (.int .i64 b)) 8 (.int .i64 c)) 9 (.int .i64 d)) 10 (.int .i64 f)) 11 (.int .i64 (-1))) 12 (.int .i64 (-1))
  simp only [List.setIfInBounds_toArray, List.set_cons_zero, List.set_cons_succ] at hblk
  have hbel := (((((((((((((below_then HB0.out HB0.out.size HB3.out).setCell (p := ⟨w.heap.size, 0, none⟩) (Nat.le_refl _) (.int .i64 ty)).setCell (p := ⟨w.heap.size, 1, none⟩) (Nat.le_refl _) (.int .i64 0)).setCell (p := ⟨w.heap.size, 2, none⟩) (Nat.le_refl _) (.int .i64 6)).setCell (p := ⟨w.heap.size, 3, none⟩) (Nat.le_refl _) (.string (ba (enc R)))).setCell (p := ⟨w.heap.size, 4, none⟩) (Nat.le_refl _) (.string o)).setCell (p := ⟨w.heap.size, 5, none⟩) (Nat.le_refl _) (.string ⟨#[]⟩)).setCell (p := ⟨w.heap.size, 6, none⟩) (Nat.le_refl _) (.int .i64 a)).setCell (p := ⟨w.heap.size, 7, none⟩) (Nat.le_refl _) (.int .i64 b)).setCell (p := ⟨w.heap.size, 8, none⟩) (Nat.le_refl _) (.int .i64 c)).setCell (p := ⟨w.heap.size, 9, none⟩) (Nat.le_refl _) (.int .i64 d)).setCell (p := ⟨w.heap.size, 10, none⟩) (Nat.le_refl _) (.int .i64 f)).setCell (p := ⟨w.heap.size, 11, none⟩) (Nat.le_refl _) (.int .i64 (-1))).setCell (p := ⟨w.heap.size, 12, none⟩) (Nat.le_refl _) (.int .i64 (-1))
  exact bodyPost_ret (results_list (rs := [.cell 4 29, .tmp 5, .tmp 6]) rfl (by simp) (.cell w.heap.size 29 _ (0, 0) _ rfl hblk Tryd.underlying29 rfl (by kernel_rfl) (.tmp (.tmp .nil)))) rfl ⟨o, a, b, c, d, f, rfl, hbel⟩
end Go.Proofs.YtgglhfbjbddjjaaDoor.ScQuot
