/- Tokens: Make at the kinds that are made of a value and an origin. -/
import Derived.Test.YtlkbhmmelejmjaaGreatDoorTokList
namespace Go.Proofs.YtlkbhmmelejmjaaGreatDoor.TokMake
open Go.RowKit Go.Proofs.YtlkbhmmelejmjaaGreatDoorW.PrintWords Go.Proofs.YtlkbhmmelejmjaaGreatDoor.TokBase Go.Proofs.YtlkbhmmelejmjaaGreatDoor.TokList
set_option linter.unusedVariables false
set_option linter.unusedSimpArgs false

theorem own_cells {w : World} {base g n cap : Nat} {xs : List Value} (h : w.ownsRow base 25 13 (.slice (some ⟨g, 0, none⟩) n cap) n xs) (j : Nat) (hj : j < n * 13) : w.cell? ⟨g, j, none⟩ = xs[j]? := h.cellAt j hj


theorem set13_blk (w : World) (B : Nat) (k ch sg : Int) (v o : ByteArray) (line col off p n : Int) (h : w.heap[B]? = some (.cells #[.int .i64 0, .int .i64 0, .int .i64 0, .string ⟨#[]⟩, .string ⟨#[]⟩, .string ⟨#[]⟩, .int .i64 0, .int .i64 0, .int .i64 0, .int .i64 0, .int .i64 0, .int .i64 0, .int .i64 0] 25 (0, 0))) :
    (World.setCell (World.setCell (World.setCell (World.setCell (World.setCell (World.setCell (World.setCell (World.setCell (World.setCell (World.setCell (World.setCell (World.setCell (World.setCell w ⟨B, 0, none⟩ (.int .i64 k)) ⟨B, 1, none⟩ (.int .i64 ch)) ⟨B, 2, none⟩ (.int .i64 sg)) ⟨B, 3, none⟩ (.string v)) ⟨B, 4, none⟩ (.string o)) ⟨B, 5, none⟩ (.string ⟨#[]⟩)) ⟨B, 6, none⟩ (.int .i64 line)) ⟨B, 7, none⟩ (.int .i64 col)) ⟨B, 8, none⟩ (.int .i64 off)) ⟨B, 9, none⟩ (.int .i64 0)) ⟨B, 10, none⟩ (.int .i64 0)) ⟨B, 11, none⟩ (.int .i64 p)) ⟨B, 12, none⟩ (.int .i64 n)).heap[B]? = some (.cells (tokCells k ch sg v o line col off p n).toArray 25 (0, 0)) := by
  have h' := (blk_set (blk_set (blk_set (blk_set (blk_set (blk_set (blk_set (blk_set (blk_set (blk_set (blk_set (blk_set (blk_set h 0 (.int .i64 k)) 1 (.int .i64 ch)) 2 (.int .i64 sg)) 3 (.string v)) 4 (.string o)) 5 (.string ⟨#[]⟩)) 6 (.int .i64 line)) 7 (.int .i64 col)) 8 (.int .i64 off)) 9 (.int .i64 0)) 10 (.int .i64 0)) 11 (.int .i64 p)) 12 (.int .i64 n))
  rw [h']
  simp only [List.setIfInBounds_toArray, List.set_cons_zero, List.set_cons_succ, tokCells]
theorem set13_below (w0 w : World) (b B : Nat) (k ch sg : Int) (v o : ByteArray) (line col off p n : Int) (h : Below b w0 w) (hb : b ≤ B) : Below b w0 (World.setCell (World.setCell (World.setCell (World.setCell (World.setCell (World.setCell (World.setCell (World.setCell (World.setCell (World.setCell (World.setCell (World.setCell (World.setCell w ⟨B, 0, none⟩ (.int .i64 k)) ⟨B, 1, none⟩ (.int .i64 ch)) ⟨B, 2, none⟩ (.int .i64 sg)) ⟨B, 3, none⟩ (.string v)) ⟨B, 4, none⟩ (.string o)) ⟨B, 5, none⟩ (.string ⟨#[]⟩)) ⟨B, 6, none⟩ (.int .i64 line)) ⟨B, 7, none⟩ (.int .i64 col)) ⟨B, 8, none⟩ (.int .i64 off)) ⟨B, 9, none⟩ (.int .i64 0)) ⟨B, 10, none⟩ (.int .i64 0)) ⟨B, 11, none⟩ (.int .i64 p)) ⟨B, 12, none⟩ (.int .i64 n)) :=
  Below.setCell (Below.setCell (Below.setCell (Below.setCell (Below.setCell (Below.setCell (Below.setCell (Below.setCell (Below.setCell (Below.setCell (Below.setCell (Below.setCell (Below.setCell (h) hb _) hb _) hb _) hb _) hb _) hb _) hb _) hb _) hb _) hb _) hb _) hb _) hb _

/-- A token as one value. -/
def tokAgg (ty ch sg : Int) (v o : ByteArray) (line col off prev next : Int) : Value := .agg (tokCells ty ch sg v o line col off prev next).toArray

def Mades (k ch sg : Int) (v o : ByteArray) (line col off : Int) (w : World) (e : Ending) (w' : World) : Prop := e = .returned (tokAgg k ch sg v o line col off (-1) (-1)) ∧ Below w.heap.size w w'

set_option maxHeartbeats 4000000 in
set_option maxRecDepth 100000 in
theorem make_of (k0 k ch sg : Int) (v o : ByteArray) (line col off : Int) (h0 : 1 ≤ col) (h1 : col ≤ 200) (hm : ∀ q W, Calls Tryz.prog 21 #[.int .i64 k0, .string v, .string o, .pointer (some ⟨q, 0, none⟩)] W (Maked k ch sg v o q W)) (w : World) :
    Calls Tryz.prog 9 #[.int .i64 k0, .string v, .string o, .agg #[.int .i64 line, .int .i64 col, .int .i64 off, .int .i64 0, .int .i64 0]] w (Mades k ch sg v o line col off w) := by
  have CP := Aside0.mk fun W => position_any line col off h0 h1 W
  have CM := Aside0.mk hm
  clear hm
  go_enter Tryz.func9, Tryz.ntmps9
  go_wp2_with fail
  refine (CP.out _).mono ?_
  rintro e w1 ⟨q, rfl, hq1, hq2, b1⟩
  have HQ := Aside0.mk hq2
  have B1 := Aside0.mk b1
  clear hq1 hq2 b1
  go_wp2_with fail
  refine (CM.out q _).mono ?_
  rintro e w2 ⟨t, rfl, ht1, ht2, b2⟩
  have HT := Aside0.mk ht2
  have B2 := Aside0.mk b2
  clear ht1 ht2 b2
  go_wp2_with fail
  refine (list_one w2.heap.size 1 t q k ch sg v o line col off _ (by rw [blk_cell (blk_new w2 _) 0]; rfl) (blk_alloc HT.out _) (blk_alloc (blk_below HQ.out B2.out) _)).mono ?_
  rintro e w3 ⟨g, cap, rfl, hown, b3⟩
  have B3 := Aside0.mk b3
  have HOWN := Aside0.mk hown
  have hz : ((w.alloc (.cells #[.int .i64 line, .int .i64 col, .int .i64 off, .int .i64 0, .int .i64 0] 23)).heap.size) = w.heap.size + 1 := size_alloc _ _
  have hT := blk_below (blk_alloc (blk_below (blk_below (blk_new' (w.alloc (.cells #[.int .i64 line, .int .i64 col, .int .i64 off, .int .i64 0, .int .i64 0] 23)) (.cells #[.int .i64 0, .int .i64 0, .int .i64 0, .string ⟨#[]⟩, .string ⟨#[]⟩, .string ⟨#[]⟩, .int .i64 0, .int .i64 0, .int .i64 0, .int .i64 0, .int .i64 0, .int .i64 0, .int .i64 0] 25) _ hz) B1.out) B2.out) _) b3
  have HTT := Aside0.mk hT
  have y0 := own_cells hown 0 (by omega)
  have y1 := own_cells hown 1 (by omega)
  have y2 := own_cells hown 2 (by omega)
  have y3 := own_cells hown 3 (by omega)
  have y4 := own_cells hown 4 (by omega)
  have y5 := own_cells hown 5 (by omega)
  have y6 := own_cells hown 6 (by omega)
  have y7 := own_cells hown 7 (by omega)
  have y8 := own_cells hown 8 (by omega)
  have y9 := own_cells hown 9 (by omega)
  have y10 := own_cells hown 10 (by omega)
  have y11 := own_cells hown 11 (by omega)
  have y12 := own_cells hown 12 (by omega)
  simp only [tokCells, List.getElem?_cons_succ, List.getElem?_cons_zero] at y0 y1 y2 y3 y4 y5 y6 y7 y8 y9 y10 y11 y12
  have f0 := blk_frozen hT 0
  have x0 := blk_cell hT 0
  have f1 := blk_frozen hT 1
  have x1 := blk_cell hT 1
  have f2 := blk_frozen hT 2
  have x2 := blk_cell hT 2
  have f3 := blk_frozen hT 3
  have x3 := blk_cell hT 3
  have f4 := blk_frozen hT 4
  have x4 := blk_cell hT 4
  have f5 := blk_frozen hT 5
  have x5 := blk_cell hT 5
  have f6 := blk_frozen hT 6
  have x6 := blk_cell hT 6
  have f7 := blk_frozen hT 7
  have x7 := blk_cell hT 7
  have f8 := blk_frozen hT 8
  have x8 := blk_cell hT 8
  have f9 := blk_frozen hT 9
  have x9 := blk_cell hT 9
  have f10 := blk_frozen hT 10
  have x10 := blk_cell hT 10
  have f11 := blk_frozen hT 11
  have x11 := blk_cell hT 11
  have f12 := blk_frozen hT 12
  have x12 := blk_cell hT 12
  simp only [List.getElem?_toArray, List.getElem?_cons_succ, List.getElem?_cons_zero] at x0 x1 x2 x3 x4 x5 x6 x7 x8 x9 x10 x11 x12
  clear hown b3 hT hz
  go_wp2_with fail
  have hle : w.heap.size ≤ w.heap.size + 1 := by omega
  have hBl : Below w.heap.size w w3 := by
    have c0 : Below w.heap.size w _ := ((Below.refl w.heap.size w).alloc (Nat.le_refl _) (.cells #[.int .i64 line, .int .i64 col, .int .i64 off, .int .i64 0, .int .i64 0] 23)).alloc (by simp) (.cells #[.int .i64 0, .int .i64 0, .int .i64 0, .string ⟨#[]⟩, .string ⟨#[]⟩, .string ⟨#[]⟩, .int .i64 0, .int .i64 0, .int .i64 0, .int .i64 0, .int .i64 0, .int .i64 0, .int .i64 0] 25)
    have c1 := c0.trans (B1.out.mono c0.size)
    have c2 := c1.trans (B2.out.mono c1.size)
    have c3 := c2.alloc c2.size (.cells #[.pointer (some ⟨t, 0, none⟩)] 46)
    exact c3.trans (B3.out.mono c3.size)
  exact bodyPost_ret (results_single rfl (.cell (w.heap.size + 1) 25 _ (0, 0) _ rfl (set13_blk w3 (w.heap.size + 1) k ch sg v o line col off (-1) (-1) HTT.out) Tryz.underlying25 rfl (by kernel_rfl) .nil)) rfl ⟨rfl, set13_below w w3 w.heap.size (w.heap.size + 1) k ch sg v o line col off (-1) (-1) hBl hle⟩

theorem make_any (k ch sg : Int) (hk : Kind3 k ch sg) (v o : ByteArray) (line col off : Int) (h0 : 1 ≤ col) (h1 : col ≤ 200) (w : World) :
    Calls Tryz.prog 9 #[.int .i64 k, .string v, .string o, .agg #[.int .i64 line, .int .i64 col, .int .i64 off, .int .i64 0, .int .i64 0]] w (Mades k ch sg v o line col off w) :=
  make_of k k ch sg v o line col off h0 h1 (fun q W => maker_any k ch sg hk v o q W) w
end Go.Proofs.YtlkbhmmelejmjaaGreatDoor.TokMake
