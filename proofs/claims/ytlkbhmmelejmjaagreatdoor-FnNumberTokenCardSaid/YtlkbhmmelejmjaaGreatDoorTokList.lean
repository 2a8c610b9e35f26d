/- Tokens: a token's place and a list of one token as data; Make. -/
import Derived.Test.YtlkbhmmelejmjaaGreatDoorTokBase
namespace Go.Proofs.YtlkbhmmelejmjaaGreatDoor.TokList
open Go.RowKit Go.Proofs.YtlkbhmmelejmjaaGreatDoorW.PrintWords Go.Proofs.YtlkbhmmelejmjaaGreatDoor.TokBase
set_option linter.unusedVariables false
set_option linter.unusedSimpArgs false
attribute [local go_sem ↓] Go.wp_at_zero Go.wp_at_succ

def Placed (line col off : Int) (w : World) (e : Ending) (w' : World) : Prop := e = .returned (.agg #[.int .i64 line, .int .i64 col, .int .i64 off, .int .i64 0, .int .i64 0]) ∧ Below w.heap.size w w'

set_option maxHeartbeats 4000000 in
set_option maxRecDepth 100000 in
theorem place_any (t q : Nat) (line col off : Int) (w : World) (ht : w.cell? ⟨t, 6, none⟩ = some (.pointer (some ⟨q, 0, none⟩))) (hq : Pos w q line col off) :
    Calls Tryz.prog 73 #[.pointer (some ⟨t, 0, none⟩)] w (Placed line col off w) := by
  have lt := World.block_lt_of_cell? w _ ht
  have lq := blk_lt hq
  have x0 := fun o => blk_cell (blk_alloc hq o) 0
  have x1 := fun o => blk_cell (blk_alloc hq o) 1
  have x2 := fun o => blk_cell (blk_alloc hq o) 2
  have x3 := fun o => blk_cell (blk_alloc hq o) 3
  have x4 := fun o => blk_cell (blk_alloc hq o) 4
  simp only [List.getElem?_toArray, List.getElem?_cons_succ, List.getElem?_cons_zero] at x0 x1 x2 x3 x4
  have ht' := fun o => pw_cell_below ((Below.refl _ w).alloc (Nat.le_refl _) o) ht
  clear ht hq
  go_enter Tryz.func73, Tryz.ntmps73
  go_wp2_with fail
  go_region_held3 (fun w' => w'.cell? ⟨q, 0, none⟩ = some (.int .i64 line) ∧ w'.cell? ⟨q, 1, none⟩ = some (.int .i64 col) ∧ w'.cell? ⟨q, 2, none⟩ = some (.int .i64 off) ∧
      w'.cell? ⟨q, 3, none⟩ = some (.int .i64 0) ∧ w'.cell? ⟨q, 4, none⟩ = some (.int .i64 0)) (go_keep) (fail)
  all_goals
    go_wp2
    exact bodyPost_ret (v := .agg #[.int .i64 line, .int .i64 col, .int .i64 off, .int .i64 0, .int .i64 0]) (by simp [results, Tryz.results73, go_sem]) rfl ⟨rfl, ((Below.refl _ w).alloc (Nat.le_refl _) _).drew⟩

theorem info25 : (Tryz.prog.info? 25).map (fun i => (i.zero, i.size, i.bytes)) = some (some (.agg #[.int .i64 0, .int .i64 0, .int .i64 0, .string ⟨#[]⟩, .string ⟨#[]⟩, .string ⟨#[]⟩, .int .i64 0, .int .i64 0, .int .i64 0, .int .i64 0, .int .i64 0, .int .i64 0, .int .i64 0]), 13, 128) := by kernel_rfl

/-- A token as data. -/
def tokCells (ty ch sg : Int) (v o : ByteArray) (line col off prev next : Int) : List Value :=
  [.int .i64 ty, .int .i64 ch, .int .i64 sg, .string v, .string o, .string ⟨#[]⟩, .int .i64 line, .int .i64 col, .int .i64 off, .int .i64 0, .int .i64 0, .int .i64 prev, .int .i64 next]

def Listed (ty ch sg : Int) (v o : ByteArray) (line col off : Int) (w : World) (e : Ending) (w' : World) : Prop := ∃ g cap, e = .returned (.slice (some ⟨g, 0, none⟩) 1 cap) ∧
  w'.ownsRow w.heap.size 25 13 (.slice (some ⟨g, 0, none⟩) 1 cap) 1 (tokCells ty ch sg v o line col off (-1) (-1)) ∧ Below w.heap.size w w'

set_option maxHeartbeats 8000000 in
set_option maxRecDepth 100000 in
theorem list_one (b c t q : Nat) (ty ch sg : Int) (v o : ByteArray) (line col off : Int) (w : World) (hb : w.cell? ⟨b, 0, none⟩ = some (.pointer (some ⟨t, 0, none⟩))) (ht : TokAt w t q ty ch sg v o) (hq : Pos w q line col off) :
    Calls Tryz.prog 23 #[.slice (some ⟨b, 0, none⟩) 1 c] w (Listed ty ch sg v o line col off w) := by
  obtain ⟨i0, hi, hz0, hz1, hz2⟩ := info_parts info25
  have HT := Aside0.mk ht
  have HQ := Aside0.mk hq
  have HX := Aside0.mk hb
  have x0 := blk_cell ht 0
  have x1 := blk_cell ht 1
  have x2 := blk_cell ht 2
  have x3 := blk_cell ht 3
  have x4 := blk_cell ht 4
  have x5 := blk_cell ht 5
  have x6 := blk_cell ht 6
  have x7 := blk_cell ht 7
  have x8 := blk_cell ht 8
  simp only [List.getElem?_toArray, List.getElem?_cons_succ, List.getElem?_cons_zero] at x0 x1 x2 x3 x4 x5 x6 x7 x8
  have lt := blk_lt ht
  have CP := Aside0.mk fun W (hW : Below w.heap.size w W) => place_any t q line col off W (pw_cell_below hW x6) (blk_below hq hW)
  have HO : Aside0 (w.ownsRow w.heap.size 25 13 (.slice none 0 0) 0 []) := ⟨⟨rfl, .inl ⟨rfl, rfl⟩⟩⟩
  clear ht hq
  go_enter Tryz.func23, Tryz.ntmps23
  go_wp2_with fail
  go_loopw [3, 8] (fun out si wr => (si = .int .i64 0 ∧ out = .slice none 0 0 ∧ wr = w) ∨ (si = .int .i64 1 ∧ ∃ g cap, out = .slice (some ⟨g, 0, none⟩) 1 cap ∧
      wr.ownsRow w.heap.size 25 13 (.slice (some ⟨g, 0, none⟩) 1 cap) 1 (tokCells ty ch sg v o line col off (-1) (-1)) ∧ Below w.heap.size w wr)) (fun _ si _ => 1 - (intOf si).toNat)
  case atStart => exact .inl ⟨rfl, rfl, rfl⟩
  case round =>
    rcases hrel with ⟨rfl, rfl, rfl⟩ | ⟨rfl, g, cap, rfl, hown, hbel⟩
    · go_wp2_with fail
      go_region_held3 (fun w' => w'.cell? ⟨t, 0, none⟩ = some (.int .i64 ty) ∧ w'.cell? ⟨t, 1, none⟩ = some (.int .i64 ch) ∧ w'.cell? ⟨t, 2, none⟩ = some (.int .i64 sg) ∧ w'.cell? ⟨t, 3, none⟩ = some (.string v) ∧ w'.cell? ⟨t, 4, none⟩ = some (.string o) ∧ w'.cell? ⟨t, 5, none⟩ = some (.string ⟨#[]⟩) ∧ w'.cell? ⟨t, 6, none⟩ = some (.pointer (some ⟨q, 0, none⟩)) ∧ w'.cell? ⟨t, 7, none⟩ = some (.pointer none) ∧ w'.cell? ⟨t, 8, none⟩ = some (.pointer none))
        (first
          | go_keep
          | (go_split_ands
             refine ⟨?_, ?_, ?_, ?_, ?_, ?_, ?_, ?_, ?_⟩ <;> (rw [hgrow.cell_far _ (by simp; omega) (by simp [Value.ownBlock])]; simp [*])))
        (first
          | ((go_at_call 73; refine (CP.out _ (by first | exact Below.refl _ _ | exact (Below.refl _ _).drew)).mono ?_; rintro e wp ⟨rfl, hpb⟩; have z0 := pw_cell_below hpb x0; have z1 := pw_cell_below hpb x1; have z2 := pw_cell_below hpb x2; have z3 := pw_cell_below hpb x3; have z4 := pw_cell_below hpb x4; have z5 := pw_cell_below hpb x5; have z6 := pw_cell_below hpb x6; have z7 := pw_cell_below hpb x7; have z8 := pw_cell_below hpb x8; have n0 := World.new_ne wp _ z0; have lz := World.block_lt_of_cell? wp _ z0))
          | ((go_at_call 74; refine (index_nil _ _ _).mono ?_; rintro e w' ⟨rfl, rfl⟩))
          | ((refine step_append_lies _ (by rfl) _ _ _ (by rfl) wr.heap.size 25 i0 _ 13 128 Tryz.underlying32 hi hz0 hz1 hz2 rfl (by omega) (.slice none 0 0) 0 [] (by rfl) ⟨rfl, .inl ⟨rfl, rfl⟩⟩ ⟨wp.heap.size, 0, none⟩ 1 1 (tokCells ty ch sg v o line col off (-1) (-1)) (by rfl) (by rfl) (World.news_of_block (cs := (tokCells ty ch sg v o line col off (-1) (-1)).toArray) (t := 25) (fr := (0, 0)) (heap_alloc_new wp _)) (by simp [tokCells, Value.oneCell']) (by omega) (by unfold maxLen; omega) (by omega) (by have := hpb.size; simp at this ⊢; omega) (wp.heap.size + 1) (by simp) ?_; intro g cap w1 hown1 hgrow hat hlt)))
      all_goals
        have HW := Aside0.mk hown1
        have HG := Aside0.mk hgrow
        have HP := Aside0.mk hpb
        clear hown1 hgrow hpb
        go_wp2
        go_roundw
        case rel => exact .inr ⟨rfl, g, cap, rfl, by simpa using HW.out, ((Below.refl wr.heap.size wr).drew).trans ((HP.out.alloc HP.out.size _).grown HG.out (by have := HP.out.size; simp at this ⊢; omega) (fun k h => by cases h))⟩
        case measure => simp [intOf]
    · have HOWN := Aside0.mk hown
      have HB := Aside0.mk hbel
      clear hown hbel
      go_wp2
      go_ret
      exact ⟨g, cap, rfl, HOWN.out, HB.out⟩

end Go.Proofs.YtlkbhmmelejmjaaGreatDoor.TokList
