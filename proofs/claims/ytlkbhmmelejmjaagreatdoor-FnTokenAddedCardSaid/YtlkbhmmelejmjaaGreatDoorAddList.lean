/- FnTokenAdded: a list of the package's tokens as data (list). -/
import Derived.Test.YtlkbhmmelejmjaaGreatDoorAddAdd
namespace Go.Proofs.YtlkbhmmelejmjaaGreatDoor.AddList
open Go.RowKit Go.Proofs.YtlkbhmmelejmjaaGreatDoorW.PrintWords Go.Proofs.YtlkbhmmelejmjaaGreatDoor.TokBase Go.Proofs.YtlkbhmmelejmjaaGreatDoor.TokList Go.Proofs.YtlkbhmmelejmjaaGreatDoor.TokMake Go.Proofs.YtlkbhmmelejmjaaGreatDoor.AddBase Go.Proofs.YtlkbhmmelejmjaaGreatDoor.AddMade Go.Proofs.YtlkbhmmelejmjaaGreatDoor.AddAdd
set_option linter.unusedVariables false
set_option linter.unusedSimpArgs false
attribute [local go_sem ↓] Go.wp_at_zero Go.wp_at_succ

/-- What the data say of those beside a token. -/
def prv (i : Nat) : Int := (i : Int) - 1
def nxt (n i : Nat) : Int := if i + 1 = n then -1 else (i : Int) + 1

def Rows (w : World) (A : Option Addr) (n : Nat) (all : List Nat) : Prop := ∀ i, i < n → ∃ g, A = some ⟨g, 0, none⟩ ∧ w.cell? ⟨g, i, none⟩ = some (ptr (all.getD i 0))
theorem Rows.below {w w1 : World} {A : Option Addr} {n : Nat} {all : List Nat} (h : Rows w A n all) (hb : Below w.heap.size w w1) : Rows w1 A n all := fun i hi => by
  obtain ⟨g, h1, h2⟩ := h i hi
  exact ⟨g, h1, pw_cell_below hb h2⟩

def Listn (n : Nat) (vs : Nat → ByteArray) (w : World) (e : Ending) (w' : World) : Prop := ∃ v cs, e = .returned v ∧ w'.ownsRow w.heap.size 25 13 v n cs ∧ Cells13 (ltok vs prv (nxt n)) n cs ∧ Below w.heap.size w w'

def PlacedB (w0 : World) (line col off : Int) (e : Ending) (w' : World) : Prop := e = .returned (.agg #[.int .i64 line, .int .i64 col, .int .i64 off, .int .i64 0, .int .i64 0]) ∧ Below w0.heap.size w0 w'
def Idx (a : Int) (w : World) (e : Ending) (w' : World) : Prop := e = .returned (.int .i64 a) ∧ w = w'

theorem wrapp (j : Nat) (h : j < 100) : IntKind.i64.wrap ((j : Int) + 1) = (j : Int) + 1 := by simp only [IntKind.wrap, IntKind.bits, IntKind.signed]; simp; omega
theorem wrapm (j : Nat) (h : j < 100) : IntKind.i64.wrap ((j : Int) - 1) = (j : Int) - 1 := by simp only [IntKind.wrap, IntKind.bits, IntKind.signed]; simp; omega

theorem index_at (b n c k t : Nat) (a z : Int) (hz : z = (k : Int)) (ha : a = z) (w : World) (hk : k < n) (hx : w.cell? ⟨b, k, none⟩ = some (.pointer (some ⟨t, 0, none⟩))) :
    Calls Tryz.prog 74 #[.slice (some ⟨b, 0, none⟩) n c, .pointer (some ⟨t, 0, none⟩), .int .i64 a] w (Idx z w) := by
  subst ha
  exact (index_hit b n c k t a hz w hk hx).mono fun e w' h => h

set_option maxHeartbeats 32000000 in
set_option maxRecDepth 100000 in
theorem list_any (w : World) (A : Option Addr) (n c : Nat) (all : List Nat) (vs : Nat → ByteArray) (h100 : n ≤ 100) (hn : all.length = n) (hrow : Rows w A n all) (ht : Toks w all vs (nxs all n) (pvs all n)) :
    Calls Tryz.prog 23 #[.slice A n c] w (Listn n vs w) := by
  obtain ⟨i0, hi, hz0, hz1, hz2⟩ := info_parts info25
  have HR := Aside0.mk hrow
  have HT := Aside0.mk ht
  have HN := Aside0.mk hn
  clear hrow ht hn
  go_enter Tryz.func23, Tryz.ntmps23
  go_wp2_with fail
  go_loopw [3, 8] (fun out si wr => ∃ (j : Nat) (cs : List Value), j ≤ n ∧ si = .int .i64 j ∧ wr.ownsRow w.heap.size 25 13 out j cs ∧ Cells13 (ltok vs prv (nxt n)) j cs ∧ Below w.heap.size w wr) (fun _ si _ => n - (intOf si).toNat)
  case atStart => exact ⟨0, [], Nat.zero_le _, rfl, ⟨rfl, .inl ⟨rfl, rfl⟩⟩, Cells13.nil _, Below.refl _ _⟩
  case round =>
    obtain ⟨j, cs, hj, rfl, hown, hcs, hbel⟩ := hrel
    have HOWN := Aside0.mk hown
    have HCS := Aside0.mk hcs
    have HBL := Aside0.mk hbel
    clear hown hcs hbel
    by_cases hlt : j < n
    · obtain ⟨b, hA, hx⟩ := (HR.out.below HBL.out) j hlt
      subst hA
      have hjl : j < all.length := by rw [HN.out]; exact hlt
      obtain ⟨q, ht, hq⟩ := (HT.out.below HBL.out) j hjl
      obtain ⟨t, hte⟩ : ∃ t, t = all[j] := ⟨_, rfl⟩
      rw [← hte] at ht
      rw [getD_at hjl, ← hte] at hx
      unfold ptr at hx
      obtain ⟨s, hse⟩ : ∃ s, s = vs j := ⟨_, rfl⟩
      rw [← hse] at ht
      have HSE := Aside0.mk hse
      have HWP := Aside0.mk (wrapp j (by omega))
      have HWM := Aside0.mk (wrapm j (by omega))
      clear hse hte
      have hc : (j = 0 ∧ j + 1 = n) ∨ (j = 0 ∧ j + 1 < n) ∨ (0 < j ∧ j + 1 = n) ∨ (0 < j ∧ j + 1 < n) := by omega
      rcases hc with hc | hc | hc | hc
      · -- none ahead, none behind
        obtain ⟨hc0, hc1⟩ := hc
        have HC0 := Aside0.mk hc0
        have HC1 := Aside0.mk hc1
        have hnx : nxs all n j = .pointer none := by unfold nxs; rw [if_neg (by omega)]
        have hpv : pvs all n j = .pointer none := by unfold pvs; rw [if_neg (by omega)]
        rw [hnx, hpv] at ht
        have x0 := blk_cell ht 0
        have x1 := blk_cell ht 1
        have x2 := blk_cell ht 2
        have x3 := blk_cell ht 3
        have x4 := blk_cell ht 4
        have x5 := blk_cell ht 5
        have x6 := blk_cell ht 6
        have x7 := blk_cell ht 7
        have x8 := blk_cell ht 8
        simp only [List.getElem?_toArray, List.getElem?_cons_succ, List.getElem?_cons_zero] at x0 x1 x2 x3 x4 x5 x6 x7 x8
        have lt := blk_lt ht
        have CP : Aside0 (∀ W, Below wr.heap.size wr W → Calls Tryz.prog 73 #[.pointer (some ⟨t, 0, none⟩)] W (PlacedB wr 1 ((j : Int) + 1) 0)) := ⟨fun W hW => (place_any t q 1 ((j : Int) + 1) 0 W (pw_cell_below hW x6) (blk_below hq hW)).mono fun e w' h => ⟨h.1, hW.trans (h.2.mono hW.size)⟩⟩
        have HNE := Aside0.mk (own_ne HOWN.out ht (by decide))
        clear ht hq hnx hpv
        clear hc0 hc1
        go_wp2_with fail
        go_region_held3 (fun w' => w'.cell? ⟨t, 0, none⟩ = some (.int .i64 31) ∧ w'.cell? ⟨t, 1, none⟩ = some (.int .i64 2) ∧ w'.cell? ⟨t, 2, none⟩ = some (.int .i64 0) ∧ w'.cell? ⟨t, 3, none⟩ = some (.string s) ∧ w'.cell? ⟨t, 4, none⟩ = some (.string s) ∧ w'.cell? ⟨t, 5, none⟩ = some (.string ⟨#[]⟩) ∧ w'.cell? ⟨t, 6, none⟩ = some (.pointer (some ⟨q, 0, none⟩)) ∧ w'.cell? ⟨t, 7, none⟩ = some (.pointer none) ∧ w'.cell? ⟨t, 8, none⟩ = some (.pointer none))
          (first
            | go_keep
            | (go_split_ands
               refine ⟨?_, ?_, ?_, ?_, ?_, ?_, ?_, ?_, ?_⟩ <;> (rw [hgrow.cell_far _ (by simp; omega) HNE.out]; simp [*])))
          (first
            | ((go_at_call 73; refine (CP.out _ (by first | exact Below.refl _ _ | exact (Below.refl _ _).drew)).mono ?_; rintro e wp ⟨rfl, hpb⟩; have z0 := pw_cell_below hpb x0; have z1 := pw_cell_below hpb x1; have z2 := pw_cell_below hpb x2; have z3 := pw_cell_below hpb x3; have z4 := pw_cell_below hpb x4; have z5 := pw_cell_below hpb x5; have z6 := pw_cell_below hpb x6; have z7 := pw_cell_below hpb x7; have z8 := pw_cell_below hpb x8; have n0 := World.new_ne wp _ z0; have lz := World.block_lt_of_cell? wp _ z0))
            | ((go_at_call 74; (with_reducible refine (index_nil _ _ _).mono ?_); rintro e w' ⟨rfl, rfl⟩))
            | ((refine step_append_lies _ (by rfl) _ _ _ (by rfl) w.heap.size 25 i0 _ 13 128 Tryz.underlying32 hi hz0 hz1 hz2 rfl (by omega) _ j cs (by rfl) ((AddMade.own_same HOWN.out fun y h1 h2 => hpb.block y h2).alloc _) ⟨wp.heap.size, 0, none⟩ 1 1 (tokCells 31 2 0 s s 1 ((j : Int) + 1) 0 (-1) (-1)) (by rfl) (by rfl) (World.news_of_block (cs := (tokCells 31 2 0 s s 1 ((j : Int) + 1) 0 (-1) (-1)).toArray) (t := 25) (fr := (0, 0)) (heap_alloc_new wp _)) (by simp [tokCells, Value.oneCell']) (by omega) (by unfold maxLen; omega) (by omega) (by have h1 := hpb.size; have h2 := HBL.out.size; simp at h1 h2 ⊢; omega) (wp.heap.size + 1) (by simp) ?_; intro g cap w1 hown1 hgrow hat hlt1)))
        all_goals
          have HW := Aside0.mk hown1
          have HG := Aside0.mk hgrow
          have HP := Aside0.mk hpb
          clear hown1 hgrow hpb
          go_wp2_with fail
          go_roundw
          case rel =>
            refine ⟨j + 1, cs ++ (tokCells 31 2 0 s s 1 ((j : Int) + 1) 0 (-1) (-1)), by omega, by go_num, HW.out, HCS.out.snoc ?_ rfl, ?_⟩
            · unfold ltok; rw [← HSE.out]; unfold prv nxt; rw [if_pos HC1.out]; rw [show ((j : Int) - 1) = -1 by have := HC0.out; omega]
            · have h1 := HP.out.size
              have h2 := HBL.out.size
              exact ((HBL.out.trans (HP.out.mono h2)).alloc (by omega) _).grown HG.out (by simp; omega) fun y hy => (AddMade.own_lt HOWN.out y hy).1
          case measure => simp [intOf]; omega
      · -- none ahead, one behind
        obtain ⟨hc0, hc1⟩ := hc
        have HC0 := Aside0.mk hc0
        have HC1 := Aside0.mk hc1
        have hnx : nxs all n j = .pointer (some ⟨all.getD (j + 1) 0, 0, none⟩) := by unfold nxs; rw [if_pos hc1]; rfl
        have hpv : pvs all n j = .pointer none := by unfold pvs; rw [if_neg (by omega)]
        rw [hnx, hpv] at ht
        obtain ⟨bn, hbn, hxn⟩ := (HR.out.below HBL.out) (j + 1) hc1
        obtain rfl : bn = b := by injection hbn with hbn; injection hbn with hbn; exact hbn.symm
        unfold ptr at hxn
        generalize all.getD (j + 1) 0 = tn at ht hxn
        have CN : Aside0 (∀ W, Below wr.heap.size wr W → Calls Tryz.prog 74 #[.slice (some ⟨bn, 0, none⟩) n c, .pointer (some ⟨tn, 0, none⟩), .int .i64 (IntKind.i64.wrap ((j : Int) + 1))] W (Idx ((j : Int) + 1) W)) := ⟨fun W hW => index_at bn n c (j + 1) tn _ ((j : Int) + 1) (by omega) HWP.out W hc1 (pw_cell_below hW hxn)⟩
        clear hbn hxn
        have x0 := blk_cell ht 0
        have x1 := blk_cell ht 1
        have x2 := blk_cell ht 2
        have x3 := blk_cell ht 3
        have x4 := blk_cell ht 4
        have x5 := blk_cell ht 5
        have x6 := blk_cell ht 6
        have x7 := blk_cell ht 7
        have x8 := blk_cell ht 8
        simp only [List.getElem?_toArray, List.getElem?_cons_succ, List.getElem?_cons_zero] at x0 x1 x2 x3 x4 x5 x6 x7 x8
        have lt := blk_lt ht
        have CP : Aside0 (∀ W, Below wr.heap.size wr W → Calls Tryz.prog 73 #[.pointer (some ⟨t, 0, none⟩)] W (PlacedB wr 1 ((j : Int) + 1) 0)) := ⟨fun W hW => (place_any t q 1 ((j : Int) + 1) 0 W (pw_cell_below hW x6) (blk_below hq hW)).mono fun e w' h => ⟨h.1, hW.trans (h.2.mono hW.size)⟩⟩
        have HNE := Aside0.mk (own_ne HOWN.out ht (by decide))
        clear ht hq hnx hpv
        clear hc0 hc1
        go_wp2_with fail
        go_region_held3 (fun w' => w'.cell? ⟨t, 0, none⟩ = some (.int .i64 31) ∧ w'.cell? ⟨t, 1, none⟩ = some (.int .i64 2) ∧ w'.cell? ⟨t, 2, none⟩ = some (.int .i64 0) ∧ w'.cell? ⟨t, 3, none⟩ = some (.string s) ∧ w'.cell? ⟨t, 4, none⟩ = some (.string s) ∧ w'.cell? ⟨t, 5, none⟩ = some (.string ⟨#[]⟩) ∧ w'.cell? ⟨t, 6, none⟩ = some (.pointer (some ⟨q, 0, none⟩)) ∧ w'.cell? ⟨t, 7, none⟩ = some (.pointer (some ⟨tn, 0, none⟩)) ∧ w'.cell? ⟨t, 8, none⟩ = some (.pointer none))
          (first
            | go_keep
            | (go_split_ands
               refine ⟨?_, ?_, ?_, ?_, ?_, ?_, ?_, ?_, ?_⟩ <;> (rw [hgrow.cell_far _ (by simp; omega) HNE.out]; simp [*])))
          (first
            | ((go_at_call 73; refine (CP.out _ (by first | exact Below.refl _ _ | exact (Below.refl _ _).drew)).mono ?_; rintro e wp ⟨rfl, hpb⟩; have z0 := pw_cell_below hpb x0; have z1 := pw_cell_below hpb x1; have z2 := pw_cell_below hpb x2; have z3 := pw_cell_below hpb x3; have z4 := pw_cell_below hpb x4; have z5 := pw_cell_below hpb x5; have z6 := pw_cell_below hpb x6; have z7 := pw_cell_below hpb x7; have z8 := pw_cell_below hpb x8; have n0 := World.new_ne wp _ z0; have lz := World.block_lt_of_cell? wp _ z0))
            | ((go_at_call 74; (with_reducible refine (index_nil _ _ _).mono ?_); rintro e w' ⟨rfl, rfl⟩))
            | ((go_at_call 74; (with_reducible refine (CN.out _ ?_).mono ?_); (first | exact hpb | exact hpb.drew); rintro e w' ⟨rfl, rfl⟩))
            | ((refine step_append_lies _ (by rfl) _ _ _ (by rfl) w.heap.size 25 i0 _ 13 128 Tryz.underlying32 hi hz0 hz1 hz2 rfl (by omega) _ j cs (by rfl) ((AddMade.own_same HOWN.out fun y h1 h2 => hpb.block y h2).alloc _) ⟨wp.heap.size, 0, none⟩ 1 1 (tokCells 31 2 0 s s 1 ((j : Int) + 1) 0 (-1) ((j : Int) + 1)) (by rfl) (by rfl) (World.news_of_block (cs := (tokCells 31 2 0 s s 1 ((j : Int) + 1) 0 (-1) ((j : Int) + 1)).toArray) (t := 25) (fr := (0, 0)) (heap_alloc_new wp _)) (by simp [tokCells, Value.oneCell']) (by omega) (by unfold maxLen; omega) (by omega) (by have h1 := hpb.size; have h2 := HBL.out.size; simp at h1 h2 ⊢; omega) (wp.heap.size + 1) (by simp) ?_; intro g cap w1 hown1 hgrow hat hlt1)))
        all_goals
          have HW := Aside0.mk hown1
          have HG := Aside0.mk hgrow
          have HP := Aside0.mk hpb
          clear hown1 hgrow hpb
          go_wp2_with fail
          go_roundw
          case rel =>
            refine ⟨j + 1, cs ++ (tokCells 31 2 0 s s 1 ((j : Int) + 1) 0 (-1) ((j : Int) + 1)), by omega, by go_num, HW.out, HCS.out.snoc ?_ rfl, ?_⟩
            · unfold ltok; rw [← HSE.out]; unfold prv nxt; rw [if_neg (by have := HC1.out; omega)]; rw [show ((j : Int) - 1) = -1 by have := HC0.out; omega]
            · have h1 := HP.out.size
              have h2 := HBL.out.size
              exact ((HBL.out.trans (HP.out.mono h2)).alloc (by omega) _).grown HG.out (by simp; omega) fun y hy => (AddMade.own_lt HOWN.out y hy).1
          case measure => simp [intOf]; omega
      · -- one ahead, none behind
        obtain ⟨hc0, hc1⟩ := hc
        have HC0 := Aside0.mk hc0
        have HC1 := Aside0.mk hc1
        have hnx : nxs all n j = .pointer none := by unfold nxs; rw [if_neg (by omega)]
        have hpv : pvs all n j = .pointer (some ⟨all.getD (j - 1) 0, 0, none⟩) := by unfold pvs; rw [if_pos ⟨hc0, hlt⟩]; rfl
        rw [hnx, hpv] at ht
        obtain ⟨bp, hbp, hxp⟩ := (HR.out.below HBL.out) (j - 1) (by omega)
        obtain rfl : bp = b := by injection hbp with hbp; injection hbp with hbp; exact hbp.symm
        unfold ptr at hxp
        generalize all.getD (j - 1) 0 = tp at ht hxp
        have CQ : Aside0 (∀ W, Below wr.heap.size wr W → Calls Tryz.prog 74 #[.slice (some ⟨bp, 0, none⟩) n c, .pointer (some ⟨tp, 0, none⟩), .int .i64 (IntKind.i64.wrap ((j : Int) - 1))] W (Idx ((j : Int) - 1) W)) := ⟨fun W hW => index_at bp n c (j - 1) tp _ ((j : Int) - 1) (by omega) HWM.out W (by omega) (pw_cell_below hW hxp)⟩
        clear hbp hxp
        have x0 := blk_cell ht 0
        have x1 := blk_cell ht 1
        have x2 := blk_cell ht 2
        have x3 := blk_cell ht 3
        have x4 := blk_cell ht 4
        have x5 := blk_cell ht 5
        have x6 := blk_cell ht 6
        have x7 := blk_cell ht 7
        have x8 := blk_cell ht 8
        simp only [List.getElem?_toArray, List.getElem?_cons_succ, List.getElem?_cons_zero] at x0 x1 x2 x3 x4 x5 x6 x7 x8
        have lt := blk_lt ht
        have CP : Aside0 (∀ W, Below wr.heap.size wr W → Calls Tryz.prog 73 #[.pointer (some ⟨t, 0, none⟩)] W (PlacedB wr 1 ((j : Int) + 1) 0)) := ⟨fun W hW => (place_any t q 1 ((j : Int) + 1) 0 W (pw_cell_below hW x6) (blk_below hq hW)).mono fun e w' h => ⟨h.1, hW.trans (h.2.mono hW.size)⟩⟩
        have HNE := Aside0.mk (own_ne HOWN.out ht (by decide))
        clear ht hq hnx hpv
        clear hc0 hc1
        go_wp2_with fail
        go_region_held3 (fun w' => w'.cell? ⟨t, 0, none⟩ = some (.int .i64 31) ∧ w'.cell? ⟨t, 1, none⟩ = some (.int .i64 2) ∧ w'.cell? ⟨t, 2, none⟩ = some (.int .i64 0) ∧ w'.cell? ⟨t, 3, none⟩ = some (.string s) ∧ w'.cell? ⟨t, 4, none⟩ = some (.string s) ∧ w'.cell? ⟨t, 5, none⟩ = some (.string ⟨#[]⟩) ∧ w'.cell? ⟨t, 6, none⟩ = some (.pointer (some ⟨q, 0, none⟩)) ∧ w'.cell? ⟨t, 7, none⟩ = some (.pointer none) ∧ w'.cell? ⟨t, 8, none⟩ = some (.pointer (some ⟨tp, 0, none⟩)))
          (first
            | go_keep
            | (go_split_ands
               refine ⟨?_, ?_, ?_, ?_, ?_, ?_, ?_, ?_, ?_⟩ <;> (rw [hgrow.cell_far _ (by simp; omega) HNE.out]; simp [*])))
          (first
            | ((go_at_call 73; refine (CP.out _ (by first | exact Below.refl _ _ | exact (Below.refl _ _).drew)).mono ?_; rintro e wp ⟨rfl, hpb⟩; have z0 := pw_cell_below hpb x0; have z1 := pw_cell_below hpb x1; have z2 := pw_cell_below hpb x2; have z3 := pw_cell_below hpb x3; have z4 := pw_cell_below hpb x4; have z5 := pw_cell_below hpb x5; have z6 := pw_cell_below hpb x6; have z7 := pw_cell_below hpb x7; have z8 := pw_cell_below hpb x8; have n0 := World.new_ne wp _ z0; have lz := World.block_lt_of_cell? wp _ z0))
            | ((go_at_call 74; (with_reducible refine (index_nil _ _ _).mono ?_); rintro e w' ⟨rfl, rfl⟩))
            | ((go_at_call 74; (with_reducible refine (CQ.out _ ?_).mono ?_); (first | exact hpb | exact hpb.drew); rintro e w' ⟨rfl, rfl⟩))
            | ((refine step_append_lies _ (by rfl) _ _ _ (by rfl) w.heap.size 25 i0 _ 13 128 Tryz.underlying32 hi hz0 hz1 hz2 rfl (by omega) _ j cs (by rfl) ((AddMade.own_same HOWN.out fun y h1 h2 => hpb.block y h2).alloc _) ⟨wp.heap.size, 0, none⟩ 1 1 (tokCells 31 2 0 s s 1 ((j : Int) + 1) 0 ((j : Int) - 1) (-1)) (by rfl) (by rfl) (World.news_of_block (cs := (tokCells 31 2 0 s s 1 ((j : Int) + 1) 0 ((j : Int) - 1) (-1)).toArray) (t := 25) (fr := (0, 0)) (heap_alloc_new wp _)) (by simp [tokCells, Value.oneCell']) (by omega) (by unfold maxLen; omega) (by omega) (by have h1 := hpb.size; have h2 := HBL.out.size; simp at h1 h2 ⊢; omega) (wp.heap.size + 1) (by simp) ?_; intro g cap w1 hown1 hgrow hat hlt1)))
        all_goals
          have HW := Aside0.mk hown1
          have HG := Aside0.mk hgrow
          have HP := Aside0.mk hpb
          clear hown1 hgrow hpb
          go_wp2_with fail
          go_roundw
          case rel =>
            refine ⟨j + 1, cs ++ (tokCells 31 2 0 s s 1 ((j : Int) + 1) 0 ((j : Int) - 1) (-1)), by omega, by go_num, HW.out, HCS.out.snoc ?_ rfl, ?_⟩
            · unfold ltok; rw [← HSE.out]; unfold prv nxt; rw [if_pos HC1.out]
            · have h1 := HP.out.size
              have h2 := HBL.out.size
              exact ((HBL.out.trans (HP.out.mono h2)).alloc (by omega) _).grown HG.out (by simp; omega) fun y hy => (AddMade.own_lt HOWN.out y hy).1
          case measure => simp [intOf]; omega
      · -- one ahead, one behind
        obtain ⟨hc0, hc1⟩ := hc
        have HC0 := Aside0.mk hc0
        have HC1 := Aside0.mk hc1
        have hnx : nxs all n j = .pointer (some ⟨all.getD (j + 1) 0, 0, none⟩) := by unfold nxs; rw [if_pos hc1]; rfl
        have hpv : pvs all n j = .pointer (some ⟨all.getD (j - 1) 0, 0, none⟩) := by unfold pvs; rw [if_pos ⟨hc0, hlt⟩]; rfl
        rw [hnx, hpv] at ht
        obtain ⟨bn, hbn, hxn⟩ := (HR.out.below HBL.out) (j + 1) hc1
        obtain rfl : bn = b := by injection hbn with hbn; injection hbn with hbn; exact hbn.symm
        unfold ptr at hxn
        generalize all.getD (j + 1) 0 = tn at ht hxn
        have CN : Aside0 (∀ W, Below wr.heap.size wr W → Calls Tryz.prog 74 #[.slice (some ⟨bn, 0, none⟩) n c, .pointer (some ⟨tn, 0, none⟩), .int .i64 (IntKind.i64.wrap ((j : Int) + 1))] W (Idx ((j : Int) + 1) W)) := ⟨fun W hW => index_at bn n c (j + 1) tn _ ((j : Int) + 1) (by omega) HWP.out W hc1 (pw_cell_below hW hxn)⟩
        clear hbn hxn
        obtain ⟨bp, hbp, hxp⟩ := (HR.out.below HBL.out) (j - 1) (by omega)
        obtain rfl : bp = bn := by injection hbp with hbp; injection hbp with hbp; exact hbp.symm
        unfold ptr at hxp
        generalize all.getD (j - 1) 0 = tp at ht hxp
        have CQ : Aside0 (∀ W, Below wr.heap.size wr W → Calls Tryz.prog 74 #[.slice (some ⟨bp, 0, none⟩) n c, .pointer (some ⟨tp, 0, none⟩), .int .i64 (IntKind.i64.wrap ((j : Int) - 1))] W (Idx ((j : Int) - 1) W)) := ⟨fun W hW => index_at bp n c (j - 1) tp _ ((j : Int) - 1) (by omega) HWM.out W (by omega) (pw_cell_below hW hxp)⟩
        clear hbp hxp
        have x0 := blk_cell ht 0
        have x1 := blk_cell ht 1
        have x2 := blk_cell ht 2
        have x3 := blk_cell ht 3
        have x4 := blk_cell ht 4
        have x5 := blk_cell ht 5
        have x6 := blk_cell ht 6
        have x7 := blk_cell ht 7
        have x8 := blk_cell ht 8
        simp only [List.getElem?_toArray, List.getElem?_cons_succ, List.getElem?_cons_zero] at x0 x1 x2 x3 x4 x5 x6 x7 x8
        have lt := blk_lt ht
        have CP : Aside0 (∀ W, Below wr.heap.size wr W → Calls Tryz.prog 73 #[.pointer (some ⟨t, 0, none⟩)] W (PlacedB wr 1 ((j : Int) + 1) 0)) := ⟨fun W hW => (place_any t q 1 ((j : Int) + 1) 0 W (pw_cell_below hW x6) (blk_below hq hW)).mono fun e w' h => ⟨h.1, hW.trans (h.2.mono hW.size)⟩⟩
        have HNE := Aside0.mk (own_ne HOWN.out ht (by decide))
        clear ht hq hnx hpv
        clear hc0 hc1
        go_wp2_with fail
        go_region_held3 (fun w' => w'.cell? ⟨t, 0, none⟩ = some (.int .i64 31) ∧ w'.cell? ⟨t, 1, none⟩ = some (.int .i64 2) ∧ w'.cell? ⟨t, 2, none⟩ = some (.int .i64 0) ∧ w'.cell? ⟨t, 3, none⟩ = some (.string s) ∧ w'.cell? ⟨t, 4, none⟩ = some (.string s) ∧ w'.cell? ⟨t, 5, none⟩ = some (.string ⟨#[]⟩) ∧ w'.cell? ⟨t, 6, none⟩ = some (.pointer (some ⟨q, 0, none⟩)) ∧ w'.cell? ⟨t, 7, none⟩ = some (.pointer (some ⟨tn, 0, none⟩)) ∧ w'.cell? ⟨t, 8, none⟩ = some (.pointer (some ⟨tp, 0, none⟩)))
          (first
            | go_keep
            | (go_split_ands
               refine ⟨?_, ?_, ?_, ?_, ?_, ?_, ?_, ?_, ?_⟩ <;> (rw [hgrow.cell_far _ (by simp; omega) HNE.out]; simp [*])))
          (first
            | ((go_at_call 73; refine (CP.out _ (by first | exact Below.refl _ _ | exact (Below.refl _ _).drew)).mono ?_; rintro e wp ⟨rfl, hpb⟩; have z0 := pw_cell_below hpb x0; have z1 := pw_cell_below hpb x1; have z2 := pw_cell_below hpb x2; have z3 := pw_cell_below hpb x3; have z4 := pw_cell_below hpb x4; have z5 := pw_cell_below hpb x5; have z6 := pw_cell_below hpb x6; have z7 := pw_cell_below hpb x7; have z8 := pw_cell_below hpb x8; have n0 := World.new_ne wp _ z0; have lz := World.block_lt_of_cell? wp _ z0))
            | ((go_at_call 74; (with_reducible refine (CQ.out _ ?_).mono ?_); (first | exact hpb | exact hpb.drew); rintro e w' ⟨rfl, rfl⟩))
            | ((go_at_call 74; (with_reducible refine (CN.out _ ?_).mono ?_); (first | exact hpb | exact hpb.drew); rintro e w' ⟨rfl, rfl⟩))
            | ((refine step_append_lies _ (by rfl) _ _ _ (by rfl) w.heap.size 25 i0 _ 13 128 Tryz.underlying32 hi hz0 hz1 hz2 rfl (by omega) _ j cs (by rfl) ((AddMade.own_same HOWN.out fun y h1 h2 => hpb.block y h2).alloc _) ⟨wp.heap.size, 0, none⟩ 1 1 (tokCells 31 2 0 s s 1 ((j : Int) + 1) 0 ((j : Int) - 1) ((j : Int) + 1)) (by rfl) (by rfl) (World.news_of_block (cs := (tokCells 31 2 0 s s 1 ((j : Int) + 1) 0 ((j : Int) - 1) ((j : Int) + 1)).toArray) (t := 25) (fr := (0, 0)) (heap_alloc_new wp _)) (by simp [tokCells, Value.oneCell']) (by omega) (by unfold maxLen; omega) (by omega) (by have h1 := hpb.size; have h2 := HBL.out.size; simp at h1 h2 ⊢; omega) (wp.heap.size + 1) (by simp) ?_; intro g cap w1 hown1 hgrow hat hlt1)))
        all_goals
          have HW := Aside0.mk hown1
          have HG := Aside0.mk hgrow
          have HP := Aside0.mk hpb
          clear hown1 hgrow hpb
          go_wp2_with fail
          go_roundw
          case rel =>
            refine ⟨j + 1, cs ++ (tokCells 31 2 0 s s 1 ((j : Int) + 1) 0 ((j : Int) - 1) ((j : Int) + 1)), by omega, by go_num, HW.out, HCS.out.snoc ?_ rfl, ?_⟩
            · unfold ltok; rw [← HSE.out]; unfold prv nxt; rw [if_neg (by have := HC1.out; omega)]
            · have h1 := HP.out.size
              have h2 := HBL.out.size
              exact ((HBL.out.trans (HP.out.mono h2)).alloc (by omega) _).grown HG.out (by simp; omega) fun y hy => (AddMade.own_lt HOWN.out y hy).1
          case measure => simp [intOf]; omega
    · obtain rfl : j = n := by omega
      go_wp2_with fail
      go_ret
      exact ⟨_, cs, rfl, HOWN.out, HCS.out, HBL.out⟩
end Go.Proofs.YtlkbhmmelejmjaaGreatDoor.AddList
