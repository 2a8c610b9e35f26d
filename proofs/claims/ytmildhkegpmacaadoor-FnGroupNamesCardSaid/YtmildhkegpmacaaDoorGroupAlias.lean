/- FnGroupNames: the groups of an alias and of an anchor (createAnchorAndAliasTokenGroups). -/
import Derived.Test.YtmildhkegpmacaaDoorGroupMake
import Derived.Deep.RegionWith
namespace Go.Proofs.YtmildhkegpmacaaDoor.GroupAlias
open Go.RowKit Go.Proofs.YtmildhkegpmacaaDoorW.PrintWords Go.Proofs.YtmildhkegpmacaaDoor.GroupBase Go.Proofs.YtmildhkegpmacaaDoor.GroupPass
set_option linter.unusedVariables false
set_option linter.unusedSimpArgs false

/-- A group of two tokens. -/
def Two (w : World) (p : Nat) (gt : Int) (p0 p1 : Nat) : Prop := ∃ g b, Grp w p g gt b 2 2 ∧ w.cell? ⟨b, 0, none⟩ = some (.pointer (some ⟨p0, 0, none⟩)) ∧ w.cell? ⟨b, 1, none⟩ = some (.pointer (some ⟨p1, 0, none⟩))
theorem Two.below {w w1 : World} {p p0 p1 : Nat} {gt : Int} (h : Two w p gt p0 p1) (hb : Below w.heap.size w w1) : Two w1 p gt p0 p1 := by
  obtain ⟨g, b, h1, h2, h3⟩ := h
  exact ⟨g, b, h1.below hb, pw_cell_below hb h2, pw_cell_below hb h3⟩

theorem blk_new' (w : World) (X : Obj) (n : Nat) (h : w.heap.size = n) : (w.alloc X).heap[n]? = some X := h ▸ blk_new w X
theorem size_alloc (w : World) (X : Obj) : (w.alloc X).heap.size = w.heap.size + 1 := by simp

theorem cell_one4 (w : World) (X Y Z : Obj) (v : Value) (T : TypeId) : ∀ (j : Nat) (u : Value), [v][j]? = some u → ((((w.alloc X).alloc Y).alloc Z).alloc (.cells #[v] T)).cell? (Addr.add ⟨w.heap.size + 1 + 1 + 1, 0, none⟩ j) = some u := by
  intro j u h
  have := cell_one (((w.alloc X).alloc Y).alloc Z) v T j u h
  rwa [size_alloc, size_alloc, size_alloc] at this

theorem two_made {wr w1 : World} {B : Nat} (p0 p1 : Nat) (gt : Int) (Y : Obj) (hB : B < wr.heap.size)
    (hg : ((((wr.alloc (.cells #[.pointer (some ⟨p0, 0, none⟩), .pointer (some ⟨p1, 0, none⟩)] 121)).alloc (.cells #[.int .i64 gt, .slice (some ⟨wr.heap.size, 0, none⟩) 2 2] 128)).alloc
      (.cells #[.pointer none, .pointer (some ⟨wr.heap.size + 1, 0, none⟩), .pointer none] 124)).alloc Y).grownBy w1 (some B)) : Two w1 (wr.heap.size + 1 + 1) gt p0 p1 := by
  have h1 := blk_grown (blk_alloc (blk_alloc (blk_alloc (blk_new wr (.cells #[.pointer (some ⟨p0, 0, none⟩), .pointer (some ⟨p1, 0, none⟩)] 121)) _) _) _) hg (fun e => by cases e; omega)
  have h2 := blk_grown (blk_alloc (blk_alloc (blk_new' (wr.alloc (.cells #[.pointer (some ⟨p0, 0, none⟩), .pointer (some ⟨p1, 0, none⟩)] 121)) (.cells #[.int .i64 gt, .slice (some ⟨wr.heap.size, 0, none⟩) 2 2] 128) _ (size_alloc _ _)) _) _) hg (fun e => by cases e; omega)
  have h3 := blk_grown (blk_alloc (blk_new' ((wr.alloc (.cells #[.pointer (some ⟨p0, 0, none⟩), .pointer (some ⟨p1, 0, none⟩)] 121)).alloc (.cells #[.int .i64 gt, .slice (some ⟨wr.heap.size, 0, none⟩) 2 2] 128)) (.cells #[.pointer none, .pointer (some ⟨wr.heap.size + 1, 0, none⟩), .pointer none] 124) _ (by rw [size_alloc, size_alloc])) _) hg (fun e => by cases e; omega)
  exact ⟨_, _, ⟨h3, h2⟩, by rw [blk_cell h1 0]; rfl, by rw [blk_cell h1 1]; rfl⟩

/-- One group came of it. -/
def Made (n : Nat) (w : World) (R : World → Nat → Prop) (e : Ending) (w' : World) : Prop := ∃ b' p, e = .returned (.tuple #[.slice (some ⟨b', 0, none⟩) 1 n, .nilIface]) ∧ RowP w' b' [p] ∧ R w' p ∧ Below w.heap.size w w'

set_option maxHeartbeats 2000000 in
set_option maxRecDepth 100000 in
theorem alias71 (w : World) (b c p0 p1 : Nat) (hr : RowP w b [p0, p1]) (hA : Ans 107 (.int .i64 14) w p0) :
    Calls Tryd.prog 71 #[.slice (some ⟨b, 0, none⟩) 2 c] w (Made 2 w fun w' p => Two w' p 7 p0 p1) := by
  obtain ⟨i0, hi, hz0, hz1, hz2⟩ := info_parts info121
  have y0 := hr 0 (by simp)
  have y1 := hr 1 (by simp)
  simp only [List.getElem_cons_zero, List.getElem_cons_succ] at y0 y1
  have HA := Aside0.mk hA
  have Y0 := Aside0.mk y0
  have Y1 := Aside0.mk y1
  clear hr hA y0 y1
  go_enter Tryd.func71, Tryd.ntmps71
  go_wp2_with (at_make; refine wpList_make_own _ rfl _ _ 73 rfl w.heap.size 121 i0 (.pointer none) 1 Tryd.underlying73 hi hz0 hz1 .i64 .i64 _ 2 rfl rfl rfl (by rw [hz2]; omega) (by unfold maxLen; omega) (Nat.le_refl _) ?_; intro w0 hown0 hgrow0)
  have hs0 : w.heap.size < w0.heap.size := by
    rcases hown0.2 with ⟨h, _⟩ | ⟨g, cap, cur, h, _, hg, _⟩
    · cases h
    · cases h; exact blk_lt hg
  go_loopw [4, 5] (fun out si wr => (si = .int .i64 0 ∧ out = .slice (some ⟨w.heap.size, 0, none⟩) 0 2 ∧ wr = w0) ∨
      (si = .int .i64 2 ∧ out = .slice (some ⟨w.heap.size, 0, none⟩) 1 2 ∧ ∃ p, wr.ownsRow w.heap.size 121 1 (.slice (some ⟨w.heap.size, 0, none⟩) 1 2) 1 [ptr p] ∧ Two wr p 7 p0 p1 ∧ Below w.heap.size w wr)) (fun _ si _ => 2 - (intOf si).toNat)
  case atStart => exact .inl ⟨rfl, rfl, rfl⟩
  case round =>
    rcases hrel with ⟨rfl, rfl, rfl⟩ | ⟨rfl, rfl, p, hown, htwo, hb⟩
    · have HB := Aside0.mk ((Below.refl _ w).grown hgrow0 (Nat.le_refl _) (fun k h => by cases h))
      have x0 := pw_cell_below HB.out Y0.out
      have x1 := pw_cell_below HB.out Y1.out
      have HQ := Aside0.mk (HA.out.below HB.out)
      have HOWN := Aside0.mk hown0
      have hBW := HB.out.size
      clear hown0 hgrow0
      go_wp2_with (first
        | (go_at_call 107; refine HQ.out.now.mono ?_; rintro e w' ⟨rfl, rfl⟩)
        | (at_builtin; refine wpList_append_fits _ rfl (.tmp 116) (.tmp 128) 73 rfl w.heap.size 121 i0 1 Tryd.underlying73 hi hz1 w.heap.size 0 2 _ rfl ((((HOWN.out.alloc _).alloc _).alloc _).alloc _) ⟨wr.heap.size + 1 + 1 + 1, 0, none⟩ 1 1 [ptr (wr.heap.size + 1 + 1)] rfl rfl (cell_one4 _ _ _ _ _ _) (ptr_oneCell _) (by omega) ?_; intro w1 hown1 hgrow1))
      go_roundw
      case rel => exact .inr ⟨rfl, rfl, _, by simpa using hown1, two_made p0 p1 7 _ hs0 hgrow1, ((((HB.out.alloc hBW _).alloc (by simp; omega) _).alloc (by simp; omega) _).alloc (by simp; omega) _).grown hgrow1 (by simp; omega) (fun k hk => by cases hk; exact Nat.le_refl _)⟩
      case measure => simp [intOf]
    · have HB := Aside0.mk hb
      have HT := Aside0.mk htwo
      have HOWN := Aside0.mk hown
      clear hb htwo hown hown0 hgrow0
      go_wp2
      go_ret2
      exact ⟨_, p, rfl, row_of_own (ps := [p]) rfl HOWN.out, HT.out, HB.out⟩

theorem two_at (wr : World) (p0 p1 : Nat) (gt : Int) :
    let W := ((wr.alloc (.cells #[.pointer (some ⟨p0, 0, none⟩), .pointer (some ⟨p1, 0, none⟩)] 121)).alloc (.cells #[.int .i64 gt, .slice (some ⟨wr.heap.size, 0, none⟩) 2 2] 128)).alloc
      (.cells #[.pointer none, .pointer (some ⟨wr.heap.size + 1, 0, none⟩), .pointer none] 124)
    W.heap[wr.heap.size]? = some (.cells #[.pointer (some ⟨p0, 0, none⟩), .pointer (some ⟨p1, 0, none⟩)] 121 (0, 0)) ∧ W.heap[wr.heap.size + 1]? = some (.cells #[.int .i64 gt, .slice (some ⟨wr.heap.size, 0, none⟩) 2 2] 128 (0, 0)) ∧
    W.heap[wr.heap.size + 1 + 1]? = some (.cells #[.pointer none, .pointer (some ⟨wr.heap.size + 1, 0, none⟩), .pointer none] 124 (0, 0)) := by
  refine ⟨blk_alloc (blk_alloc (blk_new wr _) _) _, blk_alloc (blk_new' _ _ _ (size_alloc _ _)) _, blk_new' _ _ _ (by rw [size_alloc, size_alloc])⟩

theorem two_grown {w w1 : World} {B p g b p0 p1 : Nat} {gt : Int} (hb : B < b) (hg : B < g) (hp : B < p) (h1 : w.heap[b]? = some (.cells #[.pointer (some ⟨p0, 0, none⟩), .pointer (some ⟨p1, 0, none⟩)] 121 (0, 0)))
    (h2 : w.heap[g]? = some (.cells #[.int .i64 gt, .slice (some ⟨b, 0, none⟩) 2 2] 128 (0, 0))) (h3 : w.heap[p]? = some (.cells #[.pointer none, .pointer (some ⟨g, 0, none⟩), .pointer none] 124 (0, 0)))
    (hgr : w.grownBy w1 (some B)) : Two w1 p gt p0 p1 := by
  have k1 := blk_grown h1 hgr (fun e => by cases e; omega)
  have k2 := blk_grown h2 hgr (fun e => by cases e; omega)
  have k3 := blk_grown h3 hgr (fun e => by cases e; omega)
  exact ⟨g, b, ⟨k3, k2⟩, by rw [blk_cell k1 0]; rfl, by rw [blk_cell k1 1]; rfl⟩

/-- The anchor's world, before the append: both groups. -/
theorem anchor_made {wr w1 : World} {B : Nat} (p0 p1 p2 : Nat) (Y : Obj) (hB : B < wr.heap.size)
    (hg : (((((((wr.alloc (.cells #[.pointer (some ⟨p0, 0, none⟩), .pointer (some ⟨p1, 0, none⟩)] 121)).alloc (.cells #[.int .i64 6, .slice (some ⟨wr.heap.size, 0, none⟩) 2 2] 128)).alloc
      (.cells #[.pointer none, .pointer (some ⟨wr.heap.size + 1, 0, none⟩), .pointer none] 124)).alloc
      (.cells #[.pointer (some ⟨wr.heap.size + 1 + 1, 0, none⟩), .pointer (some ⟨p2, 0, none⟩)] 121)).alloc (.cells #[.int .i64 5, .slice (some ⟨wr.heap.size + 1 + 1 + 1, 0, none⟩) 2 2] 128)).alloc
      (.cells #[.pointer none, .pointer (some ⟨wr.heap.size + 1 + 1 + 1 + 1, 0, none⟩), .pointer none] 124)).alloc Y).grownBy w1 (some B)) :
    Two w1 (wr.heap.size + 1 + 1 + 1 + 1 + 1) 5 (wr.heap.size + 1 + 1) p2 ∧ Two w1 (wr.heap.size + 1 + 1) 6 p0 p1 := by
  obtain ⟨a1, a2, a3⟩ := two_at wr p0 p1 6
  generalize hW : ((wr.alloc (.cells #[.pointer (some ⟨p0, 0, none⟩), .pointer (some ⟨p1, 0, none⟩)] 121)).alloc (.cells #[.int .i64 6, .slice (some ⟨wr.heap.size, 0, none⟩) 2 2] 128)).alloc
      (.cells #[.pointer none, .pointer (some ⟨wr.heap.size + 1, 0, none⟩), .pointer none] 124) = W at *
  have hz : W.heap.size = wr.heap.size + 1 + 1 + 1 := by rw [← hW, size_alloc, size_alloc, size_alloc]
  obtain ⟨c1, c2, c3⟩ := two_at W (wr.heap.size + 1 + 1) p2 5
  simp only [hz] at c1 c2 c3
  refine ⟨two_grown (by omega) (by omega) (by omega) (blk_alloc c1 _) (blk_alloc c2 _) (blk_alloc c3 _) hg, two_grown (by omega) (by omega) (by omega) (blk_alloc (blk_alloc (blk_alloc (blk_alloc a1 _) _) _) _) (blk_alloc (blk_alloc (blk_alloc (blk_alloc a2 _) _) _) _) (blk_alloc (blk_alloc (blk_alloc (blk_alloc a3 _) _) _) _) hg⟩

theorem cell_one7 (w : World) (X1 X2 X3 X4 X5 X6 : Obj) (v : Value) (T : TypeId) : ∀ (j : Nat) (u : Value), [v][j]? = some u → (((((((w.alloc X1).alloc X2).alloc X3).alloc X4).alloc X5).alloc X6).alloc (.cells #[v] T)).cell? (Addr.add ⟨w.heap.size + 1 + 1 + 1 + 1 + 1 + 1, 0, none⟩ j) = some u := by
  intro j u h
  have := cell_one ((((((w.alloc X1).alloc X2).alloc X3).alloc X4).alloc X5).alloc X6) v T j u h
  rwa [size_alloc, size_alloc, size_alloc, size_alloc, size_alloc, size_alloc] at this

set_option maxHeartbeats 4000000 in
set_option maxRecDepth 100000 in
theorem anchor71 (w : World) (b c p0 p1 p2 : Nat) (ty : Int) (h3 : ty ≠ 3) (hr : RowP w b [p0, p1, p2]) (hA : Ans 107 (.int .i64 13) w p0) (hL : Ans 108 (.int .i64 1) w p0) (hA2 : Ans 107 (.int .i64 ty) w p2) (hL2 : Ans 108 (.int .i64 1) w p2) (hS : Ans 111 (.bool true) w p2) :
    Calls Tryd.prog 71 #[.slice (some ⟨b, 0, none⟩) 3 c] w (Made 3 w fun w' p => ∃ q, Two w' p 5 q p2 ∧ Two w' q 6 p0 p1) := by
  obtain ⟨i0, hi, hz0, hz1, hz2⟩ := info_parts info121
  have y0 := hr 0 (by simp)
  have y1 := hr 1 (by simp)
  have y2 := hr 2 (by simp)
  simp only [List.getElem_cons_zero, List.getElem_cons_succ] at y0 y1 y2
  have HA := Aside0.mk hA
  have HL := Aside0.mk hL
  have HA2 := Aside0.mk hA2
  have HL2 := Aside0.mk hL2
  have HS := Aside0.mk hS
  have Y0 := Aside0.mk y0
  have Y1 := Aside0.mk y1
  have Y2 := Aside0.mk y2
  have t3 : (ty == 3) = false := by simpa using h3
  clear hr hA y0 y1 y2 hL hA2 hL2 hS h3
  go_enter Tryd.func71, Tryd.ntmps71
  go_wp2_with (at_make; refine wpList_make_own _ rfl _ _ 73 rfl w.heap.size 121 i0 (.pointer none) 1 Tryd.underlying73 hi hz0 hz1 .i64 .i64 _ 3 rfl rfl rfl (by rw [hz2]; omega) (by unfold maxLen; omega) (Nat.le_refl _) ?_; intro w0 hown0 hgrow0)
  have hs0 : w.heap.size < w0.heap.size := by
    rcases hown0.2 with ⟨h, _⟩ | ⟨g, cap, cur, h, _, hg, _⟩
    · cases h
    · cases h; exact blk_lt hg
  go_loopw [4, 5] (fun out si wr => (si = .int .i64 0 ∧ out = .slice (some ⟨w.heap.size, 0, none⟩) 0 3 ∧ wr = w0) ∨
      (si = .int .i64 3 ∧ out = .slice (some ⟨w.heap.size, 0, none⟩) 1 3 ∧ ∃ p, wr.ownsRow w.heap.size 121 1 (.slice (some ⟨w.heap.size, 0, none⟩) 1 3) 1 [ptr p] ∧ (∃ q, Two wr p 5 q p2 ∧ Two wr q 6 p0 p1) ∧ Below w.heap.size w wr)) (fun _ si _ => 3 - (intOf si).toNat)
  case atStart => exact .inl ⟨rfl, rfl, rfl⟩
  case round =>
    rcases hrel with ⟨rfl, rfl, rfl⟩ | ⟨rfl, rfl, p, hown, htwo, hb⟩
    · have HB := Aside0.mk ((Below.refl _ w).grown hgrow0 (Nat.le_refl _) (fun k h => by cases h))
      have x0 := pw_cell_below HB.out Y0.out
      have x1 := pw_cell_below HB.out Y1.out
      have x2 := pw_cell_below HB.out Y2.out
      have HQ := Aside0.mk (HA.out.below HB.out)
      have HOWN := Aside0.mk hown0
      have hBW := HB.out.size
      have HW : Aside0 (∀ X Y Z, Below w.heap.size w (((wr.alloc X).alloc Y).alloc Z)) := ⟨fun X Y Z => ((HB.out.alloc hBW _).alloc (by simp; omega) _).alloc (by simp; omega) _⟩
      have x2' := fun X Y Z => pw_cell_below (HW.out X Y Z) Y2.out
      clear hown0 hgrow0 x2
      go_wp2_with (go_at_call 107; refine HQ.out.now.mono ?_; rintro e w' ⟨rfl, rfl⟩)
      go_wp2_with (first
        | (go_at_call_of 108 (Value.pointer (some ⟨p0, 0, none⟩)); refine (HL.out.below (HW.out _ _ _)).now.mono ?_; rintro e w' ⟨rfl, rfl⟩)
        | (go_at_call_of 108 (Value.pointer (some ⟨p2, 0, none⟩)); refine (HL2.out.below (HW.out _ _ _)).now.mono ?_; rintro e w' ⟨rfl, rfl⟩)
        | (go_at_call 107; refine (HA2.out.below (HW.out _ _ _)).now.mono ?_; rintro e w' ⟨rfl, rfl⟩)
        | (go_at_call 111; refine (HS.out.below (HW.out _ _ _)).now.mono ?_; rintro e w' ⟨rfl, rfl⟩)
        | (at_builtin; refine wpList_append_fits _ rfl (.tmp 87) (.tmp 95) 73 rfl w.heap.size 121 i0 1 Tryd.underlying73 hi hz1 w.heap.size 0 3 _ rfl (((((((HOWN.out.alloc _).alloc _).alloc _).alloc _).alloc _).alloc _).alloc _) ⟨wr.heap.size + 1 + 1 + 1 + 1 + 1 + 1, 0, none⟩ 1 1 [ptr (wr.heap.size + 1 + 1 + 1 + 1 + 1)] rfl rfl (cell_one7 _ _ _ _ _ _ _ _ _) (ptr_oneCell _) (by omega) ?_; intro w1 hown1 hgrow1))
      go_roundw
      case rel => exact .inr ⟨rfl, rfl, _, by simpa using hown1, ⟨_, anchor_made p0 p1 p2 _ hs0 hgrow1⟩, (((((HW.out _ _ _).alloc (by simp; omega) _).alloc (by simp; omega) _).alloc (by simp; omega) _).alloc (by simp; omega) _).grown hgrow1 (by simp; omega) (fun k hk => by cases hk; exact Nat.le_refl _)⟩
      case measure => simp [intOf]
    · have HB := Aside0.mk hb
      have HT := Aside0.mk htwo
      have HOWN := Aside0.mk hown
      clear hb htwo hown hown0 hgrow0
      go_wp2
      go_ret2
      exact ⟨_, p, rfl, row_of_own (ps := [p]) rfl HOWN.out, HT.out, HB.out⟩
end Go.Proofs.YtmildhkegpmacaaDoor.GroupAlias
