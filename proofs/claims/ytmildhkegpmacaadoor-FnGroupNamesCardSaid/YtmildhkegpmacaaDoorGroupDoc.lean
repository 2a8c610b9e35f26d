/- FnGroupNames: the document round one group, and the parser's grouping of an alias and of an anchor. -/
import Derived.Test.YtmildhkegpmacaaDoorGroupAlias
import Derived.Laws.AppendOwn
namespace Go.Proofs.YtmildhkegpmacaaDoor.GroupDoc
open Go.RowKit Go.Proofs.YtmildhkegpmacaaDoorW.PrintWords Go.Proofs.YtmildhkegpmacaaDoor.GroupBase Go.Proofs.YtmildhkegpmacaaDoor.GroupPass Go.Proofs.YtmildhkegpmacaaDoor.GroupAlias
set_option linter.unusedVariables false
set_option linter.unusedSimpArgs false

theorem own_one {w : World} {base p : Nat} {v : Value} (h : w.ownsRow base 121 1 v 1 [ptr p]) : ∃ g cap, v = .slice (some ⟨g, 0, none⟩) 1 cap ∧ RowP w g [p] ∧ base ≤ g := by
  have h' := h
  rcases h.2 with ⟨_, h0⟩ | ⟨g, cap, cur, rfl, hb, _⟩
  · cases h0
  · exact ⟨g, cap, rfl, row_of_own (ps := [p]) rfl h', hb⟩

/-- A document of one group. -/
def Doc (p0 : Nat) (w : World) (e : Ending) (w' : World) : Prop := ∃ b' pd c', e = .returned (.tuple #[.slice (some ⟨b', 0, none⟩) 1 c', .nilIface]) ∧ RowP w' b' [pd] ∧ (∃ g b c, Grp w' pd g 3 b 1 c ∧ w'.cell? ⟨b, 0, none⟩ = some (.pointer (some ⟨p0, 0, none⟩))) ∧ Below w.heap.size w w'

theorem cell_one2' (w : World) (X Y : Obj) (v : Value) (T : TypeId) : ∀ (j : Nat) (u : Value), [v][j]? = some u → (((w.alloc X).alloc Y).alloc (.cells #[v] T)).cell? (Addr.add ⟨w.heap.size + 1 + 1, 0, none⟩ j) = some u := by
  intro j u h
  have := cell_one ((w.alloc X).alloc Y) v T j u h
  rwa [size_alloc, size_alloc] at this

/-- The counter of a loop over one element. -/
def AtOne (si : Value) : Prop := si = .int .i64 0 ∨ si = .int .i64 1

set_option maxHeartbeats 2000000 in
set_option maxRecDepth 100000 in
theorem doc77 (w : World) (b c p0 : Nat) (ty : Int) (h1 : ty ≠ 1) (h2 : ty ≠ 2) (hr : RowP w b [p0]) (hA : Ans 107 (.int .i64 ty) w p0) :
    Calls Tryd.prog 77 #[.slice (some ⟨b, 0, none⟩) 1 c] w (Doc p0 w) := by
  obtain ⟨i0, hi, hz0, hz1, hz2⟩ := info_parts info121
  have y0 := hr 0 (by simp)
  simp only [List.getElem_cons_zero] at y0
  have HA := Aside0.mk hA
  have HR := Aside0.mk hr
  have t1 : (ty == 1) = false := by simpa using h1
  have t2 : (ty == 2) = false := by simpa using h2
  clear hr hA h1 h2
  go_enter Tryd.func77, Tryd.ntmps77
  go_wp2_with fail
  go_loopw [4, 5] (fun out si wr => AtOne si ∧ out = .slice none 0 0 ∧ wr = w) (fun _ si _ => 1 - (intOf si).toNat)
  case atStart => exact ⟨.inl rfl, rfl, rfl⟩
  case round =>
    obtain ⟨rfl | rfl, rfl, rfl⟩ := hrel
    · go_wp2_with (go_at_call 107; refine HA.out.now.mono ?_; rintro e w' ⟨rfl, rfl⟩)
      go_roundw
      case rel => (repeat apply Exists.intro); exact ⟨⟨.inr rfl, rfl, rfl⟩, rfl⟩
      case measure => simp [intOf]
    · have HO : Aside0 (wr.ownsRow wr.heap.size 121 1 (.slice none 0 0) 0 []) := ⟨⟨rfl, .inl ⟨rfl, rfl⟩⟩⟩
      go_wp2_with (at_builtin; refine wpList_append_own _ rfl (.tmp 211) (.tmp 217) 73 rfl wr.heap.size 121 i0 (.pointer none) 1 8 Tryd.underlying73 hi hz0 hz1 hz2 rfl (by decide) _ 0 _ rfl (((HO.out.alloc _).alloc _).alloc _) ⟨wr.heap.size + 1 + 1, 0, none⟩ 1 1 [ptr (wr.heap.size + 1)] rfl rfl (cell_one2' _ _ _ _ _) (ptr_oneCell _) (by unfold maxLen; omega) (by omega) (by simp; omega) ?_; intro v' w1 hown1 hgrow1 _)
      obtain ⟨g', cap', rfl, hrow, hbase⟩ := own_one (by simpa using hown1)
      have HRW := Aside0.mk hrow
      have HG := Aside0.mk hgrow1
      clear hrow hgrow1 hown1
      go_wp2
      go_ret2
      have k1 := blk_grown (blk_alloc (blk_alloc (blk_new wr (.cells #[.int .i64 3, .slice (some ⟨b, 0, none⟩) 1 c] 128)) _) _) HG.out (fun e => by cases e)
      have k2 := blk_grown (blk_alloc (blk_new' (wr.alloc (.cells #[.int .i64 3, .slice (some ⟨b, 0, none⟩) 1 c] 128)) (.cells #[.pointer none, .pointer (some ⟨wr.heap.size, 0, none⟩), .pointer none] 124) _ (size_alloc _ _)) _) HG.out (fun e => by cases e)
      have hB : Below wr.heap.size wr w1 := ((((Below.refl _ wr).alloc (Nat.le_refl _) _).alloc (by simp) _).alloc (by simp; omega) _).grown HG.out (by simp; omega) (fun k h => by cases h)
      exact ⟨g', _, cap', rfl, HRW.out, ⟨_, b, c, ⟨k2, k1⟩, pw_cell_below hB y0⟩, hB⟩

set_option maxRecDepth 100000 in
theorem pass74 (w : World) (b c p0 : Nat) (ty : Int) (h4 : ty ≠ 4) (h5 : ty ≠ 5) (hr : RowP w b [p0]) (hA : Ans 107 (.int .i64 ty) w p0) :
    Calls Tryd.prog 74 #[.slice (some ⟨b, 0, none⟩) 1 c] w (Passed2 1 [p0] w) := by
  have P1 := Aside0.mk (pass115 w b 1 c [p0] rfl (by omega) hr (fun p hp => by simp at hp; subst hp; exact ⟨ty, h4, hA⟩))
  have P2 := Aside0.mk fun w1 b1 (hb : Below w.heap.size w w1) (h1 : RowP w1 b1 [p0]) => pass116 w1 b1 1 1 [p0] rfl (by omega) h1 (fun p hp => by simp at hp; subst hp; exact ⟨ty, h5, hA.below hb⟩)
  clear hr hA h4 h5
  go_enter Tryd.func74, Tryd.ntmps74
  go_wp2_with fail
  refine P1.out.mono ?_
  rintro e w1 ⟨b1, rfl, r1, bel1⟩
  have B1 := Aside0.mk bel1
  have R1 := Aside0.mk r1
  clear bel1 r1
  go_wp2_with fail
  refine (P2.out w1 b1 B1.out R1.out).mono ?_
  rintro e w2 ⟨b2, rfl, r2, bel2⟩
  have B2 := Aside0.mk (B1.out.trans (bel2.mono B1.out.size))
  have R2 := Aside0.mk r2
  clear bel2 r2
  go_wp2_with fail
  go_ret2
  exact ⟨b2, rfl, R2.out, B2.out⟩
end Go.Proofs.YtmildhkegpmacaaDoor.GroupDoc
