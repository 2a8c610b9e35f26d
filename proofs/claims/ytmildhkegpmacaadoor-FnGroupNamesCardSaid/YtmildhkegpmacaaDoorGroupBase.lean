/- FnGroupNames: tokens and groups in memory, and what the parser's questions answer of them. -/
import Derived.Test.YtmildhkegpmacaaDoorWMore
import Derived.Test.YtmildhkegpmacaaDoorWWords
import Derived.Test.YtmildhkegpmacaaDoorProg
import Derived.WalkKit
import Derived.Deep.LoopGhost
import Derived.Deep.QuietTactic
import Derived.BigQuiet
import Derived.WalkSpells
namespace Go.Proofs.YtmildhkegpmacaaDoor.GroupBase
open Go.RowKit Go.Proofs.YtmildhkegpmacaaDoorW.PrintWords
set_option linter.unusedVariables false
set_option linter.unusedSimpArgs false

/-- A token of a type in memory, on line 1. -/
def Tok (w : World) (t : Nat) (ty : Int) : Prop := ∃ (c1 c2 v o er nx pv col off ind lev : Value) (q : Nat),
  w.heap[t]? = some (.cells #[.int .i64 ty, c1, c2, v, o, er, .pointer (some ⟨q, 0, none⟩), nx, pv] 112 (0, 0)) ∧ w.heap[q]? = some (.cells #[.int .i64 1, col, off, ind, lev] 158 (0, 0))

theorem Tok.below {w w1 : World} {t : Nat} {ty : Int} (h : Tok w t ty) (hb : Below w.heap.size w w1) : Tok w1 t ty := by
  obtain ⟨c1, c2, v, o, er, nx, pv, col, off, ind, lev, q, h1, h2⟩ := h
  exact ⟨c1, c2, v, o, er, nx, pv, col, off, ind, lev, q, blk_below h1 hb, blk_below h2 hb⟩

/-- A question's answer, now and later. -/
def Ans (F : Nat) (v : Value) (w : World) (p : Nat) : Prop := ∀ W, Below w.heap.size w W → Calls Tryd.prog F #[.pointer (some ⟨p, 0, none⟩)] W fun e W' => e = .returned v ∧ W = W'

theorem Ans.below {F : Nat} {v : Value} {w w1 : World} {p : Nat} (h : Ans F v w p) (hb : Below w.heap.size w w1) : Ans F v w1 p := fun W hW => h W (hb.trans (hW.mono hb.size))
theorem Ans.now {F : Nat} {v : Value} {w : World} {p : Nat} (h : Ans F v w p) : Calls Tryd.prog F #[.pointer (some ⟨p, 0, none⟩)] w fun e W' => e = .returned v ∧ w = W' := h w (Below.refl _ _)

/-- A leaf: a parser's token over a token. -/
def Leaf (w : World) (p t : Nat) : Prop := w.heap[p]? = some (.cells #[.pointer (some ⟨t, 0, none⟩), .pointer none, .pointer none] 124 (0, 0))
/-- A group of a type, whose first token is p0. -/
def Grp (w : World) (p g : Nat) (gt : Int) (b n c : Nat) : Prop := w.heap[p]? = some (.cells #[.pointer none, .pointer (some ⟨g, 0, none⟩), .pointer none] 124 (0, 0)) ∧ w.heap[g]? = some (.cells #[.int .i64 gt, .slice (some ⟨b, 0, none⟩) n c] 128 (0, 0))

theorem Leaf.below {w w1 : World} {p t : Nat} (h : Leaf w p t) (hb : Below w.heap.size w w1) : Leaf w1 p t := blk_below h hb
theorem Grp.below {w w1 : World} {p g b n c : Nat} {gt : Int} (h : Grp w p g gt b n c) (hb : Below w.heap.size w w1) : Grp w1 p g gt b n c := ⟨blk_below h.1 hb, blk_below h.2 hb⟩

set_option maxRecDepth 100000 in
theorem type_leaf (w : World) (p t : Nat) (ty : Int) (hp : Leaf w p t) (ht : Tok w t ty) : Ans 107 (.int .i64 ty) w p := by
  intro W hb
  obtain ⟨c1, c2, v, o, er, nx, pv, col, off, ind, lev, q, h1, h2⟩ := ht.below hb
  have hp := hp.below hb
  have x0 := blk_cell hp 0
  have y0 := blk_cell h1 0
  simp only [List.getElem?_toArray, List.getElem?_cons_succ, List.getElem?_cons_zero] at x0 y0
  clear hp h1 h2 hb ht
  go_enter Tryd.func107, Tryd.ntmps107
  go_wp2
  go_ret
  exact ⟨rfl, rfl⟩

set_option maxRecDepth 100000 in
theorem line_leaf (w : World) (p t : Nat) (ty : Int) (hp : Leaf w p t) (ht : Tok w t ty) : Ans 108 (.int .i64 1) w p := by
  intro W hb
  obtain ⟨c1, c2, v, o, er, nx, pv, col, off, ind, lev, q, h1, h2⟩ := ht.below hb
  have hp := hp.below hb
  have x0 := blk_cell hp 0
  have y0 := blk_cell h1 6
  have z0 := blk_cell h2 0
  simp only [List.getElem?_toArray, List.getElem?_cons_succ, List.getElem?_cons_zero] at x0 y0 z0
  clear hp h1 h2 hb ht
  go_enter Tryd.func108, Tryd.ntmps108
  go_wp2
  go_ret
  exact ⟨rfl, rfl⟩

set_option maxRecDepth 100000 in
theorem gtype_leaf (w : World) (p t : Nat) (hp : Leaf w p t) : Ans 113 (.int .i64 0) w p := by
  intro W hb
  have hp := hp.below hb
  have x0 := blk_cell hp 0
  simp only [List.getElem?_toArray, List.getElem?_cons_succ, List.getElem?_cons_zero] at x0
  clear hp hb
  go_enter Tryd.func113, Tryd.ntmps113
  go_wp2
  go_ret
  exact ⟨rfl, rfl⟩

set_option maxRecDepth 100000 in
theorem gtype_grp (w : World) (p g b n c : Nat) (gt : Int) (hp : Grp w p g gt b n c) : Ans 113 (.int .i64 gt) w p := by
  intro W hb
  obtain ⟨h1, h2⟩ := hp.below hb
  have x0 := blk_cell h1 0
  have x1 := blk_cell h1 1
  have y0 := blk_cell h2 0
  simp only [List.getElem?_toArray, List.getElem?_cons_succ, List.getElem?_cons_zero] at x0 x1 y0
  clear hp h1 h2 hb
  go_enter Tryd.func113, Tryd.ntmps113
  go_wp2
  go_ret
  exact ⟨rfl, rfl⟩

set_option maxRecDepth 100000 in
theorem type_grp (w : World) (p g b n c p0 : Nat) (gt ty : Int) (hp : Grp w p g gt b n c) (hn : 1 ≤ n) (hc0 : w.cell? ⟨b, 0, none⟩ = some (.pointer (some ⟨p0, 0, none⟩))) (h0 : Ans 107 (.int .i64 ty) w p0) : Ans 107 (.int .i64 ty) w p := by
  intro W hb
  obtain ⟨h1, h2⟩ := hp.below hb
  have hc0 := pw_cell_below hb hc0
  have H0 := Aside0.mk (h0.below hb)
  have x0 := blk_cell h1 0
  have x1 := blk_cell h1 1
  have y1 := blk_cell h2 1
  simp only [List.getElem?_toArray, List.getElem?_cons_succ, List.getElem?_cons_zero] at x0 x1 y1
  have hz : ((n : Int) == 0) = false := by
    have : (n : Int) ≠ 0 := by omega
    simpa using this
  have hq : (0 : Int) < (n : Int) := by omega
  clear hp h1 h2 hb h0
  go_enter Tryd.func107, Tryd.ntmps107
  go_wp2_with (first | (go_at_call 140; go_in) | (go_at_call 107; refine H0.out.now.mono ?_; rintro e w' ⟨rfl, rfl⟩))
  go_ret
  exact ⟨rfl, rfl⟩

set_option maxRecDepth 100000 in
theorem line_grp (w : World) (p g b n c p0 : Nat) (gt : Int) (hp : Grp w p g gt b n c) (hn : 1 ≤ n) (hc0 : w.cell? ⟨b, 0, none⟩ = some (.pointer (some ⟨p0, 0, none⟩))) (h0 : Ans 108 (.int .i64 1) w p0) : Ans 108 (.int .i64 1) w p := by
  intro W hb
  obtain ⟨h1, h2⟩ := hp.below hb
  have hc0 := pw_cell_below hb hc0
  have H0 := Aside0.mk (h0.below hb)
  have x0 := blk_cell h1 0
  have x1 := blk_cell h1 1
  have y1 := blk_cell h2 1
  simp only [List.getElem?_toArray, List.getElem?_cons_succ, List.getElem?_cons_zero] at x0 x1 y1
  have hz : ((n : Int) == 0) = false := by
    have : (n : Int) ≠ 0 := by omega
    simpa using this
  have hq : (0 : Int) < (n : Int) := by omega
  clear hp h1 h2 hb h0
  go_enter Tryd.func108, Tryd.ntmps108
  go_wp2_with (first | (go_at_call 141; go_in) | (go_at_call 108; refine H0.out.now.mono ?_; rintro e w' ⟨rfl, rfl⟩))
  go_ret
  exact ⟨rfl, rfl⟩

set_option maxHeartbeats 1000000 in
set_option maxRecDepth 100000 in
/-- A leaf of these types is a scalar. -/
theorem scalar_any (w : World) (p : Nat) (ty : Int) (hty : ty = 18 ∨ ty = 19 ∨ ty = 26 ∨ ty = 31) (hg : Ans 113 (.int .i64 0) w p) (ht : Ans 107 (.int .i64 ty) w p) : Ans 111 (.bool true) w p := by
  intro W hb
  have HG := Aside0.mk (hg.below hb)
  have HT := Aside0.mk (ht.below hb)
  clear hg ht hb
  rcases hty with rfl | rfl | rfl | rfl
  all_goals
    go_enter Tryd.func111, Tryd.ntmps111
    go_wp2_with (first | (go_at_call 113; refine HG.out.now.mono ?_; rintro e w' ⟨rfl, rfl⟩) | (go_at_call 107; refine HT.out.now.mono ?_; rintro e w' ⟨rfl, rfl⟩))
    go_ret
    exact ⟨rfl, rfl⟩
end Go.Proofs.YtmildhkegpmacaaDoor.GroupBase
