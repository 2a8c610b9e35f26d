/- FnGroupNames: GroupTokens, behind its deferred call. -/
import Derived.Test.YtmildhkegpmacaaDoorGroupMd
import Derived.Test.YtmildhkegpmacaaDoorGroupOut
import Derived.Defers
import Derived.Recover
namespace Go.Proofs.YtmildhkegpmacaaDoor.GroupDoor
open Go.RowKit Go.Proofs.YtmildhkegpmacaaDoorW.PrintWords Go.Proofs.YtmildhkegpmacaaDoor.GroupBase Go.Proofs.YtmildhkegpmacaaDoor.GroupPass Go.Proofs.YtmildhkegpmacaaDoor.GroupAlias Go.Proofs.YtmildhkegpmacaaDoor.GroupTok Go.Proofs.YtmildhkegpmacaaDoor.GroupAll Go.Proofs.YtmildhkegpmacaaDoor.GroupList Go.Proofs.YtmildhkegpmacaaDoor.GroupFlat Go.Proofs.YtmildhkegpmacaaDoor.GroupOut Go.Proofs.YtmildhkegpmacaaDoor.GroupMd
set_option linter.unusedVariables false
set_option linter.unusedSimpArgs false
attribute [local go_sem ↓] Go.wp_at_zero Go.wp_at_succ

def Idle (w : World) (e : Ending) (u' : FrameMode) (w' : World) : Prop := e = .returned (.tuple #[]) ∧ u' = .returning ∧ w' = w
theorem catch_idle (p q : Addr) (w : World) :
    CallsD Tryd.prog 46 #[.pointer (some p), .pointer (some q)] .returning w (Idle w) := by
  refine callsD_of_wpS Tryd.func46 rfl fun c₀ cs hu => ?_
  apply wpS_seq
  apply wpS_region
  simp [wpOpsS, go_sem, recoverD, hu, Tryd.ntmps46, Exit.thenS]
  refine wpS_cond (t := false) (by simp [Act.eval, Array.replicate]) ?_
  simp only [Bool.false_eq_true, if_false]
  refine wpS_of_wp (wp_skip ?_)
  cases c₀
  simp_all [bodyPostS, results, Tryd.results46, Idle]

def fault0 : Value := .agg #[.int .i64 0, .int .i64 0, .int .i64 0, .int .i64 0, .int .i64 0, .int .i64 0]
theorem results_25 (tmps : Array Value) (W : World) (a b : Nat) (v : Value) (h2 : tmps.getD 2 undef = .pointer (some ⟨a, 0, none⟩)) (h3 : tmps.getD 3 undef = .pointer (some ⟨b, 0, none⟩))
    (Z2 : W.heap[a]? = some (.cells #[v] 41 (0, 0))) (Z3 : W.heap[b]? = some (.cells #[.int .i64 0, .int .i64 0, .int .i64 0, .int .i64 0, .int .i64 0, .int .i64 0] 45 (0, 0))) :
    (results Tryd.f25 tmps).run Tryd.prog W = .ok (.tuple #[v, fault0]) W := by
  have k2 : tmps[2]?.getD undef = .pointer (some ⟨a, 0, none⟩) := by simpa using h2
  have k3 : tmps[3]?.getD undef = .pointer (some ⟨b, 0, none⟩) := by simpa using h3
  have x2 := blk_cell Z2 0
  simp only [List.getElem?_toArray, List.getElem?_cons_succ, List.getElem?_cons_zero] at x2
  have y0 := blk_cell Z3 0
  have y1 := blk_cell Z3 1
  have y2 := blk_cell Z3 2
  have y3 := blk_cell Z3 3
  have y4 := blk_cell Z3 4
  have y5 := blk_cell Z3 5
  simp only [List.getElem?_toArray, List.getElem?_cons_succ, List.getElem?_cons_zero] at y0 y1 y2 y3 y4 y5
  simp [results, Tryd.results25, k2, k3, asAddr, x2, y0, y1, y2, y3, y4, y5, go_sem, fault0]

def GroupedD (Out : Nat → Value → World → Prop) (w : World) (e : Ending) (w' : World) : Prop := ∃ nr v, e = .returned (.tuple #[v, fault0]) ∧ Out nr v w' ∧ Below w.heap.size w w'

set_option maxHeartbeats 8000000 in
set_option maxRecDepth 100000 in
theorem grouped_of (w : World) (g n cap : Nat) (ks : Nat → Int) (ts : Nat → ByteArray) (h3 : n ≤ 3) (hr : TokRow w g n ks ts) (R : List Nat → World → Nat → Prop) (Out : Nat → Value → World → Prop)
    (H48 : ∀ W b c ps, ps.length = n → RowP W b ps → Toks W ps ks → Calls Tryd.prog 48 #[.slice (some ⟨b, 0, none⟩) n c] W (Grouped (R ps) W))
    (HG : ∀ W b c ps b' pd c' g bb cc pg X, ps.length = n → RowP W b ps → RowP W b' [pd] → Grp W pd g 3 bb 1 cc → W.cell? ⟨bb, 0, none⟩ = some (.pointer (some ⟨pg, 0, none⟩)) → R ps W pg →
      Gives (W.alloc X) W.heap.size (.slice (some ⟨b, 0, none⟩) n c) (.slice (some ⟨b', 0, none⟩) 1 c') 0 n (Out W.heap.size)) :
    Calls Tryd.prog 25 #[.slice (some ⟨g, 0, none⟩) n cap] w (GroupedD Out w) := by
  have hmf : ∀ (fn : Fn) (first cap : Array Value) (w : World), (Instr.makeFunc fn first cap).run Tryd.prog w = .ok (.func fn first cap) w := fun _ _ _ _ => rfl
  have hb0 := ((Below.refl w.heap.size w).alloc (Nat.le_refl _) (.cells #[.slice none 0 0] 41)).alloc (by simp) (.cells #[.int .i64 0, .int .i64 0, .int .i64 0, .int .i64 0, .int .i64 0, .int .i64 0] 45)
  have k2 := blk_alloc (blk_new w (.cells #[.slice none 0 0] 41)) (.cells #[.int .i64 0, .int .i64 0, .int .i64 0, .int .i64 0, .int .i64 0, .int .i64 0] 45)
  have k3 := blk_new' (w.alloc (.cells #[.slice none 0 0] 41)) (.cells #[.int .i64 0, .int .i64 0, .int .i64 0, .int .i64 0, .int .i64 0, .int .i64 0] 45) (w.heap.size + 1) (by simp)
  have CM := Aside0.mk (made_any _ g n cap ks ts h3 (hr.below hb0))
  have K2 := Aside0.mk k2
  have K3 := Aside0.mk k3
  have HB0 := Aside0.mk hb0
  have HHH := Aside0.mk H48
  have HGG := Aside0.mk HG
  clear hr k2 k3 H48 HG hb0
  go_enter_defers Tryd.func25, Tryd.ntmps25
  go_wp2_with fail
  refine CM.out.mono ?_
  rintro e w1 ⟨b, c, ps, rfl, hlen, hrow, htk, hb1⟩
  have HL := Aside0.mk hlen
  have HR := Aside0.mk hrow
  have HB1 := Aside0.mk hb1
  have C48 := Aside0.mk (HHH.out w1 b c ps hlen hrow htk)
  clear hlen hrow htk hb1
  go_wp2_with fail
  refine C48.out.mono ?_
  rintro e w2 ⟨b', pd, c', gg, bb, cc, pg, rfl, hrow2, hgrp, hcell, hR, hb2⟩
  have hg2 := HGG.out w2 b c ps b' pd c' gg bb cc pg (.cells #[.int .i64 0] 3) HL.out (fun i hi => pw_cell_below hb2 (HR.out i hi)) hrow2 hgrp hcell hR
  have C50 := Aside0.mk (hg2 (w2.alloc (.cells #[.int .i64 0] 3)) (KeepBut.refl _ _ _) (blk_new _ _))
  have HB2 := Aside0.mk hb2
  clear hrow2 hgrp hcell hR hb2 hg2
  go_wp2_with fail
  refine C50.out.mono ?_
  rintro e w3 ⟨A, m, c3, rfl, hseal, hnear, hkeep, hseen⟩
  have hs1 := HB1.out.size
  have hs2 := HB2.out.size
  simp at hs1
  have k2 := hkeep.blk (blk_alloc (blk_below (blk_below K2.out HB1.out) HB2.out) (.cells #[.int .i64 0] 3)) (by omega) (by simp)
  have k3 := hkeep.blk (blk_alloc (blk_below (blk_below K3.out HB1.out) HB2.out) (.cells #[.int .i64 0] 3)) (by omega) (by simp)
  have x2 := blk_cell k2 0
  have f2 := blk_frozen k2 0
  have y0 := blk_cell k3 0
  have y1 := blk_cell k3 1
  have y2 := blk_cell k3 2
  have y3 := blk_cell k3 3
  have y4 := blk_cell k3 4
  have y5 := blk_cell k3 5
  have g0 := blk_frozen k3 0
  have g1 := blk_frozen k3 1
  have g2 := blk_frozen k3 2
  have g3 := blk_frozen k3 3
  have g4 := blk_frozen k3 4
  have g5 := blk_frozen k3 5
  simp only [List.getElem?_toArray, List.getElem?_cons_succ, List.getElem?_cons_zero] at x2 y0 y1 y2 y3 y4 y5
  have KK2 := Aside0.mk k2
  have KK3 := Aside0.mk k3
  have HSL := Aside0.mk hseal
  have HKP := Aside0.mk hkeep
  have HSN := Aside0.mk hseen
  clear k2 k3 hseal hnear hkeep hseen
  go_wp2_with fail
  have z2 := blk_far (p := ⟨w.heap.size + 1, 5, none⟩) (blk_far (p := ⟨w.heap.size + 1, 4, none⟩) (blk_far (p := ⟨w.heap.size + 1, 3, none⟩) (blk_far (p := ⟨w.heap.size + 1, 2, none⟩) (blk_far (p := ⟨w.heap.size + 1, 1, none⟩) (blk_far (p := ⟨w.heap.size + 1, 0, none⟩) (blk_set KK2.out 0 (.slice A m c3)) (by simp) (.int .i64 0)) (by simp) (.int .i64 0)) (by simp) (.int .i64 0)) (by simp) (.int .i64 0)) (by simp) (.int .i64 0)) (by simp) (.int .i64 0)
  have z3 := blk_set (blk_set (blk_set (blk_set (blk_set (blk_set (blk_far (p := ⟨w.heap.size, 0, none⟩) KK3.out (by simp) (.slice A m c3)) 0 (.int .i64 0)) 1 (.int .i64 0)) 2 (.int .i64 0)) 3 (.int .i64 0)) 4 (.int .i64 0)) 5 (.int .i64 0)
  simp only [List.setIfInBounds_toArray, List.set_cons_zero, List.set_cons_succ] at z2 z3
  refine leaves_cons (f := 46) (args := #[.pointer (some ⟨w.heap.size, 0, none⟩), .pointer (some ⟨w.heap.size + 1, 0, none⟩)]) (by simp) (by simp [go_sem]) ?_
  refine (catch_idle _ _ _).mono ?_
  rintro e u' w'' ⟨rfl, rfl, rfl⟩
  refine ⟨_, results_25 _ _ w.heap.size (w.heap.size + 1) (.slice A m c3) rfl rfl z2 z3, w2.heap.size, .slice A m c3, rfl, HSL.out _ fun x h1 h2 => ?_, ?_⟩
  · have hne : x ≠ w.heap.size := by simp at h1; omega
    have hne1 : x ≠ w.heap.size + 1 := by simp at h1; omega
    rw [Below.heap_setCell _ _ _ _ hne1, Below.heap_setCell _ _ _ _ hne1, Below.heap_setCell _ _ _ _ hne1, Below.heap_setCell _ _ _ _ hne1, Below.heap_setCell _ _ _ _ hne1, Below.heap_setCell _ _ _ _ hne1, Below.heap_setCell _ _ _ _ hne]
  · have q0 := HB0.out
    have q1 := q0.trans (HB1.out.mono q0.size)
    have q2 := q1.trans (HB2.out.mono q1.size)
    have q3 := q2.alloc q2.size (.cells #[.int .i64 0] 3)
    have q4 : Below w.heap.size w w3 := ⟨HSN.out.os.trans q3.os, HSN.out.tape.trans q3.tape, HSN.out.output.trans q3.output, Nat.le_trans q3.size HSN.out.size, fun k hk => by
      rw [HKP.out.2 k (by have := q3.size; omega) (by omega) (by simp)]; exact q3.block k hk⟩
    exact ((((((q4.setCell (Nat.le_refl _) _).setCell (Nat.le_succ _) _).setCell (Nat.le_succ _) _).setCell (Nat.le_succ _) _).setCell (Nat.le_succ _) _).setCell (Nat.le_succ _) _).setCell (Nat.le_succ _) _
end Go.Proofs.YtmildhkegpmacaaDoor.GroupDoor
