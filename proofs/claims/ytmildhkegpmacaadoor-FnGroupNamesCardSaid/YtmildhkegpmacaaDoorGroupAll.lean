/- FnGroupNames: CreateGroupedTokens at an alias and its name, and at an anchor, its name and a scalar. (Written by wip/tools/groupall.py.) -/
import Derived.Test.YtmildhkegpmacaaDoorGroupDoc
namespace Go.Proofs.YtmildhkegpmacaaDoor.GroupAll
open Go.RowKit Go.Proofs.YtmildhkegpmacaaDoorW.PrintWords Go.Proofs.YtmildhkegpmacaaDoor.GroupBase Go.Proofs.YtmildhkegpmacaaDoor.GroupPass Go.Proofs.YtmildhkegpmacaaDoor.GroupMake Go.Proofs.YtmildhkegpmacaaDoor.GroupAlias Go.Proofs.YtmildhkegpmacaaDoor.GroupDoc
set_option linter.unusedVariables false
set_option linter.unusedSimpArgs false

theorem two_type {w : World} {p p0 p1 : Nat} {gt ty : Int} (h : Two w p gt p0 p1) (h0 : Ans 107 (.int .i64 ty) w p0) : Ans 107 (.int .i64 ty) w p := by
  obtain ⟨g, b, hg, hc, _⟩ := h
  exact type_grp w p g b 2 2 p0 gt ty hg (by omega) hc h0
theorem two_gtype {w : World} {p p0 p1 : Nat} {gt : Int} (h : Two w p gt p0 p1) : Ans 113 (.int .i64 gt) w p := by
  obtain ⟨g, b, hg, _, _⟩ := h
  exact gtype_grp w p g b 2 2 gt hg

/-- One document, which holds one group. -/
def Grouped (R : World → Nat → Prop) (w : World) (e : Ending) (w' : World) : Prop := ∃ b' pd c' g bb cc pg, e = .returned (.tuple #[.slice (some ⟨b', 0, none⟩) 1 c', .nilIface]) ∧ RowP w' b' [pd] ∧
  Grp w' pd g 3 bb 1 cc ∧ w'.cell? ⟨bb, 0, none⟩ = some (.pointer (some ⟨pg, 0, none⟩)) ∧ R w' pg ∧ Below w.heap.size w w'
def Aliased (t0 t1 : Nat) (w : World) (pg : Nat) : Prop := ∃ q0 q1, Two w pg 7 q0 q1 ∧ Leaf w q0 t0 ∧ Leaf w q1 t1
set_option maxHeartbeats 4000000 in
set_option maxRecDepth 100000 in
theorem alias48 (w : World) (b c t0 t1 : Nat) (hr : RowP w b [t0, t1]) (h0 : Tok w t0 14) (h1 : Tok w t1 31) :
    Calls Tryd.prog 48 #[.slice (some ⟨b, 0, none⟩) 2 c] w (Grouped (Aliased t0 t1) w) := by
  have H0 := Aside0.mk h0
  have H1 := Aside0.mk h1
  have C1 := Aside0.mk (new68 w b 2 c [t0, t1] rfl (by omega) hr)
  clear hr h0 h1
  go_enter Tryd.func48, Tryd.ntmps48
  go_wp2_with fail
  refine C1.out.mono ?_
  rintro e w1 ⟨b1, ps, rfl, hps, hr1, hl1, bel1⟩
  obtain ⟨q0, q1, rfl⟩ : ∃ q0 q1, ps = [q0, q1] := by
    match ps, hps with
    | [a0, a1], _ => exact ⟨a0, a1, rfl⟩
  have l0 := (hl1 0 (by simp)).2
  have l1 := (hl1 1 (by simp)).2
  simp only [List.getElem_cons_zero, List.getElem_cons_succ, List.getD_cons_zero, List.getD_cons_succ] at l0 l1
  have K0 := Aside0.mk l0
  have A0 := Aside0.mk (type_leaf w1 q0 t0 14 l0 (H0.out.below bel1))
  have K1 := Aside0.mk l1
  have A1 := Aside0.mk (type_leaf w1 q1 t1 31 l1 (H1.out.below bel1))
  have B1 := Aside0.mk bel1
  have R1 := Aside0.mk hr1
  clear bel1 hr1 hl1 hps l0 l1 C1
  go_wp2_with fail
  refine (pass69 w1 b1 2 _ [q0, q1] rfl (by omega) R1.out (fun p hp => by
    simp only [List.mem_cons, List.mem_nil_iff, or_false] at hp
    rcases hp with rfl | rfl
    · exact ⟨14, (by decide), A0.out.below (Below.refl _ _)⟩
    · exact ⟨31, (by decide), A1.out.below (Below.refl _ _)⟩)).mono ?_
  rintro e w2 ⟨b2, rfl, r2, bel2⟩
  have D2 := Aside0.mk (bel2)
  have R2 := Aside0.mk r2
  clear r2 bel2
  go_wp2_with fail
  refine (pass70 w2 b2 2 _ [q0, q1] rfl (by omega) R2.out (fun p hp => by
    simp only [List.mem_cons, List.mem_nil_iff, or_false] at hp
    rcases hp with rfl | rfl
    · exact ⟨14, (by decide), A0.out.below (D2.out)⟩
    · exact ⟨31, (by decide), A1.out.below (D2.out)⟩)).mono ?_
  rintro e w3 ⟨b3, rfl, r3, bel3⟩
  have D3 := Aside0.mk (D2.out.trans (bel3.mono D2.out.size))
  have R3 := Aside0.mk r3
  clear r3 bel3
  go_wp2_with fail
  refine (alias71 w3 b3 _ q0 q1 R3.out (A0.out.below D3.out)).mono ?_
  rintro e w4 ⟨b4, pg, rfl, r4, htwo, bel4⟩
  have D4 := Aside0.mk (D3.out.trans (bel4.mono D3.out.size))
  have R4 := Aside0.mk r4
  have HTW := Aside0.mk htwo
  have TY := Aside0.mk (two_type htwo (A0.out.below D4.out))
  have GT := Aside0.mk (two_gtype htwo)
  clear htwo r4 bel4
  go_wp2_with fail
  refine (pass72 w4 b4 1 _ [pg] rfl (by omega) R4.out (fun p hp => by
    simp only [List.mem_cons, List.mem_nil_iff, or_false] at hp
    subst hp
    exact ⟨14, (by decide), TY.out.below (Below.refl _ _)⟩)).mono ?_
  rintro e w5 ⟨b5, rfl, r5, bel5⟩
  have E5 := Aside0.mk (bel5)
  have R5 := Aside0.mk r5
  clear r5 bel5
  go_wp2_with fail
  refine (pass73 w5 b5 1 _ [pg] rfl (by omega) R5.out (fun p hp => by
    simp only [List.mem_cons, List.mem_nil_iff, or_false] at hp
    subst hp
    exact ⟨7, (by decide), GT.out.below (E5.out)⟩)).mono ?_
  rintro e w6 ⟨b6, rfl, r6, bel6⟩
  have E6 := Aside0.mk (E5.out.trans (bel6.mono E5.out.size))
  have R6 := Aside0.mk r6
  clear r6 bel6
  go_wp2_with fail
  refine (pass74 w6 b6 _ pg 14 (by decide) (by decide) R6.out (TY.out.below (E6.out))).mono ?_
  rintro e w7 ⟨b7, rfl, r7, bel7⟩
  have E7 := Aside0.mk (E6.out.trans (bel7.mono E6.out.size))
  have R7 := Aside0.mk r7
  clear r7 bel7
  go_wp2_with fail
  refine (pass75 w7 b7 1 _ [pg] rfl (by omega) R7.out (fun p hp => by
    simp only [List.mem_cons, List.mem_nil_iff, or_false] at hp
    subst hp
    exact ⟨7, (by decide), GT.out.below (E7.out)⟩)).mono ?_
  rintro e w8 ⟨b8, rfl, r8, bel8⟩
  have E8 := Aside0.mk (E7.out.trans (bel8.mono E7.out.size))
  have R8 := Aside0.mk r8
  clear r8 bel8
  go_wp2_with fail
  refine (pass76 w8 b8 1 _ [pg] rfl (by omega) R8.out (fun p hp => by
    simp only [List.mem_cons, List.mem_nil_iff, or_false] at hp
    subst hp
    exact ⟨14, (by decide), TY.out.below (E8.out)⟩)).mono ?_
  rintro e w9 ⟨b9, rfl, r9, bel9⟩
  have E9 := Aside0.mk (E8.out.trans (bel9.mono E8.out.size))
  have R9 := Aside0.mk r9
  clear r9 bel9
  go_wp2_with fail
  refine (doc77 w9 b9 _ pg 14 (by decide) (by decide) R9.out (TY.out.below E9.out)).mono ?_
  rintro e w10 ⟨b10, pd, c10, rfl, r10, ⟨g, bb, cc, hg, hc⟩, bel10⟩
  have E10 := Aside0.mk (E9.out.trans (bel10.mono E9.out.size))
  have R10 := Aside0.mk r10
  have HG := Aside0.mk hg
  have HC := Aside0.mk hc
  clear r10 bel10 hg hc
  go_wp2_with fail
  go_ret2
  exact ⟨_, pd, _, g, bb, cc, pg, rfl, R10.out, HG.out, HC.out, ⟨q0, q1, HTW.out.below E10.out, (K0.out.below (D4.out.trans (E10.out.mono D4.out.size))), (K1.out.below (D4.out.trans (E10.out.mono D4.out.size)))⟩, B1.out.trans ((D4.out.trans (E10.out.mono D4.out.size)).mono B1.out.size)⟩

def Anchored (t0 t1 t2 : Nat) (w : World) (pg : Nat) : Prop := ∃ q q0 q1 q2, Two w pg 5 q q2 ∧ Two w q 6 q0 q1 ∧ Leaf w q0 t0 ∧ Leaf w q1 t1 ∧ Leaf w q2 t2
set_option maxHeartbeats 4000000 in
set_option maxRecDepth 100000 in
theorem anchor48 (w : World) (b c t0 t1 t2 : Nat) (ty : Int) (hty : ty = 18 ∨ ty = 19 ∨ ty = 26) (hr : RowP w b [t0, t1, t2]) (h0 : Tok w t0 13) (h1 : Tok w t1 31) (h2 : Tok w t2 ty) :
    Calls Tryd.prog 48 #[.slice (some ⟨b, 0, none⟩) 3 c] w (Grouped (Anchored t0 t1 t2) w) := by
  have H0 := Aside0.mk h0
  have H1 := Aside0.mk h1
  have H2 := Aside0.mk h2
  have N12 : ty ≠ 12 := by omega
  have N16 : ty ≠ 16 ∧ ty ≠ 17 := by omega
  have N3 : ty ≠ 3 := by omega
  have HTY := Aside0.mk hty
  have C1 := Aside0.mk (new68 w b 3 c [t0, t1, t2] rfl (by omega) hr)
  clear hr h0 h1 h2 hty
  go_enter Tryd.func48, Tryd.ntmps48
  go_wp2_with fail
  refine C1.out.mono ?_
  rintro e w1 ⟨b1, ps, rfl, hps, hr1, hl1, bel1⟩
  obtain ⟨q0, q1, q2, rfl⟩ : ∃ q0 q1 q2, ps = [q0, q1, q2] := by
    match ps, hps with
    | [a0, a1, a2], _ => exact ⟨a0, a1, a2, rfl⟩
  have l0 := (hl1 0 (by simp)).2
  have l1 := (hl1 1 (by simp)).2
  have l2 := (hl1 2 (by simp)).2
  simp only [List.getElem_cons_zero, List.getElem_cons_succ, List.getD_cons_zero, List.getD_cons_succ] at l0 l1 l2
  have K0 := Aside0.mk l0
  have A0 := Aside0.mk (type_leaf w1 q0 t0 13 l0 (H0.out.below bel1))
  have K1 := Aside0.mk l1
  have A1 := Aside0.mk (type_leaf w1 q1 t1 31 l1 (H1.out.below bel1))
  have K2 := Aside0.mk l2
  have A2 := Aside0.mk (type_leaf w1 q2 t2 ty l2 (H2.out.below bel1))
  have LA := Aside0.mk (line_leaf w1 q0 t0 13 l0 (H0.out.below bel1))
  have LC := Aside0.mk (line_leaf w1 q2 t2 ty l2 (H2.out.below bel1))
  have SC := Aside0.mk (scalar_any w1 q2 ty (by have := HTY.out; omega) (gtype_leaf w1 q2 t2 l2) A2.out)
  have B1 := Aside0.mk bel1
  have R1 := Aside0.mk hr1
  clear bel1 hr1 hl1 hps l0 l1 l2 C1
  go_wp2_with fail
  refine (pass69 w1 b1 3 _ [q0, q1, q2] rfl (by omega) R1.out (fun p hp => by
    simp only [List.mem_cons, List.mem_nil_iff, or_false] at hp
    rcases hp with rfl | rfl | rfl
    · exact ⟨13, (by decide), A0.out.below (Below.refl _ _)⟩
    · exact ⟨31, (by decide), A1.out.below (Below.refl _ _)⟩
    · exact ⟨ty, N12, A2.out.below (Below.refl _ _)⟩)).mono ?_
  rintro e w2 ⟨b2, rfl, r2, bel2⟩
  have D2 := Aside0.mk (bel2)
  have R2 := Aside0.mk r2
  clear r2 bel2
  go_wp2_with fail
  refine (pass70 w2 b2 3 _ [q0, q1, q2] rfl (by omega) R2.out (fun p hp => by
    simp only [List.mem_cons, List.mem_nil_iff, or_false] at hp
    rcases hp with rfl | rfl | rfl
    · exact ⟨13, (by decide), A0.out.below (D2.out)⟩
    · exact ⟨31, (by decide), A1.out.below (D2.out)⟩
    · exact ⟨ty, N16, A2.out.below (D2.out)⟩)).mono ?_
  rintro e w3 ⟨b3, rfl, r3, bel3⟩
  have D3 := Aside0.mk (D2.out.trans (bel3.mono D2.out.size))
  have R3 := Aside0.mk r3
  clear r3 bel3
  go_wp2_with fail
  refine (anchor71 w3 b3 _ q0 q1 q2 ty N3 R3.out (A0.out.below D3.out) (LA.out.below D3.out) (A2.out.below D3.out) (LC.out.below D3.out) (SC.out.below D3.out)).mono ?_
  rintro e w4 ⟨b4, pg, rfl, r4, ⟨q, htwo, hin⟩, bel4⟩
  have HIN := Aside0.mk hin
  have D4 := Aside0.mk (D3.out.trans (bel4.mono D3.out.size))
  have R4 := Aside0.mk r4
  have HTW := Aside0.mk htwo
  have TY := Aside0.mk (two_type htwo (two_type hin (A0.out.below D4.out)))
  have GT := Aside0.mk (two_gtype htwo)
  clear hin
  clear htwo r4 bel4
  go_wp2_with fail
  refine (pass72 w4 b4 1 _ [pg] rfl (by omega) R4.out (fun p hp => by
    simp only [List.mem_cons, List.mem_nil_iff, or_false] at hp
    subst hp
    exact ⟨13, (by decide), TY.out.below (Below.refl _ _)⟩)).mono ?_
  rintro e w5 ⟨b5, rfl, r5, bel5⟩
  have E5 := Aside0.mk (bel5)
  have R5 := Aside0.mk r5
  clear r5 bel5
  go_wp2_with fail
  refine (pass73 w5 b5 1 _ [pg] rfl (by omega) R5.out (fun p hp => by
    simp only [List.mem_cons, List.mem_nil_iff, or_false] at hp
    subst hp
    exact ⟨5, (by decide), GT.out.below (E5.out)⟩)).mono ?_
  rintro e w6 ⟨b6, rfl, r6, bel6⟩
  have E6 := Aside0.mk (E5.out.trans (bel6.mono E5.out.size))
  have R6 := Aside0.mk r6
  clear r6 bel6
  go_wp2_with fail
  refine (pass74 w6 b6 _ pg 13 (by decide) (by decide) R6.out (TY.out.below (E6.out))).mono ?_
  rintro e w7 ⟨b7, rfl, r7, bel7⟩
  have E7 := Aside0.mk (E6.out.trans (bel7.mono E6.out.size))
  have R7 := Aside0.mk r7
  clear r7 bel7
  go_wp2_with fail
  refine (pass75 w7 b7 1 _ [pg] rfl (by omega) R7.out (fun p hp => by
    simp only [List.mem_cons, List.mem_nil_iff, or_false] at hp
    subst hp
    exact ⟨5, (by decide), GT.out.below (E7.out)⟩)).mono ?_
  rintro e w8 ⟨b8, rfl, r8, bel8⟩
  have E8 := Aside0.mk (E7.out.trans (bel8.mono E7.out.size))
  have R8 := Aside0.mk r8
  clear r8 bel8
  go_wp2_with fail
  refine (pass76 w8 b8 1 _ [pg] rfl (by omega) R8.out (fun p hp => by
    simp only [List.mem_cons, List.mem_nil_iff, or_false] at hp
    subst hp
    exact ⟨13, (by decide), TY.out.below (E8.out)⟩)).mono ?_
  rintro e w9 ⟨b9, rfl, r9, bel9⟩
  have E9 := Aside0.mk (E8.out.trans (bel9.mono E8.out.size))
  have R9 := Aside0.mk r9
  clear r9 bel9
  go_wp2_with fail
  refine (doc77 w9 b9 _ pg 13 (by decide) (by decide) R9.out (TY.out.below E9.out)).mono ?_
  rintro e w10 ⟨b10, pd, c10, rfl, r10, ⟨g, bb, cc, hg, hc⟩, bel10⟩
  have E10 := Aside0.mk (E9.out.trans (bel10.mono E9.out.size))
  have R10 := Aside0.mk r10
  have HG := Aside0.mk hg
  have HC := Aside0.mk hc
  clear r10 bel10 hg hc
  go_wp2_with fail
  go_ret2
  exact ⟨_, pd, _, g, bb, cc, pg, rfl, R10.out, HG.out, HC.out, ⟨q, q0, q1, q2, HTW.out.below E10.out, HIN.out.below E10.out, (K0.out.below (D4.out.trans (E10.out.mono D4.out.size))), (K1.out.below (D4.out.trans (E10.out.mono D4.out.size))), (K2.out.below (D4.out.trans (E10.out.mono D4.out.size)))⟩, B1.out.trans ((D4.out.trans (E10.out.mono D4.out.size)).mono B1.out.size)⟩
end Go.Proofs.YtmildhkegpmacaaDoor.GroupAll
