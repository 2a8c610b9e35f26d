/- FnTokenMade: the law's walk. -/
import Derived.Test.YtlkbhmmelejmjaaGreatDoorTokMake
import Derived.Test.YtlkbhmmelejmjaaGreatDoorWEqStruct
namespace Go.Proofs.YtlkbhmmelejmjaaGreatDoor.TokLaw
open Go.RowKit Go.Proofs.YtlkbhmmelejmjaaGreatDoorW.PrintWords Go.Proofs.YtlkbhmmelejmjaaGreatDoor.TokBase Go.Proofs.YtlkbhmmelejmjaaGreatDoor.TokList Go.Proofs.YtlkbhmmelejmjaaGreatDoor.TokMake
set_option linter.unusedVariables false
set_option linter.unusedSimpArgs false

theorem eqA23 (d : Nat) (w : World) (x0 y0 : Int) (x1 y1 : Int) (x2 y2 : Int) (x3 y3 : Int) (x4 y4 : Int) :
    (Op.equalIn (d + 2) 23 (.agg #[.int .i64 x0, .int .i64 x1, .int .i64 x2, .int .i64 x3, .int .i64 x4]) (.agg #[.int .i64 y0, .int .i64 y1, .int .i64 y2, .int .i64 y3, .int .i64 y4])).run Tryz.prog w = .ok (x0 == y0 && (x1 == y1 && (x2 == y2 && (x3 == y3 && (x4 == y4))))) w := by
  refine eqA_of Tryz.underlying23 (by kernel_rfl) ?_
  refine eqf_cons (by rfl) (by go_simp; rfl) (by go_simp; rfl) (by go_simp) ?_
  refine eqf_cons (by rfl) (by go_simp; rfl) (by go_simp; rfl) (by go_simp) ?_
  refine eqf_cons (by rfl) (by go_simp; rfl) (by go_simp; rfl) (by go_simp) ?_
  refine eqf_cons (by rfl) (by go_simp; rfl) (by go_simp; rfl) (by go_simp) ?_
  exact eqf_last (by rfl) (by go_simp; rfl) (by go_simp; rfl) (by go_simp)

theorem place_eql (a b c d e a' b' c' d' e' : Int) (w : World) : Sem.run Tryz.prog (binOp BinOp.eql 23 (.agg #[.int .i64 a, .int .i64 b, .int .i64 c, .int .i64 d, .int .i64 e]) (.agg #[.int .i64 a', .int .i64 b', .int .i64 c', .int .i64 d', .int .i64 e'])) w =
    .ok (.bool (a == a' && (b == b' && (c == c' && (d == d' && (e == e')))))) w := by
  simp only [binOp]
  simp [Op.equal, Op.maxDepth, eqA23 9998]

def Typeds (ch sg : Int) (w : World) (e : Ending) (w' : World) : Prop := e = .returned (.tuple #[.int .i64 ch, .int .i64 sg, .bool true]) ∧ w = w'
def TypedNo (w : World) (e : Ending) (w' : World) : Prop := e = .returned (.tuple #[.int .i64 0, .int .i64 0, .bool false]) ∧ w = w'
set_option maxRecDepth 100000 in
theorem typed_any (k ch sg : Int) (hk : Kind3 k ch sg) (h31 : k ≠ 31) (w : World) : Calls Tryz.prog 10 #[.int .i64 k] w (Typeds ch sg w) := by
  rcases hk with ⟨rfl, rfl, rfl⟩ | ⟨rfl, rfl, rfl⟩ | ⟨rfl, rfl, rfl⟩ | ⟨rfl, rfl, rfl⟩ | ⟨rfl, rfl, rfl⟩ | ⟨rfl, rfl, rfl⟩ | ⟨rfl, rfl, rfl⟩
  case inr.inr.inr.inr.inr.inr => exact absurd rfl h31
  all_goals
    go_enter Tryz.func10, Tryz.ntmps10
    go_wp2
    go_ret3
    exact ⟨rfl, rfl⟩
set_option maxRecDepth 100000 in
theorem typed_31 (w : World) : Calls Tryz.prog 10 #[.int .i64 31] w (Typeds 2 0 w) := by
  go_enter Tryz.func10, Tryz.ntmps10
  go_wp2
  go_ret3
  exact ⟨rfl, rfl⟩

def Yes (w : World) (e : Ending) (w' : World) : Prop := e = .returned (.bool true) ∧ Below w.heap.size w w'

set_option maxHeartbeats 4000000 in
set_option maxRecDepth 100000 in
theorem law_main (k ch sg : Int) (hk : Kind3 k ch sg) (v o : ByteArray) (line col : Int) (hl0 : 1 ≤ line) (hl1 : line ≤ 100) (hc0 : 1 ≤ col) (hc1 : col ≤ 100) (hv : v.size ≤ 2147483647) (ho : o.size ≤ 2147483647) (w : World) :
    Calls Tryz.prog 3 #[.int .i64 k, .string v, .string o, .int .i64 line, .int .i64 col] w (Yes w) := by
  have CM := Aside0.mk fun W => make_any k ch sg hk v o line col 0 hc0 (by omega) W
  have CT : Aside0 (∀ W, Calls Tryz.prog 10 #[.int .i64 k] W (Typeds ch sg W)) := ⟨fun W => by
    by_cases h : k = 31
    · subst h
      have : ch = 2 ∧ sg = 0 := by unfold Kind3 at hk; omega
      obtain ⟨rfl, rfl⟩ := this
      exact typed_31 W
    · exact typed_any k ch sg hk h W⟩
  have n1 : ¬ line < 1 := by omega
  have n2 : ¬ col < 1 := by omega
  have n3 : ¬ 100 < line := by omega
  have n4 : ¬ 100 < col := by omega
  have n5 : ¬ (2147483647 : Int) < (v.size : Int) := by omega
  have n6 : ¬ (2147483647 : Int) < (o.size : Int) := by omega
  have hpe := place_eql
  rcases hk with ⟨rfl, rfl, rfl⟩ | ⟨rfl, rfl, rfl⟩ | ⟨rfl, rfl, rfl⟩ | ⟨rfl, rfl, rfl⟩ | ⟨rfl, rfl, rfl⟩ | ⟨rfl, rfl, rfl⟩ | ⟨rfl, rfl, rfl⟩
  all_goals
    go_enter Tryz.func3, Tryz.ntmps3
    go_wp2_with fail
    refine (CM.out _).mono ?_
    rintro e w1 ⟨rfl, b1⟩
    have B1 := Aside0.mk b1
    have hpl := blk_below (blk_new w (.cells #[.int .i64 line, .int .i64 col, .int .i64 0, .int .i64 0, .int .i64 0] 23)) b1
    have p0 := fun o => blk_cell (blk_alloc hpl o) 0
    have p1 := fun o => blk_cell (blk_alloc hpl o) 1
    have p2 := fun o => blk_cell (blk_alloc hpl o) 2
    have p3 := fun o => blk_cell (blk_alloc hpl o) 3
    have p4 := fun o => blk_cell (blk_alloc hpl o) 4
    simp only [List.getElem?_toArray, List.getElem?_cons_succ, List.getElem?_cons_zero] at p0 p1 p2 p3 p4
    clear b1 hpl
    unfold tokAgg
    simp only [tokCells]
    go_wp2_with fail
    refine (CT.out _).mono ?_
    rintro e w2 ⟨rfl, rfl⟩
    go_wp2_with fail
    go_ret
    exact ⟨rfl, (((Below.refl _ w).alloc (Nat.le_refl _) _).trans (B1.out.mono (by simp))).alloc (by have := B1.out.size; simp at this; omega) _⟩

set_option maxHeartbeats 2000000 in
set_option maxRecDepth 100000 in
theorem law_any (k : Int) (v o : ByteArray) (line col : Int) (w : World) :
    Calls Tryz.prog 3 #[.int .i64 k, .string v, .string o, .int .i64 line, .int .i64 col] w (Yes w) := by
  by_cases hv : 2147483647 < v.size
  · go_enter Tryz.func3, Tryz.ntmps3
    go_wp2_with fail
    go_ret
    exact ⟨rfl, Below.refl _ _⟩
  by_cases ho : 2147483647 < o.size
  · go_enter Tryz.func3, Tryz.ntmps3
    go_wp2_with fail
    go_ret
    exact ⟨rfl, Below.refl _ _⟩
  by_cases hk : k = 12 ∨ k = 15 ∨ k = 16 ∨ k = 17 ∨ k = 18 ∨ k = 19 ∨ k = 31
  · by_cases hr : 1 ≤ line ∧ 1 ≤ col ∧ line ≤ 100 ∧ col ≤ 100
    · obtain ⟨a, b, c, d⟩ := hr
      have hK : ∃ ch sg, Kind3 k ch sg := by
        rcases hk with rfl | rfl | rfl | rfl | rfl | rfl | rfl
        · exact ⟨0, 3, .inl ⟨rfl, rfl, rfl⟩⟩
        · exact ⟨0, 4, .inr (.inl ⟨rfl, rfl, rfl⟩)⟩
        · exact ⟨0, 5, .inr (.inr (.inl ⟨rfl, rfl, rfl⟩))⟩
        · exact ⟨0, 5, .inr (.inr (.inr (.inl ⟨rfl, rfl, rfl⟩)))⟩
        · exact ⟨0, 6, .inr (.inr (.inr (.inr (.inl ⟨rfl, rfl, rfl⟩))))⟩
        · exact ⟨0, 6, .inr (.inr (.inr (.inr (.inr (.inl ⟨rfl, rfl, rfl⟩)))))⟩
        · exact ⟨2, 0, .inr (.inr (.inr (.inr (.inr (.inr ⟨rfl, rfl, rfl⟩)))))⟩
      obtain ⟨ch, sg, hK⟩ := hK
      exact law_main k ch sg hK v o line col a c b d (by omega) (by omega) w
    · have n5 : ¬ (2147483647 : Int) < (v.size : Int) := by omega
      have n6 : ¬ (2147483647 : Int) < (o.size : Int) := by omega
      have hr' : line < 1 ∨ (¬ line < 1 ∧ col < 1) ∨ (¬ line < 1 ∧ ¬ col < 1 ∧ 100 < line) ∨ (¬ line < 1 ∧ ¬ col < 1 ∧ ¬ 100 < line ∧ 100 < col) := by omega
      clear hr
      rcases hk with rfl | rfl | rfl | rfl | rfl | rfl | rfl
      all_goals rcases hr' with a | ⟨a, b⟩ | ⟨a, b, c⟩ | ⟨a, b, c, d⟩
      all_goals
        go_enter Tryz.func3, Tryz.ntmps3
        go_wp2_with fail
        go_ret
        exact ⟨rfl, Below.refl _ _⟩
  · have n5 : ¬ (2147483647 : Int) < (v.size : Int) := by omega
    have n6 : ¬ (2147483647 : Int) < (o.size : Int) := by omega
    have k0 : (k == 12) = false := beq_eq_false_iff_ne.mpr (by omega)
    have k1 : (k == 15) = false := beq_eq_false_iff_ne.mpr (by omega)
    have k2 : (k == 16) = false := beq_eq_false_iff_ne.mpr (by omega)
    have k3 : (k == 17) = false := beq_eq_false_iff_ne.mpr (by omega)
    have k4 : (k == 18) = false := beq_eq_false_iff_ne.mpr (by omega)
    have k5 : (k == 19) = false := beq_eq_false_iff_ne.mpr (by omega)
    have k6 : (k == 31) = false := beq_eq_false_iff_ne.mpr (by omega)
    clear hk
    go_enter Tryz.func3, Tryz.ntmps3
    go_wp2_with fail
    go_ret
    exact ⟨rfl, Below.refl _ _⟩
end Go.Proofs.YtlkbhmmelejmjaaGreatDoor.TokLaw
