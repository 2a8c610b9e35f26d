/- FnGroupNames: a token's place, and its index in a list. -/
import Derived.Test.YtmildhkegpmacaaDoorGroupAlias
import Derived.Deep.RegionHeld3
import Derived.Deep.DrawnRows
import Derived.Laws.Small
import Derived.LaidEqlPtr
namespace Go.Proofs.YtmildhkegpmacaaDoor.GroupTok
open Go.RowKit Go.Proofs.YtmildhkegpmacaaDoorW.PrintWords Go.Proofs.YtmildhkegpmacaaDoor.GroupBase Go.Proofs.YtmildhkegpmacaaDoor.GroupPass Go.Proofs.YtmildhkegpmacaaDoor.GroupAlias
set_option linter.unusedVariables false
set_option linter.unusedSimpArgs false
attribute [local go_sem ↓] Go.wp_at_zero Go.wp_at_succ

set_option maxRecDepth 100000 in
theorem small_any (n : Int) (h0 : 0 ≤ n) (h1 : n ≤ 200) (w : World) : Calls Tryd.prog 106 #[.int .i64 n] w fun e w' => e = .returned (.int .i64 n) ∧ w = w' := by
  have f0 : ¬ n < 0 := by omega
  have f1 : ¬ 200 < n := by omega
  go_enter Tryd.func106, Tryd.ntmps106
  go_wp2
  go_ret
  exact ⟨rfl, rfl⟩

def Posed (col off : Int) (w : World) (e : Ending) (w' : World) : Prop := ∃ q, e = .returned (.pointer (some ⟨q, 0, none⟩)) ∧ w.heap.size ≤ q ∧
  w'.heap[q]? = some (.cells #[.int .i64 1, .int .i64 col, .int .i64 off, .int .i64 0, .int .i64 0] 158 (0, 0)) ∧ Below w.heap.size w w'

set_option maxHeartbeats 2000000 in
set_option maxRecDepth 100000 in
theorem position_any (col off : Int) (h0 : 1 ≤ col) (h1 : col ≤ 200) (w : World) :
    Calls Tryd.prog 67 #[.agg #[.int .i64 1, .int .i64 col, .int .i64 off, .int .i64 0, .int .i64 0]] w (Posed col off w) := by
  have f2 : (if col < 1 then (1 : Int) else col) = col := if_neg (by omega)
  go_enter Tryd.func67, Tryd.ntmps67
  go_wp2_with fail
  go_region_held3 (fun w' => w'.cell? ⟨w.heap.size, 0, none⟩ = some (.int .i64 1) ∧ w'.cell? ⟨w.heap.size, 1, none⟩ = some (.int .i64 col) ∧ w'.cell? ⟨w.heap.size, 2, none⟩ = some (.int .i64 off) ∧
      w'.cell? ⟨w.heap.size, 3, none⟩ = some (.int .i64 0) ∧ w'.cell? ⟨w.heap.size, 4, none⟩ = some (.int .i64 0)) (go_keep)
    (first | (go_at_call 106; refine (small_any _ (by omega) (by omega) _).mono ?_; rintro e w' ⟨rfl, rfl⟩))
  all_goals
    go_wp2
    go_ret
    refine ⟨w.heap.size + 1, rfl, by omega, ?_, ?_⟩
    · exact blk_new' (w.alloc _) _ _ (size_alloc _ _)
    · exact (((Below.refl _ w).alloc (Nat.le_refl _) _).alloc (by simp) _).drew

set_option maxRecDepth 100000 in
theorem index_hit (b n c k t : Nat) (w : World) (hk : k < n) (hx : w.cell? ⟨b, k, none⟩ = some (.pointer (some ⟨t, 0, none⟩))) :
    Calls Tryd.prog 79 #[.slice (some ⟨b, 0, none⟩) n c, .pointer (some ⟨t, 0, none⟩), .int .i64 k] w fun e w' => e = .returned (.int .i64 k) ∧ w = w' := by
  obtain ⟨i112, h112⟩ : ∃ i, Tryd.prog.info? 112 = some i := Option.isSome_iff_exists.1 (by kernel_rfl)
  have hpe := fun (W : World) => run_eql_ptr_same W ⟨t, 0, none⟩ Tryd.underlying87 h112
  have f0 : (0 : Int) ≤ (k : Int) := by omega
  have f1 : (k : Int) < (n : Int) := by omega
  go_enter Tryd.func79, Tryd.ntmps79
  go_wp2
  go_ret
  exact ⟨rfl, rfl⟩
end Go.Proofs.YtmildhkegpmacaaDoor.GroupTok
