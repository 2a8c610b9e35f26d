/- FnTokenAdded: tokens in memory, rows of tokens as data; zzFits2; the index of a token in a list. -/
import Derived.Test.YtlkbhmmelejmjaaGreatDoorTokMake
import Derived.LaidEqlPtr
namespace Go.Proofs.YtlkbhmmelejmjaaGreatDoor.AddBase
open Go.RowKit Go.Proofs.YtlkbhmmelejmjaaGreatDoorW.PrintWords Go.Proofs.YtlkbhmmelejmjaaGreatDoor.TokBase Go.Proofs.YtlkbhmmelejmjaaGreatDoor.TokList Go.Proofs.YtlkbhmmelejmjaaGreatDoor.TokMake
set_option linter.unusedVariables false
set_option linter.unusedSimpArgs false
attribute [local go_sem ↓] Go.wp_at_zero Go.wp_at_succ

/-- What is read of the law's argument. -/
def Reads (w : World) (A : Option Addr) (n : Nat) (vs : Nat → ByteArray) : Prop := ∀ i, i < n → ∃ ad, A = some ad ∧ w.cell? (ad.add i) = some (.string (vs i))
theorem Reads.below {w w1 : World} {A : Option Addr} {n : Nat} {vs : Nat → ByteArray} (h : Reads w A n vs) (hb : Below w.heap.size w w1) : Reads w1 A n vs := fun i hi => by
  obtain ⟨ad, h1, h2⟩ := h i hi
  exact ⟨ad, h1, pw_cell_below hb h2⟩

def SomeB (w : World) (e : Ending) (w' : World) : Prop := ∃ b, e = .returned (.bool b) ∧ w = w'

set_option maxRecDepth 100000 in
theorem fits_any (A : Option Addr) (n c : Nat) (vs : Nat → ByteArray) (w : World) (hn : n ≤ 140737488355328) (hx : Reads w A n vs) : Calls Tryz.prog 11 #[.slice A n c] w (SomeB w) := by
  have HX := Aside0.mk hx
  clear hx
  by_cases h0 : 2147483647 < n
  · have h0' : (2147483647 : Int) < (n : Int) := by omega
    go_enter Tryz.func11, Tryz.ntmps11
    go_wp2_with fail
    go_ret
    exact ⟨false, rfl, rfl⟩
  · have h0' : ¬ (2147483647 : Int) < (n : Int) := by omega
    go_enter Tryz.func11, Tryz.ntmps11
    go_wp2_with fail
    go_loop [10] (fun si => ∃ i : Nat, i ≤ n ∧ si = .int .i64 i) (fun si => n - (intOf si).toNat)
    case atStart => exact ⟨0, Nat.zero_le _, rfl⟩
    case round =>
      obtain ⟨i, hi, rfl⟩ := hrel
      by_cases hlt : i < n
      · obtain ⟨ad, hA, hc⟩ := HX.out i hlt
        subst hA
        by_cases hv : 2147483647 < (vs i).size
        · have hv' : (2147483647 : Int) < ((vs i).size : Int) := by omega
          go_wp2_with fail
          go_ret
          exact ⟨false, rfl, rfl⟩
        · have hv' : ¬ (2147483647 : Int) < ((vs i).size : Int) := by omega
          go_wp2_with fail
          go_round
          case rel => exact ⟨i + 1, by omega, by go_num⟩
          case measure => simp [intOf]; omega
      · go_wp2_with fail
        go_ret
        exact ⟨true, rfl, rfl⟩

/-- A token of the law in memory, with what stands beside it. -/
def TokN (w : World) (t : Nat) (v : ByteArray) (i : Nat) (nx pv : Value) : Prop := ∃ q, w.heap[t]? = some (.cells #[.int .i64 31, .int .i64 2, .int .i64 0, .string v, .string v, .string ⟨#[]⟩, .pointer (some ⟨q, 0, none⟩), nx, pv] 58 (0, 0)) ∧ Pos w q 1 ((i : Int) + 1) 0
theorem TokN.below {w w1 : World} {t : Nat} {v : ByteArray} {i : Nat} {nx pv : Value} (h : TokN w t v i nx pv) (hb : Below w.heap.size w w1) : TokN w1 t v i nx pv := by
  obtain ⟨q, h1, h2⟩ := h
  exact ⟨q, blk_below h1 hb, blk_below h2 hb⟩
theorem TokN.lt {w : World} {t : Nat} {v : ByteArray} {i : Nat} {nx pv : Value} (h : TokN w t v i nx pv) : t < w.heap.size := by
  obtain ⟨q, h1, h2⟩ := h
  exact blk_lt h1

/-- A block of another type stays when a token's cell is written. -/
theorem pos_ne {w : World} {t q : Nat} {cs : Array Value} {l c o : Int} (h : w.heap[t]? = some (.cells cs 58 (0, 0))) (hq : Pos w q l c o) : q ≠ t := fun e => by
  subst e; unfold Pos at hq; rw [h] at hq; injection hq with hq; injection hq with _ hq; cases hq
theorem TokN.set8 {w : World} {t : Nat} {v : ByteArray} {i : Nat} {nx pv : Value} (h : TokN w t v i nx pv) (u : Value) : TokN (w.setCell ⟨t, 8, none⟩ u) t v i nx u := by
  obtain ⟨q, h1, h2⟩ := h
  refine ⟨q, ?_, blk_far h2 (pos_ne h1 h2) u⟩
  have := blk_set h1 8 u
  simpa using this
theorem TokN.set7 {w : World} {t : Nat} {v : ByteArray} {i : Nat} {nx pv : Value} (h : TokN w t v i nx pv) (u : Value) : TokN (w.setCell ⟨t, 7, none⟩ u) t v i u pv := by
  obtain ⟨q, h1, h2⟩ := h
  refine ⟨q, ?_, blk_far h2 (pos_ne h1 h2) u⟩
  have := blk_set h1 7 u
  simpa using this
theorem TokN.other {w : World} {t t' : Nat} {v v' : ByteArray} {i i' : Nat} {nx pv nx' pv' : Value} (h : TokN w t v i nx pv) (h' : TokN w t' v' i' nx' pv') (hne : t ≠ t') (k : Nat) (u : Value) : TokN (w.setCell ⟨t', k, none⟩ u) t v i nx pv := by
  obtain ⟨q, h1, h2⟩ := h
  obtain ⟨q', h1', h2'⟩ := h'
  exact ⟨q, blk_far h1 hne u, blk_far h2 (pos_ne h1' h2) u⟩

/-- Rows of tokens as data: token i of n is 'f i', thirteen cells. -/
def Cells13 (f : Nat → List Value) (n : Nat) (cs : List Value) : Prop := cs.length = n * 13 ∧ ∀ i, i < n → ∀ j, j < 13 → cs[i * 13 + j]? = (f i)[j]?
theorem Cells13.nil (f : Nat → List Value) : Cells13 f 0 [] := ⟨rfl, fun i hi => absurd hi (Nat.not_lt_zero _)⟩
theorem Cells13.snoc {f : Nat → List Value} {n : Nat} {cs xs : List Value} (h : Cells13 f n cs) (hx : xs = f n) (hl : xs.length = 13) : Cells13 f (n + 1) (cs ++ xs) := by
  obtain ⟨h1, h2⟩ := h
  refine ⟨by rw [List.length_append, h1, hl]; omega, fun i hi j hj => ?_⟩
  by_cases hlt : i < n
  · rw [List.getElem?_append_left (by omega), h2 i hlt j hj]
  · obtain rfl : i = n := by omega
    rw [List.getElem?_append_right (by omega), h1, Nat.add_sub_cancel_left, hx]
/-- Token i of the law's list. -/
def ltok (vs : Nat → ByteArray) (pv nx : Nat → Int) (i : Nat) : List Value := tokCells 31 2 0 (vs i) (vs i) 1 ((i : Int) + 1) 0 (pv i) (nx i)
/-- The row in memory. -/
def RowT (w : World) (A : Option Addr) (n : Nat) (f : Nat → List Value) : Prop := ∀ i, i < n → ∃ g, A = some ⟨g, 0, none⟩ ∧ ∀ j, j < 13 → w.cell? ⟨g, i * 13 + j, none⟩ = (f i)[j]?
theorem RowT.of {w : World} {base : Nat} {n : Nat} {v : Value} {cs : List Value} {f : Nat → List Value} (h : w.ownsRow base 25 13 v n cs) (hc : Cells13 f n cs) : ∃ A cap, v = .slice A n cap ∧ RowT w A n f := by
  rcases h.2 with ⟨hv, h0⟩ | ⟨g, cap, cur, hv, hg⟩
  · subst h0
    exact ⟨none, 0, hv, fun i hi => absurd hi (Nat.not_lt_zero _)⟩
  · subst hv
    exact ⟨some ⟨g, 0, none⟩, cap, rfl, fun i hi => ⟨g, rfl, fun j hj => by rw [own_cells h _ (by omega), hc.2 i hi j hj]⟩⟩
theorem tok_len (vs : Nat → ByteArray) (pv nx : Nat → Int) (i : Nat) : (ltok vs pv nx i).length = 13 := rfl
theorem RowT.below {w w1 : World} {A : Option Addr} {n : Nat} {vs : Nat → ByteArray} {pv nx : Nat → Int} (h : RowT w A n (ltok vs pv nx)) (hb : Below w.heap.size w w1) : RowT w1 A n (ltok vs pv nx) := fun i hi => by
  obtain ⟨g, h1, h2⟩ := h i hi
  refine ⟨g, h1, fun j hj => ?_⟩
  have hj' : j < (ltok vs pv nx i).length := by rw [tok_len]; exact hj
  have := h2 j hj
  rw [List.getElem?_eq_getElem hj'] at this
  rw [pw_cell_below hb this, List.getElem?_eq_getElem hj']
theorem RowT.cells {w : World} {g n : Nat} {A : Option Addr} {vs : Nat → ByteArray} {pv nx : Nat → Int} (h : RowT w A n (ltok vs pv nx)) (hA : A = some ⟨g, 0, none⟩) (i : Nat) (hi : i < n) :
    w.cell? ⟨g, i * 13, none⟩ = some (.int .i64 31) ∧ w.cell? ⟨g, i * 13 + 1, none⟩ = some (.int .i64 2) ∧ w.cell? ⟨g, i * 13 + 2, none⟩ = some (.int .i64 0) ∧ w.cell? ⟨g, i * 13 + 3, none⟩ = some (.string (vs i)) ∧ w.cell? ⟨g, i * 13 + 4, none⟩ = some (.string (vs i)) ∧ w.cell? ⟨g, i * 13 + 5, none⟩ = some (.string ⟨#[]⟩) ∧ w.cell? ⟨g, i * 13 + 6, none⟩ = some (.int .i64 1) ∧ w.cell? ⟨g, i * 13 + 7, none⟩ = some (.int .i64 ((i : Int) + 1)) ∧ w.cell? ⟨g, i * 13 + 8, none⟩ = some (.int .i64 0) ∧ w.cell? ⟨g, i * 13 + 9, none⟩ = some (.int .i64 0) ∧ w.cell? ⟨g, i * 13 + 10, none⟩ = some (.int .i64 0) ∧ w.cell? ⟨g, i * 13 + 11, none⟩ = some (.int .i64 (pv i)) ∧ w.cell? ⟨g, i * 13 + 12, none⟩ = some (.int .i64 (nx i)) := by
  obtain ⟨g', hg, hx⟩ := h i hi
  rw [hA] at hg
  obtain rfl : g' = g := by injection hg with hg; injection hg with hg; exact hg.symm
  exact ⟨hx 0 (by omega), hx 1 (by omega), hx 2 (by omega), hx 3 (by omega), hx 4 (by omega), hx 5 (by omega), hx 6 (by omega), hx 7 (by omega), hx 8 (by omega), hx 9 (by omega), hx 10 (by omega), hx 11 (by omega), hx 12 (by omega)⟩

set_option maxRecDepth 100000 in
theorem index_hit (b n c k t : Nat) (a : Int) (ha : a = (k : Int)) (w : World) (hk : k < n) (hx : w.cell? ⟨b, k, none⟩ = some (.pointer (some ⟨t, 0, none⟩))) :
    Calls Tryz.prog 74 #[.slice (some ⟨b, 0, none⟩) n c, .pointer (some ⟨t, 0, none⟩), .int .i64 a] w fun e w' => e = .returned (.int .i64 a) ∧ w = w' := by
  subst ha
  obtain ⟨i58, h58⟩ : ∃ i, Tryz.prog.info? 58 = some i := Option.isSome_iff_exists.1 (by kernel_rfl)
  have hpe := fun (W : World) => run_eql_ptr_same W ⟨t, 0, none⟩ Tryz.underlying46 h58
  have f0 : (0 : Int) ≤ (k : Int) := by omega
  have f1 : (k : Int) < (n : Int) := by omega
  go_enter Tryz.func74, Tryz.ntmps74
  go_wp2
  go_ret
  exact ⟨rfl, rfl⟩
end Go.Proofs.YtlkbhmmelejmjaaGreatDoor.AddBase
