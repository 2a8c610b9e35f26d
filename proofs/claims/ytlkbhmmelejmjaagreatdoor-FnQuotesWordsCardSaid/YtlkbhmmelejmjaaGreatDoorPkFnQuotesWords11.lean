/- Parts of the proof of FnQuotesWords, one behind the other: AsWalk, AsRest, AsIs, AsFis, QKnow, QBare. Each part says ahead of itself what it proves. -/
import Derived.Test.YtlkbhmmelejmjaaGreatDoorPkFnQuotesWords10
import Derived.Test.YtlkbhmmelejmjaaGreatDoorPkFnQuotesWords8
import Derived.BigQuiet
import Derived.Test.YtlkbhmmelejmjaaGreatDoorPkFnQuotesWords9
import Derived.Test.YtlkbhmmelejmjaaGreatDoorPkFnQuotesWords1

/- AsNumber. -/
namespace Go.Proofs.YtlkbhmmelejmjaaGreatDoor.AsWalk
open Go.RowKit Go.Proofs.YtlkbhmmelejmjaaGreatDoorW.PrintWords Go.Proofs.YtlkbhmmelejmjaaGreatDoor.AsNum Go.Proofs.YtlkbhmmelejmjaaGreatDoor.AsDig Go.Proofs.YtlkbhmmelejmjaaGreatDoor.AsFlo Go.Proofs.YtlkbhmmelejmjaaGreatDoor.NumErr Go.Proofs.YtlkbhmmelejmjaaGreatDoor.FltAtof Go.Proofs.YtlkbhmmelejmjaaGreatDoor.FltParse
set_option linter.unusedVariables false
set_option linter.unusedSimpArgs false
attribute [local go_sem ↓] Go.wp_at_zero Go.wp_at_succ
theorem run_store_float {P : Program} {a : Addr} {m : Mode} {w : World} (k : FloatKind) (x : Nat) : (store a (.float k x) m).run P w = stored P w a (.float k x) m := run_store P w a _ m rfl
attribute [local go_sem] run_store_float
theorem unary_negf (k : FloatKind) (x : Nat) : Op.unary .neg (.float k x) = pure (.float k (Op.negFloat k x)) := rfl
attribute [local go_sem] unary_negf

/-- A number of the specification's. -/
def nbV (k b : Int) (m : Bool) (z : Int) (x : Nat) : Value := .agg #[.int .i64 k, .int .i64 b, .bool m, .int .u64 z, .float .f64 x]
def nb0 : Obj := .cells #[.int .i64 0, .int .i64 0, .bool false, .int .u64 0, .float .f64 0] 44 (0, 0)
def set5 (w : World) (B : Nat) (k b : Int) (m : Bool) (z : Int) (x : Nat) : World := World.setCell (World.setCell (World.setCell (World.setCell (World.setCell w ⟨B, 0, none⟩ (.int .i64 k)) ⟨B, 1, none⟩ (.int .i64 b)) ⟨B, 2, none⟩ (.bool m)) ⟨B, 3, none⟩ (.int .u64 z)) ⟨B, 4, none⟩ (.float .f64 x)
theorem set5_blk (w : World) (B : Nat) (k b : Int) (m : Bool) (z : Int) (x : Nat) (h : w.heap[B]? = some nb0) : (set5 w B k b m z x).heap[B]? = some (.cells #[.int .i64 k, .int .i64 b, .bool m, .int .u64 z, .float .f64 x] 44 (0, 0)) := by
  have h' := (blk_set (blk_set (blk_set (blk_set (blk_set h 0 (.int .i64 k)) 1 (.int .i64 b)) 2 (.bool m)) 3 (.int .u64 z)) 4 (.float .f64 x))
  unfold set5
  rw [h']
  simp only [List.setIfInBounds_toArray, List.set_cons_zero, List.set_cons_succ]
theorem set5_below (w0 w : World) (p B : Nat) (k b : Int) (m : Bool) (z : Int) (x : Nat) (h : Below p w0 w) (hb : p ≤ B) : Below p w0 (set5 w B k b m z x) := (Below.setCell (Below.setCell (Below.setCell (Below.setCell (Below.setCell h hb _) hb _) hb _) hb _) hb _)
/-- What stores into such a block ask. -/
theorem nb_facts {w : World} {B : Nat} (h : w.heap[B]? = some nb0) : (w.cell? ⟨B, 0, none⟩ = some (.int .i64 0) ∧ w.cell? ⟨B, 1, none⟩ = some (.int .i64 0) ∧ w.cell? ⟨B, 2, none⟩ = some (.bool false) ∧ w.cell? ⟨B, 3, none⟩ = some (.int .u64 0) ∧ w.cell? ⟨B, 4, none⟩ = some (.float .f64 0)) := by
  have z0 := blk_cell h 0
  have z1 := blk_cell h 1
  have z2 := blk_cell h 2
  have z3 := blk_cell h 3
  have z4 := blk_cell h 4
  simp only [List.getElem?_toArray, List.getElem?_cons_succ, List.getElem?_cons_zero] at z0 z1 z2 z3 z4
  exact ⟨z0, z1, z2, z3, z4⟩
def AsO (w : World) (e : Ending) (w' : World) : Prop := Below w.heap.size w w' ∧ e = .returned (nbV 0 0 false 0 0)
/-- A sign, or none, ahead. -/
def SgT (mi : Bool) (S T : List UInt8) : Prop := (mi = false ∧ S = T) ∨ ∃ c, S = c :: T ∧ ((mi = true ∧ c.toNat = 45) ∨ (mi = false ∧ c.toNat = 43))
/-- What AsNumber tells of a text. -/
def AsF (H O X : Nat → Nat) (s : ByteArray) (k b : Int) (mi : Bool) (z : Int) (x : Nat) : Prop :=
  k = 0 ∨
  (k = 1 ∧ (b = 8 ∨ b = 16) ∧ mi = false ∧ ∃ c d r, s.data.toList = c :: d :: r ∧ c.toNat = 48 ∧ ((b = 8 ∧ d.toNat = 111) ∨ (b = 16 ∧ d.toNat = 120)) ∧ r ≠ [] ∧ digF b r 0 = some z) ∨
  (k = 1 ∧ b = 10 ∧ ∃ T : List UInt8, SgT mi s.data.toList T ∧ Dg T ∧ T ≠ [] ∧ (T.length = 1 ∨ ∀ y r, T = y :: r → y.toNat ≠ 48) ∧ digF 10 T 0 = some z ∧ (mi = true → z ≤ 9223372036854775808)) ∨
  (k = 2 ∧ b = 10 ∧ z = 0 ∧ ∃ t : ByteArray, SgT mi s.data.toList t.data.toList ∧ FloG t.data.toList ∧ (parF H O X t).2 = 0 ∧ x = if mi then Op.negFloat .f64 (parF H O X t).1 else (parF H O X t).1)
def AsP (H O X : Nat → Nat) (s : ByteArray) (w : World) (e : Ending) (w' : World) : Prop := Below w.heap.size w w' ∧ ∃ k b mi z x, e = .returned (nbV k b mi z x) ∧ AsF H O X s k b mi z x ∧ (k ≠ 0 → s.size ≤ 100 ∧ 0 ≤ z ∧ z ≤ 18446744073709551615)
theorem as_zero {H O X : Nat → Nat} {s : ByteArray} {w : World} {e : Ending} {w' : World} (h : AsO w e w') : AsP H O X s w e w' := ⟨h.1, 0, 0, false, 0, 0, h.2, .inl rfl, fun h => absurd rfl h⟩
theorem dg_no {L : List UInt8} (h : Dg L) : ∀ c ∈ L, c.toNat ≠ 95 := fun c hc => by have := h c hc; omega
theorem flo_no {L : List UInt8} (h : FloG L) : ∀ c ∈ L, c.toNat ≠ 95 := by
  obtain ⟨V, ⟨a, p, b, rfl, hp, ha, _, _, hb, _⟩, hV⟩ := h
  intro c hc
  simp only [List.mem_append, List.mem_cons] at hc
  rcases hc with hc | rfl | hc | hc
  · exact dg_no ha c hc
  · omega
  · exact dg_no hb c hc
  · rcases hV with rfl | ⟨c1, r, q, rfl, h1, h2, hq, _, _⟩
    · cases hc
    · rcases List.mem_cons.1 hc with rfl | hc
      · omega
      · rcases h2 with rfl | ⟨g, hg, rfl⟩
        · exact dg_no hq c hc
        · rcases List.mem_cons.1 hc with rfl | hc
          · omega
          · exact dg_no hq c hc
theorem two_is {s : ByteArray} {a b : Int} (h : 2 < s.size) (h0 : ∀ h, ((s[0]'h).toNat : Int) = a) (h1 : ∀ h, ((s[1]'h).toNat : Int) = b) : ∃ c d r, s.data.toList = c :: d :: r ∧ (c.toNat : Int) = a ∧ (d.toNat : Int) = b ∧ (s.extract 2 s.size).data.toList = r ∧ r ≠ [] := by
  have hl := Lib.size_eq s
  match hs : s.data.toList with
  | [] => rw [hs] at hl; have h0 : ([] : List UInt8).length = 0 := rfl; omega
  | [x] => rw [hs] at hl; have h0 : [x].length = 1 := rfl; omega
  | [x, y] => rw [hs] at hl; have h0 : [x, y].length = 2 := rfl; omega
  | x :: y :: z :: r =>
    refine ⟨x, y, z :: r, rfl, ?_, ?_, by rw [ext_from, hs]; rfl, by simp⟩
    · have := h0 (by omega)
      have e : s[0]'(by omega) = s.data.toList[0]'(by rw [← hl]; omega) := rfl
      rw [e] at this
      simp only [hs] at this
      exact this
    · have := h1 (by omega)
      have e : s[1]'(by omega) = s.data.toList[1]'(by rw [← hl]; omega) := rfl
      rw [e] at this
      simp only [hs] at this
      exact this

set_option maxHeartbeats 1000000 in
set_option maxRecDepth 100000 in
theorem as_long (s : ByteArray) (hs : 100 < s.size) (w : World) : Calls Tryz.prog 20 #[.string s] w (AsO w) := by
  have d0 : decide ((100 : Int) < (s.size : Int)) = true := decide_eq_true (by omega)
  go_enter Tryz.func20, Tryz.ntmps20
  go_upto_region 1 with (fail)
  generalize hW : w.alloc _ = W
  have hz : W.heap[w.heap.size]? = some nb0 := by rw [← hW]; exact blk_new w _
  have hB : Below w.heap.size w W := by rw [← hW]; exact (Below.refl _ _).alloc (Nat.le_refl _) _
  obtain ⟨z0, z1, z2, z3, z4⟩ := nb_facts hz
  have f0 := blk_frozen hz 0
  have f1 := blk_frozen hz 1
  have f2 := blk_frozen hz 2
  have f3 := blk_frozen hz 3
  have f4 := blk_frozen hz 4
  have HZ := Aside0.mk hz
  have HB := Aside0.mk hB
  clear hz hB hW
  go_wp2_with fail
  exact bodyPost_ret (results_single rfl (.cell w.heap.size 44 _ (0, 0) _ rfl (set5_blk W w.heap.size 0 0 false 0 0 HZ.out) Tryz.underlying44 rfl (by kernel_rfl) .nil)) rfl (And.intro (set5_below w W w.heap.size w.heap.size 0 0 false 0 0 HB.out (Nat.le_refl _)) rfl)

set_option maxHeartbeats 1000000 in
set_option maxRecDepth 100000 in
theorem as_based (H O X : Nat → Nat) (s : ByteArray) (hs : s.size ≤ 100) (h2 : 2 < s.size) (c : Int) (h0 : ∀ h, ((s[0]'h).toNat : Int) = 48) (h1 : ∀ h, ((s[1]'h).toNat : Int) = c) (hc : c = 111 ∨ c = 120) (w : World) : Calls Tryz.prog 20 #[.string s] w (AsP H O X s w) := by
  have d0 : decide ((100 : Int) < (s.size : Int)) = false := decide_eq_false (by omega)
  have d2 : decide ((2 : Int) < (s.size : Int)) = true := decide_eq_true (by omega)
  have l2 : 2 ≤ s.size := by omega
  have l1 : 1 < s.size := by omega
  have l0 : 0 < s.size := by omega
  have CD := Aside0.mk dig_walk
  have HT := Aside0.mk (two_is h2 h0 h1)
  clear h2
  obtain ⟨U, hU⟩ : ∃ U, U = s.extract 2 s.size := ⟨_, rfl⟩
  have hus : U.size ≤ 140737488351232 := by rw [hU, ByteArray.size_extract]; omega
  have HU := Aside0.mk hU
  clear hU
  rcases hc with rfl | rfl
  · go_enter Tryz.func20, Tryz.ntmps20
    go_upto_region 1 with (fail)
    generalize hW : w.alloc _ = W
    have hz : W.heap[w.heap.size]? = some nb0 := by rw [← hW]; exact blk_new w _
    have hB : Below w.heap.size w W := by rw [← hW]; exact (Below.refl _ _).alloc (Nat.le_refl _) _
    clear hW
    have HZ := Aside0.mk hz
    have HB := Aside0.mk hB
    clear hz hB
    go_wp2_with fail
    rw [← HU.out]
    refine (CD.out _ (by omega) (by omega) U hus _).mono ?_
    rintro e w1 ⟨b1, n, ok, rfl, hok⟩
    have hz := blk_below HZ.out b1
    have hB := HB.out.trans (b1.mono HB.out.size)
    obtain ⟨z0, z1, z2, z3, z4⟩ := nb_facts hz
    have f0 := blk_frozen hz 0
    have f1 := blk_frozen hz 1
    have f2 := blk_frozen hz 2
    have f3 := blk_frozen hz 3
    have f4 := blk_frozen hz 4
    have HZ1 := Aside0.mk hz
    have HB1 := Aside0.mk hB
    have HOK := Aside0.mk hok
    clear hz hB b1 hok
    cases ok
    case false =>
      go_wp2_with fail
      exact bodyPost_ret (results_single rfl (.cell w.heap.size 44 _ (0, 0) _ rfl (set5_blk w1 w.heap.size 0 0 false 0 0 HZ1.out) Tryz.underlying44 rfl (by kernel_rfl) .nil)) rfl (as_zero ⟨set5_below w w1 w.heap.size w.heap.size 0 0 false 0 0 HB1.out (Nat.le_refl _), rfl⟩)
    case true =>
      go_wp2_with fail
      obtain ⟨e1, e2, e3, e4⟩ := HOK.out (by first | rfl | trivial)
      obtain ⟨c, d, r, g1, g2, g3, g4, g5⟩ := HT.out
      rw [← HU.out] at g4
      rw [g4] at e4
      exact bodyPost_ret (results_single rfl (.cell w.heap.size 44 _ (0, 0) _ rfl (set5_blk w1 w.heap.size 1 8 false n 0 HZ1.out) Tryz.underlying44 rfl (by kernel_rfl) .nil)) rfl ⟨set5_below w w1 w.heap.size w.heap.size 1 8 false n 0 HB1.out (Nat.le_refl _), 1, 8, false, n, 0, rfl, .inr (.inl ⟨rfl, .inl rfl, rfl, c, d, r, g1, by omega, .inl ⟨rfl, by omega⟩, g5, e4⟩), fun _ => ⟨hs, e2, e3⟩⟩
  · go_enter Tryz.func20, Tryz.ntmps20
    go_upto_region 1 with (fail)
    generalize hW : w.alloc _ = W
    have hz : W.heap[w.heap.size]? = some nb0 := by rw [← hW]; exact blk_new w _
    have hB : Below w.heap.size w W := by rw [← hW]; exact (Below.refl _ _).alloc (Nat.le_refl _) _
    clear hW
    have HZ := Aside0.mk hz
    have HB := Aside0.mk hB
    clear hz hB
    go_wp2_with fail
    rw [← HU.out]
    refine (CD.out _ (by omega) (by omega) U hus _).mono ?_
    rintro e w1 ⟨b1, n, ok, rfl, hok⟩
    have hz := blk_below HZ.out b1
    have hB := HB.out.trans (b1.mono HB.out.size)
    obtain ⟨z0, z1, z2, z3, z4⟩ := nb_facts hz
    have f0 := blk_frozen hz 0
    have f1 := blk_frozen hz 1
    have f2 := blk_frozen hz 2
    have f3 := blk_frozen hz 3
    have f4 := blk_frozen hz 4
    have HZ1 := Aside0.mk hz
    have HB1 := Aside0.mk hB
    have HOK := Aside0.mk hok
    clear hz hB b1 hok
    cases ok
    case false =>
      go_wp2_with fail
      exact bodyPost_ret (results_single rfl (.cell w.heap.size 44 _ (0, 0) _ rfl (set5_blk w1 w.heap.size 0 0 false 0 0 HZ1.out) Tryz.underlying44 rfl (by kernel_rfl) .nil)) rfl (as_zero ⟨set5_below w w1 w.heap.size w.heap.size 0 0 false 0 0 HB1.out (Nat.le_refl _), rfl⟩)
    case true =>
      go_wp2_with fail
      obtain ⟨e1, e2, e3, e4⟩ := HOK.out (by first | rfl | trivial)
      obtain ⟨c, d, r, g1, g2, g3, g4, g5⟩ := HT.out
      rw [← HU.out] at g4
      rw [g4] at e4
      exact bodyPost_ret (results_single rfl (.cell w.heap.size 44 _ (0, 0) _ rfl (set5_blk w1 w.heap.size 1 16 false n 0 HZ1.out) Tryz.underlying44 rfl (by kernel_rfl) .nil)) rfl ⟨set5_below w w1 w.heap.size w.heap.size 1 16 false n 0 HB1.out (Nat.le_refl _), 1, 16, false, n, 0, rfl, .inr (.inl ⟨rfl, .inr rfl, rfl, c, d, r, g1, by omega, .inr ⟨rfl, by omega⟩, g5, e4⟩), fun _ => ⟨hs, e2, e3⟩⟩
end Go.Proofs.YtlkbhmmelejmjaaGreatDoor.AsWalk

/- AsNumber, at texts that are of base 10 or floats. -/
namespace Go.Proofs.YtlkbhmmelejmjaaGreatDoor.AsRest
open Go.RowKit Go.Proofs.YtlkbhmmelejmjaaGreatDoorW.PrintWords Go.Proofs.YtlkbhmmelejmjaaGreatDoor.AsNum Go.Proofs.YtlkbhmmelejmjaaGreatDoor.AsDig Go.Proofs.YtlkbhmmelejmjaaGreatDoor.AsFlo Go.Proofs.YtlkbhmmelejmjaaGreatDoor.AsWalk Go.Proofs.YtlkbhmmelejmjaaGreatDoor.NumErr Go.Proofs.YtlkbhmmelejmjaaGreatDoor.FltAtof Go.Proofs.YtlkbhmmelejmjaaGreatDoor.FltParse
set_option linter.unusedVariables false
set_option linter.unusedSimpArgs false
attribute [local go_sem ↓] Go.wp_at_zero Go.wp_at_succ
attribute [local go_sem] run_store_float unary_negf

set_option maxHeartbeats 1000000 in
set_option maxRecDepth 100000 in
theorem as_rest (B : Nat) (H O X : Nat → Nat) (EV : Nat → Value) (s : ByteArray) (hs : s.size ≤ 100) (c0 c1 : Int) (h0 : ∀ h, ((s[0]'h).toNat : Int) = c0) (h1 : ∀ h, ((s[1]'h).toNat : Int) = c1) (hn : ¬ (2 < s.size ∧ c0 = 48 ∧ (c1 = 111 ∨ c1 = 120))) (w : World) (hB : B ≤ w.heap.size) (hT : Tabs B H O X w) (hE : Errs B EV w) : Calls Tryz.prog 20 #[.string s] w (AsP H O X s w) := by
  have d0 : decide ((100 : Int) < (s.size : Int)) = false := decide_eq_false (by omega)
  have CD := Aside0.mk (dig_walk 10 (by omega) (by omega))
  have CR := Aside0.mk run_walk
  have CF := Aside0.mk flo_walk
  have CP := Aside0.mk (fun (t : ByteArray) (h1 : t.size ≤ 100) (h2 : ∀ c ∈ t.data.toList, c.toNat ≠ 95) (W : World) (hW : Below w.heap.size w W) => float_any B H O X EV t (by omega) (fun i hi => h2 _ (List.getElem_mem (l := t.data.toList) (by rw [← Lib.size_eq]; exact hi))) W (Nat.le_trans hB hW.size) (hT.keep hW hB) (hE.keep hW hB))
  clear hB hT hE
  go_enter Tryz.func20, Tryz.ntmps20
  go_upto_region 1 with (fail)
  generalize hW : w.alloc _ = W
  have hz : W.heap[w.heap.size]? = some nb0 := by rw [← hW]; exact blk_new w _
  have hB : Below w.heap.size w W := by rw [← hW]; exact (Below.refl _ _).alloc (Nat.le_refl _) _
  clear hW
  have HZ := Aside0.mk hz
  have HB := Aside0.mk hB
  clear hz hB
  have HN := Aside0.mk hn
  clear hn
  go_upto_region 3 with (fail)
  go_cut [34] (fun v34 wc => v34 = .bool false ∧ W = wc)
  case first =>
    by_cases h2 : 2 < s.size
    · have d2 : decide ((2 : Int) < (s.size : Int)) = true := decide_eq_true (by omega)
      have l1 : 1 < s.size := by omega
      have l0 : 0 < s.size := by omega
      by_cases q0 : c0 = 48
      · have q48 : (c0 == 48) = true := by rw [q0]; rfl
        have q111 : (c1 == 111) = false := beq_eq_false_iff_ne.mpr fun h => HN.out ⟨h2, q0, .inl h⟩
        have q120 : (c1 == 120) = false := beq_eq_false_iff_ne.mpr fun h => HN.out ⟨h2, q0, .inr h⟩
        clear q0 h2
        go_wp2_with fail
        go_meet
        case rel => exact ⟨rfl, rfl⟩
      · have q48 : (c0 == 48) = false := beq_eq_false_iff_ne.mpr q0
        clear q0 h2
        go_wp2_with fail
        go_meet
        case rel => exact ⟨rfl, rfl⟩
    · have d2 : decide ((2 : Int) < (s.size : Int)) = false := decide_eq_false (by omega)
      clear h2
      go_wp2_with fail
      go_meet
      case rel => exact ⟨rfl, rfl⟩
  case rest =>
    obtain ⟨rfl, rfl⟩ := hcut
    go_upto_region 12 with (fail)
    go_cut [64] (fun v64 wc => ∃ (x : Bool), v64 = .bool x ∧ Aside0 (x = true → 0 < s.size ∧ (c0 = 45 ∨ c0 = 43)) ∧ W = wc)
    case first =>
      by_cases hu : s.size = 0
      · have hz := emp_t s hu
        clear hu
        go_wp2_with fail
        go_meet
        case rel => exact ⟨false, rfl, ⟨fun h => by cases h⟩, rfl⟩
      · have hp : 0 < s.size := by omega
        have hz := emp_f s hp
        by_cases q1 : c0 = 45
        · have e1 : (c0 == 45) = true := by rw [q1]; rfl
          have Q1 := Aside0.mk q1
          clear q1
          go_wp2_with fail
          go_meet
          case rel => exact ⟨true, rfl, ⟨fun _ => ⟨hp, .inl Q1.out⟩⟩, rfl⟩
        have e1 : (c0 == 45) = false := beq_eq_false_iff_ne.mpr q1
        clear q1
        by_cases q2 : c0 = 43
        · have e2 : (c0 == 43) = true := by rw [q2]; rfl
          have Q2 := Aside0.mk q2
          clear q2
          go_wp2_with fail
          go_meet
          case rel => exact ⟨true, rfl, ⟨fun _ => ⟨hp, .inr Q2.out⟩⟩, rfl⟩
        have e2 : (c0 == 43) = false := beq_eq_false_iff_ne.mpr q2
        clear q2
        go_wp2_with fail
        go_meet
        case rel => exact ⟨false, rfl, ⟨fun h => by cases h⟩, rfl⟩
    case rest =>
      obtain ⟨x, rfl, HX, rfl⟩ := hcut
      go_upto_if 64 with (fail)
      go_cut [6, 7] (fun v6 v7 wc => ∃ (t : ByteArray) (mi : Bool), v6 = .string t ∧ v7 = .bool mi ∧ t.size ≤ 100 ∧ Aside0 (SgT mi s.data.toList t.data.toList ∧ wc.heap[w.heap.size]? = some nb0 ∧ Below w.heap.size w wc))
      case first =>
        cases x
        · go_wp2_with fail
          go_meet
          case rel => exact ⟨s, false, rfl, rfl, hs, ⟨.inl ⟨rfl, rfl⟩, HZ.out, HB.out⟩⟩
        · obtain ⟨hp, hc⟩ := HX.out rfl
          have hp1 : 1 ≤ s.size := hp
          obtain ⟨y, hy, hyc⟩ : ∃ y : Bool, (c0 == 45) = y ∧ ((y = true ∧ c0 = 45) ∨ (y = false ∧ c0 = 43)) := by
            rcases hc with h | h
            · exact ⟨true, by rw [h]; rfl, .inl ⟨rfl, h⟩⟩
            · exact ⟨false, by rw [h]; rfl, .inr ⟨rfl, h⟩⟩
          have HYC := Aside0.mk hyc
          clear hc hyc
          go_wp2_with fail
          go_quiet (fail)
          go_wp2
          go_meet
          case rel =>
            obtain ⟨y1, r1, g1, g2, g3⟩ := cons_is hp h0
            refine ⟨s.extract 1 s.size, y, rfl, rfl, by rw [ByteArray.size_extract]; omega, ⟨.inr ⟨y1, by rw [g3]; exact g1, ?_⟩, HZ.out, pw_below_drewN HB.out nq⟩⟩
            rcases HYC.out with ⟨h, hh⟩ | ⟨h, hh⟩
            · exact .inl ⟨h, by omega⟩
            · exact .inr ⟨h, by omega⟩
      case rest =>
        obtain ⟨t, mi, rfl, rfl, hts, HS⟩ := hcut
        clear HX HN h0 h1
        have hts2 : t.size ≤ 140737488351232 := by omega
        go_wp2_with fail
        refine (CR.out t hts2 _).mono ?_
        rintro e w' ⟨rfl, n, rfl, hn, hd⟩
        have HD := Aside0.mk hd
        clear hd
        by_cases hall : 0 < n ∧ n = t.size
        · obtain ⟨hn0, hnt⟩ := hall
          have HDT : Aside0 (Dg t.data.toList) := ⟨by
            have := HD.out
            rw [hnt, Lib.size_eq, List.take_length] at this
            exact this⟩
          have d1 : decide ((0 : Int) < (n : Int)) = true := decide_eq_true (by omega)
          have q1 : ((n : Int) == (t.size : Int)) = true := by rw [hnt]; exact beq_self_eq_true _
          have HNT := Aside0.mk hnt
          clear hnt
          go_wp2_with fail
          refine (CD.out t hts2 _).mono ?_
          rintro e w1 ⟨b1, v, ok, rfl, hok⟩
          have hz := blk_below HS.out.2.1 b1
          have hB := HS.out.2.2.trans (b1.mono HS.out.2.2.size)
          obtain ⟨z0, z1, z2, z3, z4⟩ := nb_facts hz
          have f0 := blk_frozen hz 0
          have f1 := blk_frozen hz 1
          have f2 := blk_frozen hz 2
          have f3 := blk_frozen hz 3
          have f4 := blk_frozen hz 4
          have HZ1 := Aside0.mk hz
          have HB1 := Aside0.mk hB
          clear hz hB
          have HOK := Aside0.mk hok
          clear b1 hok
          cases ok
          case false =>
            go_wp2_with fail
            exact bodyPost_ret (results_single rfl (.cell w.heap.size 44 _ (0, 0) _ rfl (set5_blk w1 w.heap.size 0 0 false 0 0 HZ1.out) Tryz.underlying44 rfl (by kernel_rfl) .nil)) rfl (as_zero ⟨set5_below w w1 w.heap.size w.heap.size 0 0 false 0 0 HB1.out (Nat.le_refl _), rfl⟩)
          case true =>
            obtain ⟨c, hc⟩ := first_any t
            have l0 : 0 < t.size := by have := HNT.out; omega
            by_cases hbad : 1 < n ∧ c = 48
            · have d2 : decide ((1 : Int) < (n : Int)) = true := decide_eq_true (by omega)
              have q48 : (c == 48) = true := by rw [hbad.2]; rfl
              clear hbad
              go_wp2_with fail
              exact bodyPost_ret (results_single rfl (.cell w.heap.size 44 _ (0, 0) _ rfl (set5_blk w1 w.heap.size 0 0 false 0 0 HZ1.out) Tryz.underlying44 rfl (by kernel_rfl) .nil)) rfl (as_zero ⟨set5_below w w1 w.heap.size w.heap.size 0 0 false 0 0 HB1.out (Nat.le_refl _), rfl⟩)
            have hgo : (decide ((1 : Int) < (n : Int)) = false) ∨ (decide ((1 : Int) < (n : Int)) = true ∧ (c == 48) = false) := by
              by_cases h1 : 1 < n
              · exact .inr ⟨decide_eq_true (by omega), beq_eq_false_iff_ne.mpr fun h => hbad ⟨h1, h⟩⟩
              · exact .inl (decide_eq_false (by omega))
            have HG : Aside0 (t.data.toList.length = 1 ∨ ∀ y r, t.data.toList = y :: r → y.toNat ≠ 48) := ⟨by
              have hl := Lib.size_eq t
              have := HNT.out
              by_cases h1 : n = 1
              · left; omega
              · refine .inr fun x r hx h48 => hbad ⟨by omega, ?_⟩
                have e1 := cons_of t l0
                rw [e1] at hx
                injection hx with hx _
                have := hc l0
                rw [hx] at this
                omega⟩
            have HNE : Aside0 (t.data.toList ≠ []) := ⟨fun h => by rw [cons_of t l0] at h; cases h⟩
            clear hbad
            by_cases hm : mi = true ∧ 9223372036854775808 < v
            · obtain ⟨rfl, hv⟩ := hm
              have d3 : decide (9223372036854775808 < v) = true := decide_eq_true hv
              rcases hgo with d2 | ⟨d2, q48⟩
              · go_wp2_with fail
                exact bodyPost_ret (results_single rfl (.cell w.heap.size 44 _ (0, 0) _ rfl (set5_blk w1 w.heap.size 0 0 false 0 0 HZ1.out) Tryz.underlying44 rfl (by kernel_rfl) .nil)) rfl (as_zero ⟨set5_below w w1 w.heap.size w.heap.size 0 0 false 0 0 HB1.out (Nat.le_refl _), rfl⟩)
              · go_wp2_with fail
                exact bodyPost_ret (results_single rfl (.cell w.heap.size 44 _ (0, 0) _ rfl (set5_blk w1 w.heap.size 0 0 false 0 0 HZ1.out) Tryz.underlying44 rfl (by kernel_rfl) .nil)) rfl (as_zero ⟨set5_below w w1 w.heap.size w.heap.size 0 0 false 0 0 HB1.out (Nat.le_refl _), rfl⟩)
            · have HM : Aside0 (mi = true → v ≤ 9223372036854775808) := ⟨fun h => Int.not_lt.1 fun h2 => hm ⟨h, h2⟩⟩
              have fin : AsF H O X s 1 10 mi v 0 ∧ ((1 : Int) ≠ 0 → s.size ≤ 100 ∧ 0 ≤ v ∧ v ≤ 18446744073709551615) := by
                obtain ⟨e1, e2, e3, e4⟩ := HOK.out (by first | rfl | trivial)
                exact ⟨.inr (.inr (.inl ⟨rfl, rfl, _, HS.out.1, HDT.out, HNE.out, HG.out, e4, HM.out⟩)), fun _ => ⟨hs, e2, e3⟩⟩
              have FIN := Aside0.mk fin
              clear fin
              have hmm : mi = false ∨ (mi = true ∧ decide (9223372036854775808 < v) = false) := by
                cases mi
                · exact .inl rfl
                · exact .inr ⟨rfl, decide_eq_false fun h => hm ⟨rfl, h⟩⟩
              clear hm HM
              rcases hmm with rfl | ⟨rfl, d3⟩
              · rcases hgo with d2 | ⟨d2, q48⟩
                · go_wp2_with fail
                  exact bodyPost_ret (results_single rfl (.cell w.heap.size 44 _ (0, 0) _ rfl (set5_blk w1 w.heap.size 1 10 false v 0 HZ1.out) Tryz.underlying44 rfl (by kernel_rfl) .nil)) rfl ⟨set5_below w w1 w.heap.size w.heap.size 1 10 false v 0 HB1.out (Nat.le_refl _), 1, 10, false, v, 0, rfl, FIN.out⟩
                · go_wp2_with fail
                  exact bodyPost_ret (results_single rfl (.cell w.heap.size 44 _ (0, 0) _ rfl (set5_blk w1 w.heap.size 1 10 false v 0 HZ1.out) Tryz.underlying44 rfl (by kernel_rfl) .nil)) rfl ⟨set5_below w w1 w.heap.size w.heap.size 1 10 false v 0 HB1.out (Nat.le_refl _), 1, 10, false, v, 0, rfl, FIN.out⟩
              · rcases hgo with d2 | ⟨d2, q48⟩
                · go_wp2_with fail
                  exact bodyPost_ret (results_single rfl (.cell w.heap.size 44 _ (0, 0) _ rfl (set5_blk w1 w.heap.size 1 10 true v 0 HZ1.out) Tryz.underlying44 rfl (by kernel_rfl) .nil)) rfl ⟨set5_below w w1 w.heap.size w.heap.size 1 10 true v 0 HB1.out (Nat.le_refl _), 1, 10, true, v, 0, rfl, FIN.out⟩
                · go_wp2_with fail
                  exact bodyPost_ret (results_single rfl (.cell w.heap.size 44 _ (0, 0) _ rfl (set5_blk w1 w.heap.size 1 10 true v 0 HZ1.out) Tryz.underlying44 rfl (by kernel_rfl) .nil)) rfl ⟨set5_below w w1 w.heap.size w.heap.size 1 10 true v 0 HB1.out (Nat.le_refl _), 1, 10, true, v, 0, rfl, FIN.out⟩
        · have hfl : n = 0 ∨ (decide ((0 : Int) < (n : Int)) = true ∧ 0 < n ∧ ¬ n = t.size ∧ (n == t.size) = false ∧ ((n : Int) == (t.size : Int)) = false) := by
            by_cases h1 : 0 < n
            · exact .inr ⟨decide_eq_true (by omega), h1, fun h => hall ⟨h1, h⟩, beq_eq_false_iff_ne.mpr fun h => hall ⟨h1, h⟩, beq_eq_false_iff_ne.mpr fun h => hall ⟨h1, by omega⟩⟩
            · exact .inl (by omega)
          clear hall HD
          rename_i wc
          rcases hfl with rfl | ⟨d1, d2, d3, q1, q2⟩
          all_goals
            go_upto_region 20 with (fail)
            go_wp2_with fail
            refine (CF.out t hts2 _).mono ?_
            rintro e w' ⟨rfl, b, rfl, hb⟩
            cases b
            case false =>
              clear hb
              have hz := HS.out.2.1
              have hB := HS.out.2.2
              obtain ⟨z0, z1, z2, z3, z4⟩ := nb_facts hz
              have f0 := blk_frozen hz 0
              have f1 := blk_frozen hz 1
              have f2 := blk_frozen hz 2
              have f3 := blk_frozen hz 3
              have f4 := blk_frozen hz 4
              have HZ1 := Aside0.mk hz
              have HB1 := Aside0.mk hB
              clear hz hB
              go_wp2_with fail
              exact bodyPost_ret (results_single rfl (.cell w.heap.size 44 _ (0, 0) _ rfl (set5_blk wc w.heap.size 0 0 false 0 0 HZ1.out) Tryz.underlying44 rfl (by kernel_rfl) .nil)) rfl (as_zero ⟨set5_below w wc w.heap.size w.heap.size 0 0 false 0 0 HB1.out (Nat.le_refl _), rfl⟩)
            have HF := Aside0.mk (hb rfl)
            clear hb
            go_wp2_with fail
            refine (CP.out t hts (flo_no HF.out) _ HS.out.2.2).mono ?_
            rintro e w1 ⟨b1, ⟨hk, rfl⟩ | ⟨hk, v, N, fn, ss, rfl, _, _⟩⟩
            · have hz := blk_below HS.out.2.1 b1
              have hB := HS.out.2.2.trans (b1.mono HS.out.2.2.size)
              obtain ⟨z0, z1, z2, z3, z4⟩ := nb_facts hz
              have f0 := blk_frozen hz 0
              have f1 := blk_frozen hz 1
              have f2 := blk_frozen hz 2
              have f3 := blk_frozen hz 3
              have f4 := blk_frozen hz 4
              have HZ1 := Aside0.mk hz
              have HB1 := Aside0.mk hB
              clear hz hB
              have HK := Aside0.mk hk
              clear b1 hk
              obtain ⟨f, hf⟩ : ∃ f, f = (parF H O X t).1 := ⟨_, rfl⟩
              rw [← hf]
              have HFF := Aside0.mk hf
              clear hf
              cases mi
              · go_wp2_with fail
                exact bodyPost_ret (results_single rfl (.cell w.heap.size 44 _ (0, 0) _ rfl (set5_blk w1 w.heap.size 2 10 false 0 f HZ1.out) Tryz.underlying44 rfl (by kernel_rfl) .nil)) rfl ⟨set5_below w w1 w.heap.size w.heap.size 2 10 false 0 f HB1.out (Nat.le_refl _), 2, 10, false, 0, f, rfl, .inr (.inr (.inr ⟨rfl, rfl, rfl, t, HS.out.1, HF.out, HK.out, HFF.out⟩)), fun _ => ⟨hs, by omega, by omega⟩⟩
              · go_wp2_with fail
                exact bodyPost_ret (results_single rfl (.cell w.heap.size 44 _ (0, 0) _ rfl (set5_blk w1 w.heap.size 2 10 true 0 (Op.negFloat .f64 f) HZ1.out) Tryz.underlying44 rfl (by kernel_rfl) .nil)) rfl ⟨set5_below w w1 w.heap.size w.heap.size 2 10 true 0 (Op.negFloat .f64 f) HB1.out (Nat.le_refl _), 2, 10, true, 0, _, rfl, .inr (.inr (.inr ⟨rfl, rfl, rfl, t, HS.out.1, HF.out, HK.out, by rw [HFF.out]; rfl⟩)), fun _ => ⟨hs, by omega, by omega⟩⟩
            · have hz := blk_below HS.out.2.1 b1
              have hB := HS.out.2.2.trans (b1.mono HS.out.2.2.size)
              obtain ⟨z0, z1, z2, z3, z4⟩ := nb_facts hz
              have f0 := blk_frozen hz 0
              have f1 := blk_frozen hz 1
              have f2 := blk_frozen hz 2
              have f3 := blk_frozen hz 3
              have f4 := blk_frozen hz 4
              have HZ1 := Aside0.mk hz
              have HB1 := Aside0.mk hB
              clear hz hB
              clear b1 hk
              go_wp2_with fail
              exact bodyPost_ret (results_single rfl (.cell w.heap.size 44 _ (0, 0) _ rfl (set5_blk w1 w.heap.size 0 0 false 0 0 HZ1.out) Tryz.underlying44 rfl (by kernel_rfl) .nil)) rfl (as_zero ⟨set5_below w w1 w.heap.size w.heap.size 0 0 false 0 0 HB1.out (Nat.le_refl _), rfl⟩)
end Go.Proofs.YtlkbhmmelejmjaaGreatDoor.AsRest

/- What AsNumber calls a number, toNumber calls a number. -/
namespace Go.Proofs.YtlkbhmmelejmjaaGreatDoor.AsIs
open Go.RowKit Go.Proofs.YtlkbhmmelejmjaaGreatDoorW.PrintWords Go.Proofs.YtlkbhmmelejmjaaGreatDoor.NumParse Go.Proofs.YtlkbhmmelejmjaaGreatDoor.NumPure Go.Proofs.YtlkbhmmelejmjaaGreatDoor.NumStrip Go.Proofs.YtlkbhmmelejmjaaGreatDoor.NumErr Go.Proofs.YtlkbhmmelejmjaaGreatDoor.NumInt Go.Proofs.YtlkbhmmelejmjaaGreatDoor.NumAny Go.Proofs.YtlkbhmmelejmjaaGreatDoor.NumAll Go.Proofs.YtlkbhmmelejmjaaGreatDoor.NumIs Go.Proofs.YtlkbhmmelejmjaaGreatDoor.FltAtof Go.Proofs.YtlkbhmmelejmjaaGreatDoor.FltParse Go.Proofs.YtlkbhmmelejmjaaGreatDoor.FltTextP Go.Proofs.YtlkbhmmelejmjaaGreatDoor.FltSpecial Go.Proofs.YtlkbhmmelejmjaaGreatDoor.AsNum Go.Proofs.YtlkbhmmelejmjaaGreatDoor.AsDig Go.Proofs.YtlkbhmmelejmjaaGreatDoor.AsFlo Go.Proofs.YtlkbhmmelejmjaaGreatDoor.AsWalk Go.Proofs.YtlkbhmmelejmjaaGreatDoor.AsRest
set_option linter.unusedVariables false
set_option linter.unusedSimpArgs false

/-- AsNumber at any text. -/
theorem as_any (B : Nat) (H O X : Nat → Nat) (EV : Nat → Value) (s : ByteArray) (w : World) (hB : B ≤ w.heap.size) (hT : Tabs B H O X w) (hE : Errs B EV w) : Calls Tryz.prog 20 #[.string s] w (AsP H O X s w) := by
  by_cases hs : s.size ≤ 100
  · obtain ⟨c0, h0⟩ := first_any s
    obtain ⟨c1, h1⟩ : ∃ c : Int, ∀ h, ((s[1]'h).toNat : Int) = c := by
      by_cases h : 1 < s.size
      · exact ⟨((s[1]'h).toNat : Int), fun _ => rfl⟩
      · exact ⟨0, fun h' => absurd h' h⟩
    by_cases hn : 2 < s.size ∧ c0 = 48 ∧ (c1 = 111 ∨ c1 = 120)
    · obtain ⟨h2, rfl, hc⟩ := hn
      exact as_based H O X s hs h2 c1 h0 h1 hc w
    · exact as_rest B H O X EV s hs c0 c1 h0 h1 hn w hB hT hE
  · exact (as_long s (by omega) w).mono fun e w' h => as_zero h

/-! The digits. -/
theorem dg_hex : ∀ c : Fin 256, 0 ≤ hexV (c.val : Int) → dg c.val = some (hexV (c.val : Int)).toNat := by decide +kernel
theorem dg_of (c : UInt8) (h : 0 ≤ hexV (c.toNat : Int)) : dg c.toNat = some (hexV (c.toNat : Int)).toNat := dg_hex ⟨c.toNat, c.toNat_lt⟩ h
theorem pu_of (b : Nat) (hb : 2 ≤ b) (hb2 : b ≤ 16) : ∀ (L : List UInt8) (n : Nat) (z : Int), digF (b : Int) L (n : Int) = some z → pu b n L = .ok z.toNat
  | [], n, z, h => by
    have : (n : Int) = z := Option.some.inj h
    rw [← this]; rfl
  | c :: r, n, z, h => by
    obtain ⟨d, hd⟩ : ∃ d : Int, d = hexV (c.toNat : Int) := ⟨_, rfl⟩
    have h' := (digF_step (b : Int) n d c r hd).symm.trans h
    by_cases hc : d < 0 ∨ (b : Int) ≤ d ∨ (18446744073709551615 - d) / (b : Int) < (n : Int)
    · rw [if_pos hc] at h'; cases h'
    rw [if_neg hc] at h'
    have g1 : 0 ≤ d := by omega
    have g2 : d < b := by omega
    have g3 : (n : Int) ≤ (18446744073709551615 - d) / (b : Int) := by omega
    have g4 : (n : Int) * b ≤ 18446744073709551615 - d := Int.mul_le_of_le_ediv (by omega) g3
    have hdg := dg_of c (by rw [← hd]; exact g1)
    rw [← hd] at hdg
    have g5 : n * b + d.toNat ≤ 18446744073709551615 := by
      have : ((n * b + d.toNat : Nat) : Int) = (n : Int) * b + d := by push_cast; omega
      omega
    have g6 : ¬ cut b ≤ n := by
      unfold cut
      have : n ≤ 18446744073709551615 / b := (Nat.le_div_iff_mul_le (by omega)).2 (by omega)
      omega
    rw [pu_step hdg (by omega) g6 (by omega)]
    refine pu_of b hb hb2 r _ z ?_
    rw [← h']
    congr 1
    push_cast
    omega

/-! The sign ahead. -/
theorem hp1 (s : ByteArray) (b c : UInt8) (r : List UInt8) (h : s.data.toList = c :: r) : hp s ⟨#[b]⟩ = (b == c) := by
  unfold hp
  rw [h]
  show [b].isPrefixOf (c :: r) = (b == c)
  simp [List.isPrefixOf]
theorem byte_eq {c : UInt8} {n : Nat} (h : c.toNat = n) (hn : n < 256) : c = UInt8.ofNat n := by
  apply UInt8.toNat_inj.1
  rw [h, UInt8.toNat_ofNat']
  omega
theorem tp1_no (s : ByteArray) (b : UInt8) (h : hp s ⟨#[b]⟩ = false) : tp s ⟨#[b]⟩ = s := by unfold tp; rw [h]; rfl
theorem tp1_yes (s : ByteArray) (b : UInt8) (h : hp s ⟨#[b]⟩ = true) : (tp s ⟨#[b]⟩).data.toList = s.data.toList.drop 1 := by
  unfold tp
  rw [if_pos h]
  exact ext_one s
theorem arr_list (L : List UInt8) : (⟨L.toArray⟩ : ByteArray).data.toList = L := by simp
theorem ba_eq {s t : ByteArray} (h : s.data.toList = t.data.toList) : s = t := ByteArray.ext (Array.ext' h)
theorem ne_dig {x b : UInt8} (hx : 48 ≤ x.toNat ∧ x.toNat ≤ 57) (hb : b.toNat < 48 ∨ 57 < b.toNat) : (b == x) = false := beq_eq_false_iff_ne.mpr fun h => by rw [h] at hb; omega
theorem shape {mi : Bool} {s t : ByteArray} {x : UInt8} {r : List UInt8} (hS : SgT mi s.data.toList t.data.toList) (hT : t.data.toList = x :: r) (hx : 48 ≤ x.toNat ∧ x.toNat ≤ 57) (hno : ∀ c ∈ t.data.toList, c.toNat ≠ 95) : s.size ≠ 0 ∧ hp s ⟨#[95]⟩ = false ∧ hp s ⟨#[45]⟩ = mi ∧ strip (tp (tp s ⟨#[43]⟩) ⟨#[45]⟩) = t ∧ cnt 46 s = t.data.toList.count 46 := by
  have hst : strip t = t := strip_same fun h => hno _ h rfl
  have t45 : tp t ⟨#[45]⟩ = t := tp1_no t 45 (by rw [hp1 t 45 x r hT]; exact ne_dig hx (by decide))
  have t43 : tp t ⟨#[43]⟩ = t := tp1_no t 43 (by rw [hp1 t 43 x r hT]; exact ne_dig hx (by decide))
  have h45 : hp t ⟨#[45]⟩ = false := by rw [hp1 t 45 x r hT]; exact ne_dig hx (by decide)
  have h95 : hp t ⟨#[95]⟩ = false := by rw [hp1 t 95 x r hT]; exact ne_dig hx (by decide)
  have hsz : ∀ c q, s.data.toList = c :: q → s.size ≠ 0 := fun c q h h0 => by rw [Lib.size_eq, h] at h0; cases h0
  rcases hS with ⟨rfl, h⟩ | ⟨c, h, ⟨rfl, hc⟩ | ⟨rfl, hc⟩⟩
  · have : s = t := ba_eq h
    subst this
    exact ⟨hsz _ _ hT, h95, h45, by rw [t43, t45, hst], rfl⟩
  · have hc' : c = 45 := byte_eq (n := 45) hc (by decide)
    subst hc'
    have e43 : tp s ⟨#[43]⟩ = s := tp1_no s 43 (by rw [hp1 s 43 _ _ h]; rfl)
    have e45 : tp s ⟨#[45]⟩ = t := ba_eq (by rw [tp1_yes s 45 (by rw [hp1 s 45 _ _ h]; rfl), h]; rfl)
    refine ⟨hsz _ _ h, by rw [hp1 s 95 _ _ h]; rfl, by rw [hp1 s 45 _ _ h]; rfl, by rw [e43, e45, hst], ?_⟩
    unfold cnt
    rw [h, List.count_cons]
    rfl
  · have hc' : c = 43 := byte_eq (n := 43) hc (by decide)
    subst hc'
    have e43 : tp s ⟨#[43]⟩ = t := ba_eq (by rw [tp1_yes s 43 (by rw [hp1 s 43 _ _ h]; rfl), h]; rfl)
    refine ⟨hsz _ _ h, by rw [hp1 s 95 _ _ h]; rfl, by rw [hp1 s 45 _ _ h]; rfl, by rw [e43, t45, hst], ?_⟩
    unfold cnt
    rw [h, List.count_cons]
    rfl
theorem numR_shape {H O X : Nat → Nat} {mi : Bool} {s t : ByteArray} {x : UInt8} {r : List UInt8} (hS : SgT mi s.data.toList t.data.toList) (hT : t.data.toList = x :: r) (hx : 48 ≤ x.toNat ∧ x.toNat ≤ 57) (hno : ∀ c ∈ t.data.toList, c.toNat ≠ 95) (hd : t.data.toList.count 46 ≤ 1) : numR H O X s = numM H O X mi (t.data.toList.count 46) t := by
  obtain ⟨h1, h2, h3, h4, h5⟩ := shape hS hT hx hno
  unfold numR
  rw [if_neg h1, h2, h5, h3, h4, if_neg (by decide), if_neg (by omega)]

theorem out_is {k : Nat} (h : k = 0 ∨ k = 1) (typ : ByteArray) (v : Value) (text : ByteArray) : Isnum (outN k typ v text) := by
  rcases h with rfl | rfl
  · exact .inl ⟨typ, v, text, rfl⟩
  · exact .inr rfl
theorem numN_is {neg : Bool} {b : Nat} {typ m : ByteArray} {z : Nat} (h : puE b m = .ok z) : Isnum (numN neg b typ m) := by
  unfold numN
  rw [h]
  cases neg
  · exact out_is (.inl rfl) _ _ _
  · refine out_is ?_ _ _ _
    show kd (if 9223372036854775808 < z then .range else .ok z) = 0 ∨ kd (if 9223372036854775808 < z then .range else .ok z) = 1
    split
    · exact .inr rfl
    · exact .inl rfl
theorem puE_of {b : Nat} (hb : 2 ≤ b) (hb2 : b ≤ 16) {t : ByteArray} {z : Int} (hne : t.data.toList ≠ []) (h : digF (b : Int) t.data.toList 0 = some z) : puE b t = .ok z.toNat := by
  unfold puE
  rw [if_neg fun h0 => hne (empty_iff t h0)]
  exact pu_of b hb hb2 _ 0 z h
theorem hp2 (s : ByteArray) (a b c d : UInt8) (r : List UInt8) (h : s.data.toList = c :: d :: r) : hp s ⟨#[a, b]⟩ = (a == c && b == d) := by
  unfold hp
  rw [h]
  show [a, b].isPrefixOf (c :: d :: r) = _
  simp [List.isPrefixOf]
theorem hp2_one (s : ByteArray) (a b c : UInt8) (h : s.data.toList = [c]) : hp s ⟨#[a, b]⟩ = false := by
  unfold hp
  rw [h]
  show [a, b].isPrefixOf [c] = _
  simp [List.isPrefixOf]
theorem dg_count {L : List UInt8} (h : Dg L) : L.count 46 = 0 := List.count_eq_zero.2 fun hm => by
  have := h _ hm
  exact absurd this.1 (by decide)
theorem dec_is {H O X : Nat → Nat} {mi : Bool} {s : ByteArray} {T : List UInt8} {z : Int} (hS : SgT mi s.data.toList T) (hD : Dg T) (hne : T ≠ []) (hz : T.length = 1 ∨ ∀ y r, T = y :: r → y.toNat ≠ 48) (hd : digF 10 T 0 = some z) : numR H O X s = numN mi 10 tDec ⟨T.toArray⟩ ∧ puE 10 ⟨T.toArray⟩ = .ok z.toNat := by
  obtain ⟨t, ht⟩ : ∃ t : ByteArray, t = ⟨T.toArray⟩ := ⟨_, rfl⟩
  have hl : t.data.toList = T := by rw [ht]
  rw [← ht]
  rw [← hl] at hS hD hne hz hd
  refine ⟨?_, puE_of (b := 10) (by omega) (by omega) hne hd⟩
  obtain ⟨x, r, hx⟩ : ∃ x r, t.data.toList = x :: r := by
    cases h : t.data.toList with
    | nil => exact absurd h hne
    | cons x r => exact ⟨x, r, rfl⟩
  have hxd := hD x (by rw [hx]; exact List.mem_cons_self)
  have hc := dg_count hD
  rw [numR_shape hS hx hxd (dg_no hD) (by omega), hc]
  have hlen := Lib.size_eq t
  have no2 : ∀ b : UInt8, (b.toNat < 48 ∨ 57 < b.toNat) → hp t ⟨#[48, b]⟩ = false := fun b hb => by
    cases r with
    | nil => exact hp2_one t 48 b x hx
    | cons y q =>
      rw [hp2 t 48 b x y q hx, ne_dig (hD y (by rw [hx]; simp)) hb, Bool.and_false]
  unfold numM
  rw [no2 120 (by decide), no2 111 (by decide), no2 98 (by decide), if_neg (by decide), if_neg (by decide), if_neg (by decide), if_neg, if_neg (by decide)]
  rintro ⟨h1, h2, _⟩
  rcases hz with h | h
  · omega
  · rw [hp1 t 48 x r hx] at h1
    have : x = 48 := (beq_iff_eq.1 h1).symm
    exact h x r hx (by rw [this]; rfl)
theorem based_is {H O X : Nat → Nat} {s : ByteArray} {c d : UInt8} {r : List UInt8} {b : Nat} {z : Int} (hs : s.data.toList = c :: d :: r) (hc : c.toNat = 48) (hd : (b = 8 ∧ d.toNat = 111) ∨ (b = 16 ∧ d.toNat = 120)) (hr : r ≠ []) (hz : digF (b : Int) r 0 = some z) : (∃ typ, numR H O X s = numN false b typ ⟨r.toArray⟩) ∧ puE b ⟨r.toArray⟩ = .ok z.toNat := by
  have hb : 2 ≤ b ∧ b ≤ 16 := by omega
  have hdr : ∀ (L : List UInt8) (n z : Int), digF (b : Int) L n = some z → ∀ c ∈ L, c.toNat ≠ 95 ∧ c.toNat ≠ 46 := by
    intro L
    induction L with
    | nil => intro n z h c hc; cases hc
    | cons x q ih =>
      intro n z h c hc
      obtain ⟨e, he⟩ : ∃ e : Int, e = hexV (x.toNat : Int) := ⟨_, rfl⟩
      have h' := (digF_step (b : Int) n e x q he).symm.trans h
      by_cases hcond : e < 0 ∨ (b : Int) ≤ e ∨ (18446744073709551615 - e) / (b : Int) < n
      · rw [if_pos hcond] at h'; cases h'
      rw [if_neg hcond] at h'
      rcases List.mem_cons.1 hc with rfl | hc
      · have h0 : 0 ≤ e := by omega
        constructor
        · intro h95; rw [he, h95] at h0; exact absurd h0 (by decide)
        · intro h46; rw [he, h46] at h0; exact absurd h0 (by decide)
      · exact ih _ _ h' c hc
  have hrd := hdr r 0 z hz
  have hno : ∀ x ∈ s.data.toList, x.toNat ≠ 95 := by
    intro x hx
    rw [hs] at hx
    rcases List.mem_cons.1 hx with rfl | hx
    · omega
    rcases List.mem_cons.1 hx with rfl | hx
    · omega
    exact (hrd x hx).1
  have hcnt : s.data.toList.count 46 = 0 := List.count_eq_zero.2 fun hm => by
    rw [hs] at hm
    rcases List.mem_cons.1 hm with h | hm
    · rw [← h] at hc; exact absurd hc (by decide)
    rcases List.mem_cons.1 hm with h | hm
    · rw [← h] at hd
      rcases hd with ⟨_, hd⟩ | ⟨_, hd⟩ <;> exact absurd hd (by decide)
    exact (hrd _ hm).2 rfl
  obtain ⟨t, ht⟩ : ∃ t : ByteArray, t = ⟨r.toArray⟩ := ⟨_, rfl⟩
  have hl : t.data.toList = r := by rw [ht]
  rw [← ht]
  refine ⟨?_, puE_of hb.1 hb.2 (by rw [hl]; exact hr) (by rw [hl]; exact hz)⟩
  rw [numR_shape (mi := false) (t := s) (.inl ⟨rfl, rfl⟩) hs (by omega) hno (by omega), hcnt]
  have hc' : c = 48 := byte_eq (n := 48) hc (by decide)
  have e2 : ∀ x : UInt8, hp s ⟨#[48, x]⟩ = (x == d) := fun x => by rw [hp2 s 48 x c d r hs, hc']; rfl
  have tp2 : ∀ x : UInt8, hp s ⟨#[48, x]⟩ = true → tp s ⟨#[48, x]⟩ = t := fun x h => ba_eq (by
    unfold tp
    rw [if_pos h, hl]
    have := ext_from s 2
    rw [hs] at this
    exact this)
  unfold numM
  rcases hd with ⟨rfl, hd⟩ | ⟨rfl, hd⟩
  · have hd' : d = 111 := byte_eq (n := 111) hd (by decide)
    subst hd'
    rw [if_neg (by rw [e2]; decide), if_pos (by rw [e2]; decide), tp2 111 (by rw [e2]; decide)]
    exact ⟨_, rfl⟩
  · have hd' : d = 120 := byte_eq (n := 120) hd (by decide)
    subst hd'
    rw [if_pos (by rw [e2]; decide), tp2 120 (by rw [e2]; decide)]
    exact ⟨_, rfl⟩
end Go.Proofs.YtlkbhmmelejmjaaGreatDoor.AsIs

/- What AsNumber calls a float, toNumber calls a number. -/
namespace Go.Proofs.YtlkbhmmelejmjaaGreatDoor.AsFis
open Go.RowKit Go.Proofs.YtlkbhmmelejmjaaGreatDoorW.PrintWords Go.Proofs.YtlkbhmmelejmjaaGreatDoor.NumParse Go.Proofs.YtlkbhmmelejmjaaGreatDoor.NumPure Go.Proofs.YtlkbhmmelejmjaaGreatDoor.NumStrip Go.Proofs.YtlkbhmmelejmjaaGreatDoor.NumErr Go.Proofs.YtlkbhmmelejmjaaGreatDoor.NumInt Go.Proofs.YtlkbhmmelejmjaaGreatDoor.NumAny Go.Proofs.YtlkbhmmelejmjaaGreatDoor.NumAll Go.Proofs.YtlkbhmmelejmjaaGreatDoor.NumIs Go.Proofs.YtlkbhmmelejmjaaGreatDoor.FltAtof Go.Proofs.YtlkbhmmelejmjaaGreatDoor.FltParse Go.Proofs.YtlkbhmmelejmjaaGreatDoor.FltTextP Go.Proofs.YtlkbhmmelejmjaaGreatDoor.FltSpecial Go.Proofs.YtlkbhmmelejmjaaGreatDoor.AsNum Go.Proofs.YtlkbhmmelejmjaaGreatDoor.AsDig Go.Proofs.YtlkbhmmelejmjaaGreatDoor.AsFlo Go.Proofs.YtlkbhmmelejmjaaGreatDoor.AsWalk Go.Proofs.YtlkbhmmelejmjaaGreatDoor.AsRest Go.Proofs.YtlkbhmmelejmjaaGreatDoor.AsIs
set_option linter.unusedVariables false
set_option linter.unusedSimpArgs false

/-- The two scans go alike. -/
theorem scans (m : Int) : ∀ (L : List UInt8) (s : RS) (s' : SS), s.dot = s'.dot → s.dig = s'.dig → (rscan 10 m L s).2 = (sscan L s').2 ∧ (rscan 10 m L s).1.dig = (sscan L s').1.dig
  | [], s, s', h1, h2 => ⟨rfl, h2⟩
  | c :: r, s, s', h1, h2 => by
    rw [rscan_cons, sscan_cons]
    by_cases hp : c.toNat = 46
    · rw [if_pos hp, if_pos hp]
      cases hd : s.dot
      · rw [if_neg (by decide), if_neg (by rw [← h1, hd]; decide)]
        exact scans m r _ _ rfl h2
      · rw [if_pos rfl, if_pos (by rw [← h1, hd])]
        exact ⟨rfl, h2⟩
    rw [if_neg hp, if_neg hp]
    by_cases hd : isD c = true
    · rw [if_pos hd, if_pos hd]
      refine scans m r _ _ ?_ ?_
      · have e1 : (rdig1 10 m c s).dot = s.dot := by unfold rdig1; (repeat' split) <;> rfl
        have e2 : (sdig c s').dot = s'.dot := by unfold sdig; (repeat' split) <;> rfl
        rw [e1, e2, h1]
      · have e1 : (rdig1 10 m c s).dig = true := by unfold rdig1; (repeat' split) <;> rfl
        have e2 : (sdig c s').dig = true := by unfold sdig; (repeat' split) <;> rfl
        rw [e1, e2]
    · rw [if_neg hd, if_neg hd, if_neg (by omega)]
      exact ⟨rfl, h2⟩
theorem read_set {T : List UInt8} {r : RR} (hx : hexat T = false) (h : readF T = some r) (hr : r.rest = []) : setF T ≠ none := by
  unfold readF at h
  rw [hx, if_neg (by decide)] at h
  unfold rmain at h
  obtain ⟨e1, e2⟩ := scans 19 T rs0 ss0 rfl rfl
  unfold setF
  rw [← e1, ← e2]
  by_cases hd : (rscan 10 19 T rs0).1.dig = true
  · rw [if_pos hd] at h ⊢
    revert h
    cases (rscan 10 19 T rs0).2 with
    | nil => intro _ h; cases h
    | cons c q =>
      rw [rexp_cons, sexp_cons]
      by_cases hl : low c = 101
      · rw [if_pos hl, if_pos hl]
        cases expo q with
        | none => intro h; cases h
        | some e =>
          intro h
          have hre : e.2 = [] := by
            have : r = rfin 10 (rscan 10 19 T rs0).1 e.1 e.2 := (Option.some.inj h).symm
            rw [this] at hr
            exact hr
          unfold sE
          simp only
          rw [hre]
          intro h; cases h
      · rw [if_neg hl]
        intro h
        have : r = rfin 10 (rscan 10 19 T rs0).1 0 (c :: q) := (Option.some.inj h).symm
        rw [this] at hr
        cases hr
  · rw [if_neg hd] at h
    cases h
theorem numF_k {H O X : Nat → Nat} {ng : Bool} {T : List UInt8} {r : RR} (hs : setF (sgn T).2 ≠ none) : (numF H O X ng T r).2 = 0 ∨ (numF H O X ng T r).2 = 1 := by
  have hb : ∀ b : Bool, (if b then 1 else 0 : Nat) = 0 ∨ (if b then 1 else 0 : Nat) = 1 := fun b => by cases b <;> simp
  have hslow : (slowF T).2 = 0 ∨ (slowF T).2 = 1 := by
    unfold slowF
    cases h : setF (sgn T).2 with
    | none => exact absurd h hs
    | some t =>
      by_cases h : t.n = 0
      · simp [h]
      · simp only [h, if_false]
        cases FltBitsP.over t
        · exact .inl rfl
        · exact .inr rfl
  unfold numF
  split
  · exact hb _
  split
  · exact .inl rfl
  split
  · exact .inr rfl
  split
  · exact .inl rfl
  split
  · split
    · exact .inl rfl
    · exact hb _
  split
  · exact hb _
  · exact hslow
theorem low_dig : ∀ c : Fin 256, (48 ≤ c.val ∧ c.val ≤ 57) ∨ c.val = 46 → Go.bits .or .u8 (c.val : Int) 32 ≠ 120 := by decide +kernel
theorem cp_dig : ∀ c : Fin 256, 48 ≤ c.val ∧ c.val ≤ 57 → Go.bits .or .u8 (c.val : Int) 32 ≠ 105 := by decide +kernel
/-- How a float's text begins. -/
theorem flo_head {L : List UInt8} (h : FloG L) : ∃ x y r, L = x :: y :: r ∧ (48 ≤ x.toNat ∧ x.toNat ≤ 57) ∧ ((48 ≤ y.toNat ∧ y.toNat ≤ 57) ∨ y.toNat = 46) := by
  obtain ⟨V, ⟨a, p, b, rfl, hp, ha, hane, _, _, _⟩, _⟩ := h
  match a, hane with
  | [x], _ => exact ⟨x, p, b ++ V, rfl, ha x (by simp), .inr hp⟩
  | x :: y :: q, _ => exact ⟨x, y, q ++ p :: (b ++ V), rfl, ha x (by simp), .inl (ha y (by simp))⟩
theorem flo_count {L : List UInt8} (h : FloG L) : L.count 46 = 1 := by
  obtain ⟨V, ⟨a, p, b, rfl, hp, ha, _, _, hb, _⟩, hV⟩ := h
  have hp' : p = 46 := byte_eq (n := 46) hp (by decide)
  have cV : V.count 46 = 0 := by
    rcases hV with rfl | ⟨c, r, q, rfl, h1, h2, hq, _, _⟩
    · rfl
    · refine List.count_eq_zero.2 fun hm => ?_
      rcases List.mem_cons.1 hm with h | hm
      · rw [← h] at h1; revert h1; decide
      · rcases h2 with rfl | ⟨g, hg, rfl⟩
        · exact absurd (dg_count hq) (by rw [List.count_eq_zero]; exact fun h => h hm)
        · rcases List.mem_cons.1 hm with h | hm
          · rw [← h] at hg; revert hg; decide
          · exact absurd (dg_count hq) (by rw [List.count_eq_zero]; exact fun h => h hm)
  rw [List.count_append, List.count_cons, List.count_append, dg_count ha, dg_count hb, cV, hp']
  rfl
theorem sp_dig {x : UInt8} {r : List UInt8} (hx : 48 ≤ x.toNat ∧ x.toNat ≤ 57) : spF (x :: r) = none := by
  rw [spF_cons, if_neg (by omega), if_neg (by omega), if_neg (by omega), if_neg (by omega)]
theorem sp_min {x : UInt8} {r : List UInt8} (hx : 48 ≤ x.toNat ∧ x.toNat ≤ 57) : spF (45 :: x :: r) = none := by
  rw [spF_cons, if_neg (by decide), if_pos (by decide)]
  have h0 : cpF (x :: r) infT.data.toList = 0 := by
    have : infT.data.toList = 105 :: infT.data.toList.drop 1 := rfl
    rw [this, cpF_cons]
    exact if_neg (by unfold lc; have : ((105 : UInt8).toNat : Int) = 105 := rfl; split <;> omega)
  unfold infF
  rw [h0]
  exact if_neg (by decide)
theorem hex_no {L : List UInt8} (h : FloG L) : hexat L = false := by
  obtain ⟨x, y, r, rfl, _, hy⟩ := flo_head h
  cases r with
  | nil => rfl
  | cons z q =>
    show decide (x.toNat = 48 ∧ low y = 120) = false
    exact decide_eq_false fun hh => low_dig ⟨y.toNat, y.toNat_lt⟩ hy hh.2
/-- A float behind a minus is no wrong text where the float is read. -/
theorem par_neg {H O X : Nat → Nat} {t : ByteArray} (hF : FloG t.data.toList) (hk : (parF H O X t).2 = 0) : (parF H O X (⟨#[45]⟩ ++ t)).2 = 0 ∨ (parF H O X (⟨#[45]⟩ ++ t)).2 = 1 := by
  obtain ⟨x, y, q, hL, hx, hy⟩ := flo_head hF
  have hl : (⟨#[45]⟩ ++ t : ByteArray).data.toList = 45 :: t.data.toList := by rw [ByteArray.data_append]; simp
  have hsz : (⟨#[45]⟩ ++ t : ByteArray).size = t.size + 1 := by rw [Lib.size_eq, hl, Lib.size_eq]; rfl
  have s1 : spF t.data.toList = none := by rw [hL]; exact sp_dig hx
  have s2 : spF (⟨#[45]⟩ ++ t : ByteArray).data.toList = none := by rw [hl, hL]; exact sp_min hx
  have g1 : sgn t.data.toList = (false, t.data.toList) := by rw [hL, sgn_cons, if_neg (by omega), if_neg (by omega)]
  have g2 : sgn (⟨#[45]⟩ ++ t : ByteArray).data.toList = (true, t.data.toList) := by rw [hl, sgn_cons, if_neg (by decide), if_pos (by decide)]
  unfold parF at hk ⊢
  rw [s1, g1] at hk
  rw [s2, g2]
  simp only at hk ⊢
  cases hr : readF t.data.toList with
  | none => rw [hr] at hk; cases hk
  | some r =>
    rw [hr] at hk
    simp only at hk ⊢
    have hts : 0 < t.size := by rw [Lib.size_eq, hL]; simp
    by_cases hz : t.size - r.rest.length = t.size
    · have hrest : r.rest = [] := List.length_eq_zero_iff.1 (by omega)
      rw [hrest, hsz, if_pos (by simp)]
      refine numF_k ?_
      rw [List.length_nil, Nat.sub_zero, List.take_of_length_le (by rw [hl, List.length_cons, ← Lib.size_eq]; omega), g2]
      exact read_set (hex_no hF) hr hrest
    · rw [if_neg hz] at hk; cases hk
theorem float_is {H O X : Nat → Nat} {mi : Bool} {s t : ByteArray} (hS : SgT mi s.data.toList t.data.toList) (hF : FloG t.data.toList) (hk : (parF H O X t).2 = 0) : numR H O X s = numFl H O X mi t ∧ Isnum (numFl H O X mi t) := by
  obtain ⟨x, y, q, hL, hx, hy⟩ := flo_head hF
  constructor
  · rw [numR_shape hS hL hx (flo_no hF) (by rw [flo_count hF]; exact Nat.le_refl _), flo_count hF]
    have no2 : ∀ b : UInt8, (57 < b.toNat) → hp t ⟨#[48, b]⟩ = false := fun b hb => by
      rw [hp2 t 48 b x y q hL, show (b == y) = false from beq_eq_false_iff_ne.mpr fun h => by rw [h] at hb; omega, Bool.and_false]
    unfold numM
    rw [no2 120 (by decide), no2 111 (by decide), no2 98 (by decide), if_neg (by decide), if_neg (by decide), if_neg (by decide), if_neg (by rintro ⟨_, _, h⟩; cases h), if_pos rfl]
  · unfold numFl
    cases mi
    · exact out_is (.inl hk) _ _ _
    · exact out_is (par_neg hF hk) _ _ _
/-- What AsNumber calls a number, toNumber calls a number. -/
theorem as_is {H O X : Nat → Nat} {s : ByteArray} {k b : Int} {mi : Bool} {z : Int} {x : Nat} (h : AsF H O X s k b mi z x) (hk : k ≠ 0) : Isnum (numR H O X s) := by
  rcases h with h | ⟨_, hb, rfl, c, d, r, h1, h2, h3, h4, h5⟩ | ⟨_, rfl, T, h1, h2, h3, h4, h5, _⟩ | ⟨_, _, _, t, h1, h2, h3, _⟩
  · exact absurd h hk
  · have hd : ∃ n : Nat, (b = n) ∧ ((n = 8 ∧ d.toNat = 111) ∨ (n = 16 ∧ d.toNat = 120)) := by
      rcases h3 with ⟨h, g⟩ | ⟨h, g⟩
      · exact ⟨8, h, .inl ⟨rfl, g⟩⟩
      · exact ⟨16, h, .inr ⟨rfl, g⟩⟩
    obtain ⟨n, rfl, hn⟩ := hd
    obtain ⟨⟨typ, e1⟩, e2⟩ := based_is (H := H) (O := O) (X := X) h1 h2 hn h4 h5
    rw [e1]
    exact numN_is e2
  · obtain ⟨e1, e2⟩ := dec_is (H := H) (O := O) (X := X) h1 h2 h3 h4 h5
    rw [e1]
    exact numN_is e2
  · obtain ⟨e1, e2⟩ := float_is (H := H) (O := O) (X := X) h1 h2 h3
    rw [e1]
    exact e2
end Go.Proofs.YtlkbhmmelejmjaaGreatDoor.AsFis

/- Known and nbKnown: what they tell of a text, as far as the laws of quotes ask (printed by wip/tools/qknow.py). -/
namespace Go.Proofs.YtlkbhmmelejmjaaGreatDoor.QKnow
open Go.RowKit Go.Proofs.YtlkbhmmelejmjaaGreatDoorW.PrintWords
set_option linter.unusedVariables false
set_option linter.unusedSimpArgs false


def SomeB (w : World) (e : Ending) (w' : World) : Prop := w = w' ∧ ∃ b, e = .returned (.bool b)
theorem digit_any (c : Int) (w : World) : Calls Tryz.prog 117 #[.int .u8 c] w (SomeB w) := by
  go_enter Tryz.func117, Tryz.ntmps117
  by_cases h1 : 48 ≤ c
  · by_cases h2 : c ≤ 57
    · go_wp2
      go_ret
      exact ⟨rfl, _, rfl⟩
    · go_wp2
      go_ret
      exact ⟨rfl, _, rfl⟩
  · go_wp2
    go_ret
    exact ⟨rfl, _, rfl⟩

def DigP (s : ByteArray) (lo : Int) (w : World) (e : Ending) (w' : World) : Prop := w = w' ∧ ∃ b, e = .returned (.bool b) ∧ (b = true → lo ≤ s.size)
set_option maxRecDepth 100000 in
theorem digits_any (s : ByteArray) (hs : s.size ≤ 140737488351232) (lo hi : Int) (w : World) : Calls Tryz.prog 98 #[.string s, .int .i64 lo, .int .i64 hi] w (DigP s lo w) := by
  have CD := digit_any
  go_enter Tryz.func98, Tryz.ntmps98
  go_wp2_with fail
  go_loop [7] (fun v => ∃ i : Nat, i ≤ s.size ∧ v = .int .i64 i) (fun v => s.size - (intOf v).toNat)
  case atStart => exact ⟨0, Nat.zero_le _, rfl⟩
  case round =>
    obtain ⟨i, hi, rfl⟩ := hrel
    by_cases hlt : i < s.size
    · go_wp2_with fail
      refine (CD _ _).mono ?_
      rintro e w' ⟨rfl, b, rfl⟩
      cases b
      · go_wp2_with fail
        go_ret
        exact ⟨rfl, false, rfl, fun h => by cases h⟩
      · go_wp2_with fail
        go_round
        case rel => exact ⟨i + 1, by omega, by go_num⟩
        case measure => simp [intOf]; omega
    · obtain rfl : i = s.size := by omega
      by_cases hlo : lo ≤ (s.size : Int)
      · go_wp2_with fail
        go_ret
        exact ⟨rfl, _, rfl, fun _ => hlo⟩
      · go_wp2_with fail
        go_ret
        exact ⟨rfl, _, rfl, fun h => by revert h; simp [hlo]⟩

theorem first_any (T : ByteArray) : ∃ c : Int, ∀ h, ((T[0]'h).toNat : Int) = c := by
  by_cases h : 0 < T.size
  · exact ⟨((T[0]'h).toNat : Int), fun _ => rfl⟩
  · exact ⟨0, fun h' => absurd h' h⟩
def NumK (w : World) (e : Ending) (w' : World) : Prop := w = w' ∧ ∃ n : Int, e = .returned (.int .i64 n) ∧ (n = 0 ∨ n = 3 ∨ n = 4)

set_option maxHeartbeats 8000000 in
set_option maxRecDepth 100000 in
theorem number_any (s : ByteArray) (hs : s.size ≤ 140737488351232) (w : World) : Calls Tryz.prog 78 #[.string s] w (NumK w) := by
  by_cases h0 : s.size = 0
  · have hemp : s.toList.isEmpty = true := by
      rw [Lib.toList_data]
      have := Lib.size_eq s
      rw [h0] at this
      rw [List.isEmpty_iff]
      exact List.length_eq_zero_iff.1 this.symm
    obtain ⟨T, hT⟩ : ∃ T, T = s := ⟨_, rfl⟩
    have hts : T.size ≤ 140737488351232 := by rw [hT]; exact hs
    rw [← hT] at hemp ⊢
    clear hT h0 hs
    go_enter Tryz.func78, Tryz.ntmps78
    go_wp2_with fail
    go_loop [3] (fun v => ∃ p : Nat, p ≤ T.size ∧ v = .int .i64 p) (fun v => T.size - (intOf v).toNat)
    case atStart => exact ⟨0, Nat.zero_le _, rfl⟩
    case round =>
      obtain ⟨p, hp, rfl⟩ := hrel
      have hwz : (T.extract 0 p).size = p := by rw [ByteArray.size_extract]; omega
      have key : ∀ (hc : p = T.size ∨ (p < T.size ∧ ∀ h, ((T[p]'h).toNat : Int) = 46)), True := fun _ => trivial
      by_cases hgo : p < T.size ∧ ∃ h, ((T[p]'h).toNat : Int) ≠ 46
      · obtain ⟨hlt, hh, hne⟩ := hgo
        have q46 : ∀ h, (((T[p]'h).toNat : Int) != 46) = true := fun h => bne_iff_ne.mpr hne
        have d1 : decide ((p : Int) < (T.size : Int)) = true := decide_eq_true (by omega)
        clear hwz hne
        go_wp2_with fail
        go_round
        case rel => exact ⟨p + 1, by omega, by go_num⟩
        case measure => simp [intOf]; omega
      · have hst : (p = T.size ∧ decide ((p : Int) < (T.size : Int)) = false) ∨ (p < T.size ∧ decide ((p : Int) < (T.size : Int)) = true ∧ ∀ h, (((T[p]'h).toNat : Int) != 46) = false) := by
          by_cases hlt : p < T.size
          · refine .inr ⟨hlt, decide_eq_true (by omega), fun h => ?_⟩
            rw [bne_eq_false_iff_eq]
            exact Decidable.byContradiction fun hn => hgo ⟨hlt, h, hn⟩
          · exact .inl ⟨by omega, decide_eq_false (by omega)⟩
        have CW := digits_any (T.extract 0 p) (by omega) 1 18
        unfold DigP at CW
        rw [hwz] at CW
        have CW := Aside0.mk CW
        clear hgo
        rcases hst with ⟨hpe, d1⟩ | ⟨hlt, d1, q46⟩
        · subst hpe
          have CT := Aside0.mk (digits_any T hts 1 18)
          unfold DigP at CT
          clear hwz CW d1
          go_wp2_with fail
          refine (CT.out _).mono ?_
          rintro e w' ⟨rfl, b, rfl, hb⟩
          cases b
          case false =>
            clear hb
            go_wp2_with fail
            go_ret
            exact ⟨rfl, 0, rfl, .inl rfl⟩
          have hp1 : 1 ≤ T.size := by have := hb rfl; omega
          clear hb
          have hz0 : 0 < T.size := by omega
          obtain ⟨c0, hc0⟩ : ∃ c : Int, ∀ h, ((T[0]'h).toNat : Int) = c := first_any T
          by_cases h48 : c0 = 48
          · have q48 : (c0 == 48) = true := beq_iff_eq.mpr h48
            clear h48
            by_cases h1p : 1 < T.size
            · have d3 : decide ((1 : Int) < (T.size : Int)) = true := decide_eq_true (by omega)
              go_wp2_with fail
              go_ret
              exact ⟨rfl, _, rfl, by omega⟩
            · have d3 : decide ((1 : Int) < (T.size : Int)) = false := decide_eq_false (by omega)
              go_wp2_with fail
              go_ret
              exact ⟨rfl, _, rfl, by omega⟩
          · have q48 : (c0 == 48) = false := beq_eq_false_iff_ne.mpr h48
            clear h48
            go_wp2_with fail
            go_ret
            exact ⟨rfl, _, rfl, by omega⟩
        · have qpe : ((p : Int) == (T.size : Int)) = false := beq_eq_false_iff_ne.mpr (by omega)
          have hxz : (T.extract (p + 1) T.size).size ≤ 140737488351232 := by rw [ByteArray.size_extract]; omega
          have CV := Aside0.mk (digits_any (T.extract (p + 1) T.size) hxz 1 6)
          unfold DigP at CV
          have HWZ := Aside0.mk hwz
          clear hwz hxz
          go_wp2_with fail
          refine (CW.out _).mono ?_
          rintro e w' ⟨rfl, b, rfl, hb⟩
          cases b
          case false =>
            clear hb
            go_wp2_with fail
            go_ret
            exact ⟨rfl, 0, rfl, .inl rfl⟩
          have hp1 : 1 ≤ p := by have := hb rfl; omega
          clear hb
          have hz0 : 0 < (T.extract 0 p).size := by rw [HWZ.out]; omega
          have hzz : ((T.extract 0 p).size : Int) = (p : Int) := by rw [HWZ.out]
          obtain ⟨c0, hc0⟩ : ∃ c : Int, ∀ h, (((T.extract 0 p)[0]'h).toNat : Int) = c := first_any _
          by_cases h48 : c0 = 48
          · have q48 : (c0 == 48) = true := beq_iff_eq.mpr h48
            clear h48
            by_cases h1p : 1 < p
            · have d3 : decide ((1 : Int) < (p : Int)) = true := decide_eq_true (by omega)
              go_wp2_with fail
              go_ret
              exact ⟨rfl, _, rfl, by omega⟩
            · have d3 : decide ((1 : Int) < (p : Int)) = false := decide_eq_false (by omega)
              go_wp2_with fail
              refine (CV.out _).mono ?_
              rintro e w' ⟨rfl, b, rfl, hb⟩
              cases b
              all_goals
                clear hb
                go_wp2_with fail
                go_ret
                exact ⟨rfl, _, rfl, by omega⟩
          · have q48 : (c0 == 48) = false := beq_eq_false_iff_ne.mpr h48
            clear h48
            go_wp2_with fail
            refine (CV.out _).mono ?_
            rintro e w' ⟨rfl, b, rfl, hb⟩
            cases b
            all_goals
              clear hb
              go_wp2_with fail
              go_ret
              exact ⟨rfl, _, rfl, by omega⟩
  · have hemp : s.toList.isEmpty = false := by
      rw [Lib.toList_data]
      cases hB : s.data.toList with
      | nil => have := Lib.size_eq s; rw [hB] at this; exact absurd this h0
      | cons a l => rfl
    have hp : 0 < s.size := by omega
    obtain ⟨v0, hv0⟩ : ∃ v : Int, ∀ h, ((s[0]'h).toNat : Int) = v := first_any s
    by_cases hsg : v0 = 45 ∨ v0 = 43
    · have hq : (v0 == 45) = true ∨ ((v0 == 45) = false ∧ (v0 == 43) = true) := by
        rcases hsg with h | h
        · exact .inl (by rw [h]; rfl)
        · exact .inr ⟨by rw [h]; rfl, by rw [h]; rfl⟩
      have hxs : (s.extract 1 s.size).size ≤ 140737488351232 := by rw [ByteArray.size_extract]; omega
      have h1s : 1 ≤ s.size := by omega
      clear hsg
      rcases hq with q | ⟨q, q'⟩
      all_goals
        go_enter Tryz.func78, Tryz.ntmps78
        go_wp2_with fail
        generalize s.extract 1 s.size = T at hxs ⊢
        have hts : T.size ≤ 140737488351232 := hxs
        go_loop [3] (fun v => ∃ p : Nat, p ≤ T.size ∧ v = .int .i64 p) (fun v => T.size - (intOf v).toNat)
        case atStart => exact ⟨0, Nat.zero_le _, rfl⟩
        case round =>
          obtain ⟨p, hp, rfl⟩ := hrel
          have hwz : (T.extract 0 p).size = p := by rw [ByteArray.size_extract]; omega
          have key : ∀ (hc : p = T.size ∨ (p < T.size ∧ ∀ h, ((T[p]'h).toNat : Int) = 46)), True := fun _ => trivial
          by_cases hgo : p < T.size ∧ ∃ h, ((T[p]'h).toNat : Int) ≠ 46
          · obtain ⟨hlt, hh, hne⟩ := hgo
            have q46 : ∀ h, (((T[p]'h).toNat : Int) != 46) = true := fun h => bne_iff_ne.mpr hne
            have d1 : decide ((p : Int) < (T.size : Int)) = true := decide_eq_true (by omega)
            clear hwz hne
            go_wp2_with fail
            go_round
            case rel => exact ⟨p + 1, by omega, by go_num⟩
            case measure => simp [intOf]; omega
          · have hst : (p = T.size ∧ decide ((p : Int) < (T.size : Int)) = false) ∨ (p < T.size ∧ decide ((p : Int) < (T.size : Int)) = true ∧ ∀ h, (((T[p]'h).toNat : Int) != 46) = false) := by
              by_cases hlt : p < T.size
              · refine .inr ⟨hlt, decide_eq_true (by omega), fun h => ?_⟩
                rw [bne_eq_false_iff_eq]
                exact Decidable.byContradiction fun hn => hgo ⟨hlt, h, hn⟩
              · exact .inl ⟨by omega, decide_eq_false (by omega)⟩
            have CW := digits_any (T.extract 0 p) (by omega) 1 18
            unfold DigP at CW
            rw [hwz] at CW
            have CW := Aside0.mk CW
            clear hgo
            rcases hst with ⟨hpe, d1⟩ | ⟨hlt, d1, q46⟩
            · subst hpe
              have CT := Aside0.mk (digits_any T hts 1 18)
              unfold DigP at CT
              clear hwz CW d1
              go_wp2_with fail
              refine (CT.out _).mono ?_
              rintro e w' ⟨rfl, b, rfl, hb⟩
              cases b
              case false =>
                clear hb
                go_wp2_with fail
                go_ret
                exact ⟨rfl, 0, rfl, .inl rfl⟩
              have hp1 : 1 ≤ T.size := by have := hb rfl; omega
              clear hb
              have hz0 : 0 < T.size := by omega
              obtain ⟨c0, hc0⟩ : ∃ c : Int, ∀ h, ((T[0]'h).toNat : Int) = c := first_any T
              by_cases h48 : c0 = 48
              · have q48 : (c0 == 48) = true := beq_iff_eq.mpr h48
                clear h48
                by_cases h1p : 1 < T.size
                · have d3 : decide ((1 : Int) < (T.size : Int)) = true := decide_eq_true (by omega)
                  go_wp2_with fail
                  go_ret
                  exact ⟨rfl, _, rfl, by omega⟩
                · have d3 : decide ((1 : Int) < (T.size : Int)) = false := decide_eq_false (by omega)
                  go_wp2_with fail
                  go_ret
                  exact ⟨rfl, _, rfl, by omega⟩
              · have q48 : (c0 == 48) = false := beq_eq_false_iff_ne.mpr h48
                clear h48
                go_wp2_with fail
                go_ret
                exact ⟨rfl, _, rfl, by omega⟩
            · have qpe : ((p : Int) == (T.size : Int)) = false := beq_eq_false_iff_ne.mpr (by omega)
              have hxz : (T.extract (p + 1) T.size).size ≤ 140737488351232 := by rw [ByteArray.size_extract]; omega
              have CV := Aside0.mk (digits_any (T.extract (p + 1) T.size) hxz 1 6)
              unfold DigP at CV
              have HWZ := Aside0.mk hwz
              clear hwz hxz
              go_wp2_with fail
              refine (CW.out _).mono ?_
              rintro e w' ⟨rfl, b, rfl, hb⟩
              cases b
              case false =>
                clear hb
                go_wp2_with fail
                go_ret
                exact ⟨rfl, 0, rfl, .inl rfl⟩
              have hp1 : 1 ≤ p := by have := hb rfl; omega
              clear hb
              have hz0 : 0 < (T.extract 0 p).size := by rw [HWZ.out]; omega
              have hzz : ((T.extract 0 p).size : Int) = (p : Int) := by rw [HWZ.out]
              obtain ⟨c0, hc0⟩ : ∃ c : Int, ∀ h, (((T.extract 0 p)[0]'h).toNat : Int) = c := first_any _
              by_cases h48 : c0 = 48
              · have q48 : (c0 == 48) = true := beq_iff_eq.mpr h48
                clear h48
                by_cases h1p : 1 < p
                · have d3 : decide ((1 : Int) < (p : Int)) = true := decide_eq_true (by omega)
                  go_wp2_with fail
                  go_ret
                  exact ⟨rfl, _, rfl, by omega⟩
                · have d3 : decide ((1 : Int) < (p : Int)) = false := decide_eq_false (by omega)
                  go_wp2_with fail
                  refine (CV.out _).mono ?_
                  rintro e w' ⟨rfl, b, rfl, hb⟩
                  cases b
                  all_goals
                    clear hb
                    go_wp2_with fail
                    go_ret
                    exact ⟨rfl, _, rfl, by omega⟩
              · have q48 : (c0 == 48) = false := beq_eq_false_iff_ne.mpr h48
                clear h48
                go_wp2_with fail
                refine (CV.out _).mono ?_
                rintro e w' ⟨rfl, b, rfl, hb⟩
                cases b
                all_goals
                  clear hb
                  go_wp2_with fail
                  go_ret
                  exact ⟨rfl, _, rfl, by omega⟩
    · have q : (v0 == 45) = false := beq_eq_false_iff_ne.mpr fun h => hsg (.inl h)
      have q' : (v0 == 43) = false := beq_eq_false_iff_ne.mpr fun h => hsg (.inr h)
      clear hsg
      go_enter Tryz.func78, Tryz.ntmps78
      go_wp2_with fail
      obtain ⟨T, hT⟩ : ∃ T, T = s := ⟨_, rfl⟩
      have hts : T.size ≤ 140737488351232 := by rw [hT]; exact hs
      simp only [← hT]
      clear hT
      go_loop [3] (fun v => ∃ p : Nat, p ≤ T.size ∧ v = .int .i64 p) (fun v => T.size - (intOf v).toNat)
      case atStart => exact ⟨0, Nat.zero_le _, rfl⟩
      case round =>
        obtain ⟨p, hp, rfl⟩ := hrel
        have hwz : (T.extract 0 p).size = p := by rw [ByteArray.size_extract]; omega
        have key : ∀ (hc : p = T.size ∨ (p < T.size ∧ ∀ h, ((T[p]'h).toNat : Int) = 46)), True := fun _ => trivial
        by_cases hgo : p < T.size ∧ ∃ h, ((T[p]'h).toNat : Int) ≠ 46
        · obtain ⟨hlt, hh, hne⟩ := hgo
          have q46 : ∀ h, (((T[p]'h).toNat : Int) != 46) = true := fun h => bne_iff_ne.mpr hne
          have d1 : decide ((p : Int) < (T.size : Int)) = true := decide_eq_true (by omega)
          clear hwz hne
          go_wp2_with fail
          go_round
          case rel => exact ⟨p + 1, by omega, by go_num⟩
          case measure => simp [intOf]; omega
        · have hst : (p = T.size ∧ decide ((p : Int) < (T.size : Int)) = false) ∨ (p < T.size ∧ decide ((p : Int) < (T.size : Int)) = true ∧ ∀ h, (((T[p]'h).toNat : Int) != 46) = false) := by
            by_cases hlt : p < T.size
            · refine .inr ⟨hlt, decide_eq_true (by omega), fun h => ?_⟩
              rw [bne_eq_false_iff_eq]
              exact Decidable.byContradiction fun hn => hgo ⟨hlt, h, hn⟩
            · exact .inl ⟨by omega, decide_eq_false (by omega)⟩
          have CW := digits_any (T.extract 0 p) (by omega) 1 18
          unfold DigP at CW
          rw [hwz] at CW
          have CW := Aside0.mk CW
          clear hgo
          rcases hst with ⟨hpe, d1⟩ | ⟨hlt, d1, q46⟩
          · subst hpe
            have CT := Aside0.mk (digits_any T hts 1 18)
            unfold DigP at CT
            clear hwz CW d1
            go_wp2_with fail
            refine (CT.out _).mono ?_
            rintro e w' ⟨rfl, b, rfl, hb⟩
            cases b
            case false =>
              clear hb
              go_wp2_with fail
              go_ret
              exact ⟨rfl, 0, rfl, .inl rfl⟩
            have hp1 : 1 ≤ T.size := by have := hb rfl; omega
            clear hb
            have hz0 : 0 < T.size := by omega
            obtain ⟨c0, hc0⟩ : ∃ c : Int, ∀ h, ((T[0]'h).toNat : Int) = c := first_any T
            by_cases h48 : c0 = 48
            · have q48 : (c0 == 48) = true := beq_iff_eq.mpr h48
              clear h48
              by_cases h1p : 1 < T.size
              · have d3 : decide ((1 : Int) < (T.size : Int)) = true := decide_eq_true (by omega)
                go_wp2_with fail
                go_ret
                exact ⟨rfl, _, rfl, by omega⟩
              · have d3 : decide ((1 : Int) < (T.size : Int)) = false := decide_eq_false (by omega)
                go_wp2_with fail
                go_ret
                exact ⟨rfl, _, rfl, by omega⟩
            · have q48 : (c0 == 48) = false := beq_eq_false_iff_ne.mpr h48
              clear h48
              go_wp2_with fail
              go_ret
              exact ⟨rfl, _, rfl, by omega⟩
          · have qpe : ((p : Int) == (T.size : Int)) = false := beq_eq_false_iff_ne.mpr (by omega)
            have hxz : (T.extract (p + 1) T.size).size ≤ 140737488351232 := by rw [ByteArray.size_extract]; omega
            have CV := Aside0.mk (digits_any (T.extract (p + 1) T.size) hxz 1 6)
            unfold DigP at CV
            have HWZ := Aside0.mk hwz
            clear hwz hxz
            go_wp2_with fail
            refine (CW.out _).mono ?_
            rintro e w' ⟨rfl, b, rfl, hb⟩
            cases b
            case false =>
              clear hb
              go_wp2_with fail
              go_ret
              exact ⟨rfl, 0, rfl, .inl rfl⟩
            have hp1 : 1 ≤ p := by have := hb rfl; omega
            clear hb
            have hz0 : 0 < (T.extract 0 p).size := by rw [HWZ.out]; omega
            have hzz : ((T.extract 0 p).size : Int) = (p : Int) := by rw [HWZ.out]
            obtain ⟨c0, hc0⟩ : ∃ c : Int, ∀ h, (((T.extract 0 p)[0]'h).toNat : Int) = c := first_any _
            by_cases h48 : c0 = 48
            · have q48 : (c0 == 48) = true := beq_iff_eq.mpr h48
              clear h48
              by_cases h1p : 1 < p
              · have d3 : decide ((1 : Int) < (p : Int)) = true := decide_eq_true (by omega)
                go_wp2_with fail
                go_ret
                exact ⟨rfl, _, rfl, by omega⟩
              · have d3 : decide ((1 : Int) < (p : Int)) = false := decide_eq_false (by omega)
                go_wp2_with fail
                refine (CV.out _).mono ?_
                rintro e w' ⟨rfl, b, rfl, hb⟩
                cases b
                all_goals
                  clear hb
                  go_wp2_with fail
                  go_ret
                  exact ⟨rfl, _, rfl, by omega⟩
            · have q48 : (c0 == 48) = false := beq_eq_false_iff_ne.mpr h48
              clear h48
              go_wp2_with fail
              refine (CV.out _).mono ?_
              rintro e w' ⟨rfl, b, rfl, hb⟩
              cases b
              all_goals
                clear hb
                go_wp2_with fail
                go_ret
                exact ⟨rfl, _, rfl, by omega⟩

def nullW : List (List UInt8) := [[], [110, 117, 108, 108], [78, 117, 108, 108], [78, 85, 76, 76], [126]]
def boolW : List (List UInt8) := [[116, 114, 117, 101], [84, 114, 117, 101], [84, 82, 85, 69], [102, 97, 108, 115, 101], [70, 97, 108, 115, 101], [70, 65, 76, 83, 69]]
def oddW : List (List UInt8) := [[46, 105, 110, 102], [46, 73, 110, 102], [46, 73, 78, 70], [45, 46, 105, 110, 102], [45, 46, 73, 110, 102], [45, 46, 73, 78, 70], [43, 46, 105, 110, 102], [43, 46, 73, 110, 102], [43, 46, 73, 78, 70], [46, 110, 97, 110], [46, 78, 97, 78], [46, 78, 65, 78]]
/-- What Known tells: a null, a truth value just at their words; an infinity or no number just at theirs. -/
def KnP (s : ByteArray) (w : World) (e : Ending) (w' : World) : Prop := w = w' ∧ ∃ n : Int, e = .returned (.int .i64 n) ∧ (n = 1 → s.toList ∈ nullW) ∧ (n = 2 → s.toList ∈ boolW) ∧ (n = 5 ∨ n = 6 ↔ s.toList ∈ oddW)
set_option maxHeartbeats 8000000 in
set_option maxRecDepth 100000 in
theorem known_any (s : ByteArray) (hs : s.size ≤ 140737488351232) (w : World) : Calls Tryz.prog 29 #[.string s] w (KnP s w) := by
  have CN := Aside0.mk (number_any s hs)
  unfold KnP
  by_cases h0 : s.toList ∈ nullW
  · have fin : ∀ e w', (w = w' ∧ e = .returned (.int .i64 1)) → KnP s w e w' := fun e w' h => ⟨h.1, 1, h.2, fun _ => h0, fun h => absurd h (by decide), ⟨fun h => absurd h (by decide), fun h => absurd h (by
      simp only [nullW, List.mem_cons, List.not_mem_nil, or_false] at h0
      rcases h0 with h0 | h0 | h0 | h0 | h0 <;> (rw [h0]; decide))⟩⟩
    refine Calls.mono ?_ fin
    clear fin
    simp only [nullW, List.mem_cons, List.not_mem_nil, or_false] at h0
    rcases h0 with h0 | h0 | h0 | h0 | h0
    all_goals
      go_enter Tryz.func29, Tryz.ntmps29
      go_wp2
      go_ret
      exact ⟨rfl, rfl⟩
  by_cases h1 : s.toList ∈ boolW
  · have fin : ∀ e w', (w = w' ∧ e = .returned (.int .i64 2)) → KnP s w e w' := fun e w' h => ⟨h.1, 2, h.2, fun h => absurd h (by decide), fun _ => h1, ⟨fun h => absurd h (by decide), fun h => absurd h (by
      simp only [boolW, List.mem_cons, List.not_mem_nil, or_false] at h1
      rcases h1 with h1 | h1 | h1 | h1 | h1 | h1 <;> (rw [h1]; decide))⟩⟩
    refine Calls.mono ?_ fin
    clear fin h0
    simp only [boolW, List.mem_cons, List.not_mem_nil, or_false] at h1
    rcases h1 with h1 | h1 | h1 | h1 | h1 | h1
    all_goals
      go_enter Tryz.func29, Tryz.ntmps29
      go_wp2
      go_ret
      exact ⟨rfl, rfl⟩
  by_cases h2 : s.toList ∈ oddW
  · have fin : ∀ e w', (w = w' ∧ ∃ n : Int, e = .returned (.int .i64 n) ∧ (n = 5 ∨ n = 6)) → KnP s w e w' := fun e w' ⟨h, n, hn, hnn⟩ => ⟨h, n, hn, fun h => absurd h (by omega), fun h => absurd h (by omega), ⟨fun _ => h2, fun _ => hnn⟩⟩
    refine Calls.mono ?_ fin
    clear fin h0 h1
    simp only [oddW, List.mem_cons, List.not_mem_nil, or_false] at h2
    rcases h2 with h2 | h2 | h2 | h2 | h2 | h2 | h2 | h2 | h2 | h2 | h2 | h2
    all_goals
      go_enter Tryz.func29, Tryz.ntmps29
      go_wp2
      go_ret
      exact ⟨rfl, _, rfl, by decide⟩
  have fin : ∀ e w', NumK w e w' → KnP s w e w' := fun e w' ⟨h, n, hn, hnn⟩ => ⟨h, n, hn, fun h => absurd h (by omega), fun h => absurd h (by omega), ⟨fun h => absurd h (by omega), fun h => absurd h h2⟩⟩
  refine Calls.mono ?_ fin
  clear fin
  simp only [nullW, boolW, oddW, List.mem_cons, List.not_mem_nil, or_false, not_or] at h0 h1 h2
  have z0 : (s.toList == []) = false := beq_eq_false_iff_ne.mpr h0.1
  have z1 : (s.toList == [110, 117, 108, 108]) = false := beq_eq_false_iff_ne.mpr h0.2.1
  have z2 : (s.toList == [78, 117, 108, 108]) = false := beq_eq_false_iff_ne.mpr h0.2.2.1
  have z3 : (s.toList == [78, 85, 76, 76]) = false := beq_eq_false_iff_ne.mpr h0.2.2.2.1
  have z4 : (s.toList == [126]) = false := beq_eq_false_iff_ne.mpr h0.2.2.2.2
  have b0 : (s.toList == [116, 114, 117, 101]) = false := beq_eq_false_iff_ne.mpr h1.1
  have b1 : (s.toList == [84, 114, 117, 101]) = false := beq_eq_false_iff_ne.mpr h1.2.1
  have b2 : (s.toList == [84, 82, 85, 69]) = false := beq_eq_false_iff_ne.mpr h1.2.2.1
  have b3 : (s.toList == [102, 97, 108, 115, 101]) = false := beq_eq_false_iff_ne.mpr h1.2.2.2.1
  have b4 : (s.toList == [70, 97, 108, 115, 101]) = false := beq_eq_false_iff_ne.mpr h1.2.2.2.2.1
  have b5 : (s.toList == [70, 65, 76, 83, 69]) = false := beq_eq_false_iff_ne.mpr h1.2.2.2.2.2
  have o0 : (s.toList == [46, 105, 110, 102]) = false := beq_eq_false_iff_ne.mpr h2.1
  have o1 : (s.toList == [46, 73, 110, 102]) = false := beq_eq_false_iff_ne.mpr h2.2.1
  have o2 : (s.toList == [46, 73, 78, 70]) = false := beq_eq_false_iff_ne.mpr h2.2.2.1
  have o3 : (s.toList == [45, 46, 105, 110, 102]) = false := beq_eq_false_iff_ne.mpr h2.2.2.2.1
  have o4 : (s.toList == [45, 46, 73, 110, 102]) = false := beq_eq_false_iff_ne.mpr h2.2.2.2.2.1
  have o5 : (s.toList == [45, 46, 73, 78, 70]) = false := beq_eq_false_iff_ne.mpr h2.2.2.2.2.2.1
  have o6 : (s.toList == [43, 46, 105, 110, 102]) = false := beq_eq_false_iff_ne.mpr h2.2.2.2.2.2.2.1
  have o7 : (s.toList == [43, 46, 73, 110, 102]) = false := beq_eq_false_iff_ne.mpr h2.2.2.2.2.2.2.2.1
  have o8 : (s.toList == [43, 46, 73, 78, 70]) = false := beq_eq_false_iff_ne.mpr h2.2.2.2.2.2.2.2.2.1
  have o9 : (s.toList == [46, 110, 97, 110]) = false := beq_eq_false_iff_ne.mpr h2.2.2.2.2.2.2.2.2.2.1
  have o10 : (s.toList == [46, 78, 97, 78]) = false := beq_eq_false_iff_ne.mpr h2.2.2.2.2.2.2.2.2.2.2.1
  have o11 : (s.toList == [46, 78, 65, 78]) = false := beq_eq_false_iff_ne.mpr h2.2.2.2.2.2.2.2.2.2.2.2
  clear h0 h1 h2
  go_enter Tryz.func29, Tryz.ntmps29
  go_wp2_with fail
  refine (CN.out _).mono ?_
  rintro e w1 ⟨rfl, n, rfl, hn⟩
  have HN := Aside0.mk hn
  clear hn
  go_wp2_with fail
  go_ret
  exact ⟨rfl, n, rfl, HN.out⟩
end Go.Proofs.YtlkbhmmelejmjaaGreatDoor.QKnow

/- What is bare; IsNeedQuoted of nothing; NeedsQuotes. -/
namespace Go.Proofs.YtlkbhmmelejmjaaGreatDoor.QBare
open Go.RowKit Go.Proofs.YtlkbhmmelejmjaaGreatDoorW.PrintWords Go.Proofs.YtlkbhmmelejmjaaGreatDoor.NumErr Go.Proofs.YtlkbhmmelejmjaaGreatDoor.NumAny Go.Proofs.YtlkbhmmelejmjaaGreatDoor.NumAll Go.Proofs.YtlkbhmmelejmjaaGreatDoor.NumIs Go.Proofs.YtlkbhmmelejmjaaGreatDoor.FltAtof Go.Proofs.YtlkbhmmelejmjaaGreatDoor.NumPure Go.Proofs.YtlkbhmmelejmjaaGreatDoor.QKnown Go.Proofs.YtlkbhmmelejmjaaGreatDoor.Utf Go.Proofs.YtlkbhmmelejmjaaGreatDoor.QEnc Go.Proofs.YtlkbhmmelejmjaaGreatDoor.Runes Go.Proofs.YtlkbhmmelejmjaaGreatDoor.QNeed Go.Proofs.YtlkbhmmelejmjaaGreatDoor.QKnow
set_option linter.unusedVariables false
set_option linter.unusedSimpArgs false
attribute [local go_sem ↓] Go.wp_at_zero Go.wp_at_succ

def Same (b : Bool) (w : World) (e : Ending) (w' : World) : Prop := e = .returned (.bool b) ∧ ∃ m, w' = w.drewN m
theorem has_l0 (v : ByteArray) (hs : v.size ≤ 2305843009213693952) : ∀ (d i : Nat), v.size - i ≤ d → i ≤ v.size → ∃ r, spec_Has.l0 (3 * d + 1) v ⟨#[9]⟩ (i : Int) = some r ∧ (r = false → ∀ j, i ≤ j → (h : j < v.size) → v[j] ≠ 9)
  | 0, i, h1, h2 => by
    obtain rfl : i = v.size := by omega
    refine ⟨false, ?_, fun _ j hj h => absurd h (by omega)⟩
    simp only [spec_Has.l0]
    rw [if_neg (by omega)]
  | d + 1, i, h1, h2 => by
    by_cases hlt : i < v.size
    · obtain ⟨r, hr, hj⟩ := has_l0 v hs d (i + 1) (by omega) (by omega)
      have hb0 : bt v (i : Int) = ((v[i]).toNat : Int) := by rw [← bt_at v (i : Int) hlt]; rfl
      have hw1 : wrap64 ((0 : Int) + 1) = 1 := by unfold wrap64; omega
      have hwi : wrap64 ((i : Int) + 1) = ((i + 1 : Nat) : Int) := by unfold wrap64; omega
      have hp0 : bt ⟨#[9]⟩ 0 = 9 := rfl
      have hz : ((⟨#[9]⟩ : ByteArray).size : Int) = 1 := rfl
      by_cases e0 : bt v (i : Int) = 9
      · refine ⟨true, ?_, fun e => by cases e⟩
        show spec_Has.l0 (3 * d + 1 + 1 + 1 + 1) v ⟨#[9]⟩ (i : Int) = some true
        simp only [spec_Has.l0, spec_Has.l1]
        rw [if_pos (by omega), hz, if_pos (by omega), if_pos (by omega), if_pos (by omega), if_pos (by omega), if_pos (by rw [hp0]; exact e0)]
      · refine ⟨r, ?_, fun hf j hij h => ?_⟩
        · show spec_Has.l0 (3 * d + 1 + 1 + 1 + 1) v ⟨#[9]⟩ (i : Int) = some r
          have : spec_Has.l0 (3 * d + 1 + 1 + 1 + 1) v ⟨#[9]⟩ (i : Int) = spec_Has.l0 (3 * d + 1) v ⟨#[9]⟩ ((i + 1 : Nat) : Int) := by
            conv => lhs; unfold spec_Has.l0
            rw [if_pos (by omega)]
            conv => lhs; unfold spec_Has.l1
            rw [hz, if_pos (by omega), if_pos (by omega), if_pos (by omega), if_pos (by omega), if_neg (by rw [hp0]; exact e0), hw1]
            conv => lhs; unfold spec_Has.l1
            rw [hz, if_neg (by omega), hwi]
          rw [this]; exact hr
        · by_cases hji : j = i
          · subst hji
            rw [hb0] at e0
            exact fun e => e0 (by rw [e]; rfl)
          · exact hj hf j (by omega) h
    · refine ⟨false, ?_, fun _ j hj h => absurd h (by omega)⟩
      show spec_Has.l0 (3 * d + 3 + 1) v ⟨#[9]⟩ (i : Int) = some false
      simp only [spec_Has.l0]
      rw [if_neg (by omega)]
theorem has_tab (v : ByteArray) (hs : v.size ≤ 2305843009213693952) : ∃ r : Bool, (∀ w, Calls Tryz.prog 31 #[.string v, .string ⟨#[9]⟩] w (Same r w)) ∧ (r = false → (9 : UInt8) ∉ v.data.toList) := by
  obtain ⟨r, hr, hj⟩ := has_l0 v hs v.size 0 (by omega) (by omega)
  refine ⟨r, fun w => (spec_Has.calls _ v ⟨#[9]⟩ r w hr).mono fun e w' ⟨h1, m, h2⟩ => ⟨h1, m, h2⟩, fun hf hm => ?_⟩
  obtain ⟨j, hj1, hj2⟩ := List.mem_iff_getElem.1 hm
  exact (hj hf j (by omega) (by rw [Lib.size_eq]; exact hj1)) hj2
theorem begins_c (s p : ByteArray) (W : World) : Calls Tryz.prog 32 #[.string s, .string p] W (Same (hp s p) W) := by
  refine (spec_Begins.calls s p (hp s p) W ?_).mono fun e w' ⟨h1, m, h2⟩ => ⟨h1, m, h2⟩
  have h := Lib.hasPrefix_raw s p
  unfold spec_Begins.f hp
  rw [← h]
  by_cases hc : p.size ≤ s.size
  · rw [if_pos (by omega), if_pos (by omega), if_pos (by omega), decide_eq_true hc, Bool.true_and, Int.toNat_natCast]
  · rw [if_neg (by omega), decide_eq_false hc, Bool.false_and]

/-- A bare line: what the laws of quotes speak of. -/
structure BareF (s : ByteArray) (rs : List Int) : Prop where
  size : s.size ≤ 65536
  sc : ∀ r ∈ rs, Scalar r
  enc : B s = enc rs
  al : all false rs = true
  tab : (9 : UInt8) ∉ s.data.toList
  ask : hp s ⟨#[63]⟩ = false
  dash : hp s ⟨#[45, 45, 45]⟩ = false
  dots : hp s ⟨#[46, 46, 46]⟩ = false
  odd : s.toList ∉ oddW
def BareP (s : ByteArray) (w : World) (e : Ending) (w' : World) : Prop := Below w.heap.size w w' ∧ ∃ b, e = .returned (.bool b) ∧ (b = true → ∃ rs, BareF s rs)

set_option maxHeartbeats 8000000 in
set_option maxRecDepth 100000 in
theorem bare_walk (s : ByteArray) (hs : s.size ≤ 140737488351232) (w : World) (hT : Tabs w) : Calls Tryz.prog 16 #[.string s] w (BareP s w) := by
  have CK := Aside0.mk (known_any s hs w)
  obtain ⟨r1, hH, htab⟩ := has_tab s (by omega)
  replace hH := Aside0.mk hH
  have CB := begins_c s
  by_cases hm : mayStand false s
  case neg =>
    have CR := Aside0.mk (row_no s w hT hs hm)
    clear hm hT htab
    go_enter Tryz.func16, Tryz.ntmps16
    go_wp2_with fail
    refine CK.out.mono ?_
    rintro e w0 ⟨rfl, n, rfl, hn⟩
    have HN := Aside0.mk hn
    clear hn
    go_wp2_with fail
    refine CR.out.mono ?_
    rintro e w1 ⟨rfl, b1⟩
    have B1 := Aside0.mk b1
    clear b1
    go_wp2_with fail
    go_ret
    exact ⟨B1.out, false, rfl, fun h => by cases h⟩
  have CR := Aside0.mk (row_yes s w hT hm)
  have HM := Aside0.mk hm
  have HTB := Aside0.mk htab
  clear hm hT htab
  go_enter Tryz.func16, Tryz.ntmps16
  go_wp2_with fail
  refine CK.out.mono ?_
  rintro e w0 ⟨rfl, n, rfl, hn⟩
  have HN := Aside0.mk hn
  clear hn
  go_wp2_with fail
  refine CR.out.mono ?_
  rintro e w1 ⟨rfl, b1⟩
  have B1 := Aside0.mk b1
  clear b1
  have fin : ∀ (b : Bool) (m : Nat), (b = true → r1 = false ∧ hp s ⟨#[63]⟩ = false ∧ hp s ⟨#[45, 45, 45]⟩ = false ∧ hp s ⟨#[46, 46, 46]⟩ = false ∧ n ≠ 5 ∧ n ≠ 6) → BareP s w (.returned (.bool b)) (w1.drewN m) := fun b m h => ⟨pw_below_drewN B1.out m, b, rfl, fun hb => by
    obtain ⟨h1, h2, h3, h4, h5, h6⟩ := h hb
    obtain ⟨m1, rs, m2, m3, m4⟩ := HM.out
    exact ⟨rs, m1, m2, m3, m4, HTB.out h1, h2, h3, h4, fun ho => by rcases HN.out.2.2.2 ho with h | h; exact h5 h; exact h6 h⟩⟩
  have FIN := Aside0.mk fin
  clear fin
  cases r1
  case true =>
    go_wp2_with (first | (go_at_call 31; refine (hH.out _).mono ?_; rintro e w' ⟨rfl, m, rfl⟩) | (go_at_call 32; refine (CB _ _).mono ?_; rintro e w' ⟨rfl, m, rfl⟩))
    go_ret
    exact FIN.out false _ (fun h => by cases h)
  by_cases c1 : hp s ⟨#[63]⟩ = true
  · go_wp2_with (first | (go_at_call 31; refine (hH.out _).mono ?_; rintro e w' ⟨rfl, m, rfl⟩) | (go_at_call 32; refine (CB _ _).mono ?_; rintro e w' ⟨rfl, m, rfl⟩))
    go_ret
    exact FIN.out false _ (fun h => by cases h)
  replace c1 : hp s ⟨#[63]⟩ = false := by simpa using c1
  by_cases c0 : hp s ⟨#[60, 60]⟩ = true
  · go_wp2_with (first | (go_at_call 31; refine (hH.out _).mono ?_; rintro e w' ⟨rfl, m, rfl⟩) | (go_at_call 32; refine (CB _ _).mono ?_; rintro e w' ⟨rfl, m, rfl⟩))
    go_ret
    exact FIN.out false _ (fun h => by cases h)
  replace c0 : hp s ⟨#[60, 60]⟩ = false := by simpa using c0
  by_cases c2 : hp s ⟨#[45, 45, 45]⟩ = true
  · go_wp2_with (first | (go_at_call 31; refine (hH.out _).mono ?_; rintro e w' ⟨rfl, m, rfl⟩) | (go_at_call 32; refine (CB _ _).mono ?_; rintro e w' ⟨rfl, m, rfl⟩))
    go_ret
    exact FIN.out false _ (fun h => by cases h)
  replace c2 : hp s ⟨#[45, 45, 45]⟩ = false := by simpa using c2
  by_cases c3 : hp s ⟨#[46, 46, 46]⟩ = true
  · go_wp2_with (first | (go_at_call 31; refine (hH.out _).mono ?_; rintro e w' ⟨rfl, m, rfl⟩) | (go_at_call 32; refine (CB _ _).mono ?_; rintro e w' ⟨rfl, m, rfl⟩))
    go_ret
    exact FIN.out false _ (fun h => by cases h)
  replace c3 : hp s ⟨#[46, 46, 46]⟩ = false := by simpa using c3
  by_cases n5 : n = 5
  · subst n5
    go_wp2_with (first | (go_at_call 31; refine (hH.out _).mono ?_; rintro e w' ⟨rfl, m, rfl⟩) | (go_at_call 32; refine (CB _ _).mono ?_; rintro e w' ⟨rfl, m, rfl⟩))
    go_ret
    exact FIN.out false _ (fun h => by cases h)
  have q5 : (n != 5) = true := bne_iff_ne.mpr n5
  have HN5 := Aside0.mk n5
  clear n5
  by_cases n6 : n = 6
  · subst n6
    go_wp2_with (first | (go_at_call 31; refine (hH.out _).mono ?_; rintro e w' ⟨rfl, m, rfl⟩) | (go_at_call 32; refine (CB _ _).mono ?_; rintro e w' ⟨rfl, m, rfl⟩))
    go_ret
    exact FIN.out false _ (fun h => by cases h)
  have q6 : (n != 6) = true := bne_iff_ne.mpr n6
  have HN6 := Aside0.mk n6
  clear n6
  go_wp2_with (first | (go_at_call 31; refine (hH.out _).mono ?_; rintro e w' ⟨rfl, m, rfl⟩) | (go_at_call 32; refine (CB _ _).mono ?_; rintro e w' ⟨rfl, m, rfl⟩))
  go_ret
  exact FIN.out true _ (fun h => ⟨by first | rfl | trivial, c1, c2, c3, HN5.out, HN6.out⟩)

set_option maxRecDepth 100000 in
theorem need_empty (w : World) : Calls Tryz.prog 43 #[.string ⟨#[]⟩] w (Bo true w) := by
  go_enter Tryz.func43, Tryz.ntmps43
  go_wp2_with fail
  go_ret
  exact ⟨rfl, Below.refl _ _⟩
/-- impl.NeedsQuotes hands on. -/
def NeB (P : Prop) (w : World) (e : Ending) (w' : World) : Prop := Below w.heap.size w w' ∧ ∃ b, e = .returned (.bool b) ∧ (P → b = true)
set_option maxRecDepth 100000 in
theorem needs_of (s : ByteArray) (P : Prop) (w : World) (C : Calls Tryz.prog 43 #[.string s] w (NeB P w)) : Calls Tryz.prog 18 #[.string s] w (NeB P w) := by
  replace C := Aside0.mk C
  go_enter Tryz.func18, Tryz.ntmps18
  go_wp2_with fail
  refine C.out.mono ?_
  rintro e w1 ⟨b1, b, rfl, hb⟩
  have B1 := Aside0.mk b1
  have HB := Aside0.mk hb
  clear b1 hb
  go_wp2_with fail
  go_ret
  exact ⟨B1.out, b, rfl, HB.out⟩

end Go.Proofs.YtlkbhmmelejmjaaGreatDoor.QBare
