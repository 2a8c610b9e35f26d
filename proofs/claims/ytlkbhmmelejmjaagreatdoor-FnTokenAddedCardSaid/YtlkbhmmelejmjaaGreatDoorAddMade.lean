/- FnTokenAdded: the package's tokens of a list (made). -/
import Derived.Test.YtlkbhmmelejmjaaGreatDoorAddBase
namespace Go.Proofs.YtlkbhmmelejmjaaGreatDoor.AddMade
open Go.RowKit Go.Proofs.YtlkbhmmelejmjaaGreatDoorW.PrintWords Go.Proofs.YtlkbhmmelejmjaaGreatDoor.TokBase Go.Proofs.YtlkbhmmelejmjaaGreatDoor.TokList Go.Proofs.YtlkbhmmelejmjaaGreatDoor.TokMake Go.Proofs.YtlkbhmmelejmjaaGreatDoor.AddBase
set_option linter.unusedVariables false
set_option linter.unusedSimpArgs false
attribute [local go_sem ↓] Go.wp_at_zero Go.wp_at_succ

theorem info46 : (Tryz.prog.info? 46).map (fun i => (i.zero, i.size, i.bytes)) = some (some (.pointer none), 1, 8) := by kernel_rfl

def ptr (t : Nat) : Value := .pointer (some ⟨t, 0, none⟩)
def ptrs (ps : List Nat) : List Value := ps.map ptr
theorem own_lt {w : World} {base e size n : Nat} {v : Value} {xs : List Value} (h : w.ownsRow base e size v n xs) (y : Nat) (hy : v.ownBlock = some y) : base ≤ y ∧ y < w.heap.size := by
  rcases h.2 with ⟨rfl, _⟩ | ⟨g, cap, cur, rfl, hg, h3, _⟩
  · cases hy
  · obtain rfl : g = y := by simpa [Value.ownBlock] using hy
    exact ⟨hg, blk_lt h3⟩
theorem own_same {w w1 : World} {base e size n : Nat} {v : Value} {xs : List Value} (h : w.ownsRow base e size v n xs) (hk : ∀ y, base ≤ y → y < w.heap.size → w1.heap[y]? = w.heap[y]?) : w1.ownsRow base e size v n xs := by
  refine ⟨h.1, ?_⟩
  rcases h.2 with h2 | ⟨g, cap, cur, h1, h2, h3, h4⟩
  · exact .inl h2
  · exact .inr ⟨g, cap, cur, h1, h2, (hk g h2 (blk_lt h3)).trans h3, h4⟩

/-- The block of a slice that is owned, if it has one, holds pointers to tokens. -/
def Typed (W : World) (v : Value) : Prop := ∀ g, v.ownBlock = some g → ∃ cur, W.heap[g]? = some (.cells cur 46 (0, 0))
theorem own_typed {W : World} {base n : Nat} {v : Value} {xs : List Value} (h : W.ownsRow base 46 1 v n xs) : Typed W v := by
  intro g hg
  rcases h.2 with ⟨rfl, _⟩ | ⟨g', cap, cur, rfl, _, h3, _⟩
  · cases hg
  · obtain rfl : g' = g := by simpa [Value.ownBlock] using hg
    exact ⟨cur, h3⟩
theorem _root_.Go.Proofs.YtlkbhmmelejmjaaGreatDoor.AddBase.TokN.grown {w w1 : World} {t i : Nat} {s : ByteArray} {nx pv v : Value} (h : TokN w t s i nx pv) (hv : Typed w v) (hg : w.grownBy w1 v.ownBlock) : TokN w1 t s i nx pv := by
  obtain ⟨q, h1, h2⟩ := h
  refine ⟨q, blk_grown h1 hg fun e => ?_, blk_grown h2 hg fun e => ?_⟩
  · obtain ⟨cur, hc⟩ := hv t e.symm
    rw [h1] at hc; injection hc with hc; injection hc with _ hc; cases hc
  · obtain ⟨cur, hc⟩ := hv q e.symm
    unfold Pos at h2
    rw [h2] at hc; injection hc with hc; injection hc with _ hc; cases hc

def Toks (w : World) (ps : List Nat) (vs : Nat → ByteArray) (nx pv : Nat → Value) : Prop := ∀ i, (h : i < ps.length) → TokN w ps[i] (vs i) i (nx i) (pv i)
theorem Toks.below {w w1 : World} {ps : List Nat} {vs : Nat → ByteArray} {nx pv : Nat → Value} (h : Toks w ps vs nx pv) (hb : Below w.heap.size w w1) : Toks w1 ps vs nx pv := fun i hi => (h i hi).below hb
/-- Rising block numbers. -/
def Inc (ps : List Nat) : Prop := ∀ i j, (hi : i < ps.length) → (hj : j < ps.length) → i < j → ps[i] < ps[j]
theorem Inc.snoc {ps : List Nat} {t : Nat} (h : Inc ps) (ht : ∀ i, (hi : i < ps.length) → ps[i] < t) : Inc (ps ++ [t]) := by
  intro i j hi hj hij
  by_cases hj' : j < ps.length
  · rw [List.getElem_append_left hj', List.getElem_append_left (by omega)]
    exact h i j (by omega) hj' hij
  · have e : j = ps.length := by simp at hj; omega
    subst e
    rw [List.getElem_append_right (Nat.le_refl _), List.getElem_append_left (by omega)]
    simpa using ht i (by omega)
theorem Inc.ne {ps : List Nat} (h : Inc ps) {i j : Nat} (hi : i < ps.length) (hj : j < ps.length) (hne : i ≠ j) : ps[i] ≠ ps[j] := by
  rcases Nat.lt_or_gt_of_ne hne with h1 | h1
  · exact Nat.ne_of_lt (h i j hi hj h1)
  · exact (Nat.ne_of_lt (h j i hj hi h1)).symm

/-- The token that is made. -/
def tokObj (s : ByteArray) (q : Nat) : Obj := .cells #[.int .i64 31, .int .i64 2, .int .i64 0, .string s, .string s, .string ⟨#[]⟩, .pointer (some ⟨q, 0, none⟩), .pointer none, .pointer none] 58
theorem toks_step {wr wp w1 : World} {ps : List Nat} {vs : Nat → ByteArray} {nx pv : Nat → Value} {v : Value} {s : ByteArray} {q j : Nat} {Y : Obj} (h : Toks wr ps vs nx pv) (hb : Below wr.heap.size wr wp) (hj : ps.length = j) (hs : vs j = s) (hnx : nx j = .pointer none) (hpv : pv j = .pointer none)
    (hq : Pos wp q 1 ((j : Int) + 1) 0) (hT : Typed ((wp.alloc (tokObj s q)).alloc Y) v) (hg : ((wp.alloc (tokObj s q)).alloc Y).grownBy w1 v.ownBlock) : Toks w1 (ps ++ [wp.heap.size]) vs nx pv := by
  subst hj
  have hn : TokN ((wp.alloc (tokObj s q)).alloc Y) wp.heap.size s ps.length (.pointer none) (.pointer none) := ⟨q, blk_alloc (blk_new wp (tokObj s q)) Y, blk_alloc (blk_alloc hq _) _⟩
  intro i hi
  by_cases hl : i < ps.length
  · rw [List.getElem_append_left hl]
    have hb2 := (hb.alloc hb.size (tokObj s q)).alloc (by simp; have := hb.size; omega) Y
    exact ((h i hl).below hb2).grown hT hg
  · obtain rfl : i = ps.length := by simp at hi; omega
    rw [List.getElem_append_right (Nat.le_refl _)]
    simp only [Nat.sub_self, List.getElem_cons_zero]
    rw [hs, hnx, hpv]
    exact hn.grown hT hg

theorem made_below {wr wp : World} {X : Obj} (h : Below (wr.alloc X).heap.size (wr.alloc X) wp) : Below wr.heap.size wr wp := ((Below.refl wr.heap.size wr).alloc (Nat.le_refl _) X).trans (h.mono (by simp))
theorem made_below' {wr wp : World} {X : Obj} (h : Below ((wr.alloc X).drew).heap.size ((wr.alloc X).drew) wp) : Below wr.heap.size wr wp := ((Below.refl wr.heap.size wr).alloc (Nat.le_refl _) X).drew.trans (h.mono (by show _ ≤ (wr.alloc X).heap.size; simp))
theorem own_made {wr wp : World} {base n : Nat} {v : Value} {xs : List Value} (h : wr.ownsRow base 46 1 v n xs) (hb : Below wr.heap.size wr wp) (X Y : Obj) : ((wp.alloc X).alloc Y).ownsRow base 46 1 v n xs :=
  ((own_same h fun y h1 h2 => hb.block y h2).alloc X).alloc Y

theorem cell_one (w : World) (v : Value) (T : TypeId) : ∀ (j : Nat) (u : Value), [v][j]? = some u → (w.alloc (.cells #[v] T)).cell? (Addr.add ⟨w.heap.size, 0, none⟩ j) = some u := by
  intro j u h
  match j, h with
  | 0, h =>
    simp at h; subst h
    have := blk_cell (blk_new w (.cells #[v] T)) 0
    simp [Addr.add]
theorem cell_one2 (w : World) (X : Obj) (v : Value) (T : TypeId) : ∀ (j : Nat) (u : Value), [v][j]? = some u → ((w.alloc X).alloc (.cells #[v] T)).cell? (Addr.add ⟨w.heap.size + 1, 0, none⟩ j) = some u := by
  intro j u h
  have := cell_one (w.alloc X) v T j u h
  rwa [show (w.alloc X).heap.size = w.heap.size + 1 by simp] at this

/-- A slice's cells are pointers to tokens. -/
def RowP (w : World) (g : Nat) (ps : List Nat) : Prop := ∀ i, (h : i < ps.length) → w.cell? ⟨g, i, none⟩ = some (ptr ps[i])
theorem own_rowP {w : World} {base g n cap : Nat} {ps : List Nat} (h : w.ownsRow base 46 1 (.slice (some ⟨g, 0, none⟩) n cap) n (ptrs ps)) : RowP w g ps := fun i hi => by
  have := h.cells rfl i (ptr ps[i]) (by simp [ptrs, hi])
  rwa [show ((⟨g, 0, none⟩ : Addr).add i) = ⟨g, i, none⟩ by unfold Addr.add; split <;> simp_all] at this

def nils (_ : Nat) : Value := .pointer none
def MadeD (n : Nat) (vs : Nat → ByteArray) (w : World) (e : Ending) (w' : World) : Prop := ∃ g' c' ps, e = .returned (.slice (some ⟨g', 0, none⟩) n c') ∧ ps.length = n ∧ w'.ownsRow w.heap.size 46 1 (.slice (some ⟨g', 0, none⟩) n c') n (ptrs ps) ∧ Toks w' ps vs nils nils ∧ Inc ps ∧ (∀ i, (h : i < ps.length) → w.heap.size ≤ ps[i]) ∧ Below w.heap.size w w'

def mone (_ : Nat) : Int := -1

set_option maxHeartbeats 16000000 in
set_option maxRecDepth 100000 in
theorem made_any (w : World) (A : Option Addr) (n cap : Nat) (vs : Nat → ByteArray) (h3 : n ≤ 100) (hr : RowT w A n (ltok vs mone mone)) :
    Calls Tryz.prog 24 #[.slice A n cap] w (MadeD n vs w) := by
  obtain ⟨i0, hi, hz0, hz1, hz2⟩ := info_parts info46
  have HR := Aside0.mk hr
  clear hr
  go_enter Tryz.func24, Tryz.ntmps24
  go_wp2_with fail
  go_loopw [3, 11] (fun out si wr => ∃ (j : Nat) (ps : List Nat), j ≤ n ∧ si = .int .i64 j ∧ ps.length = j ∧ wr.ownsRow w.heap.size 46 1 out j (ptrs ps) ∧ (∃ g' c', out = .slice (some ⟨g', 0, none⟩) j c') ∧ Toks wr ps vs nils nils ∧ Inc ps ∧ (∀ i, (h : i < ps.length) → w.heap.size ≤ ps[i]) ∧ Below w.heap.size w wr) (fun _ si _ => n - (intOf si).toNat)
  case atStart =>
    have hb := (Below.refl w.heap.size w).alloc (Nat.le_refl _) (.cells #[] 46)
    exact ⟨0, [], Nat.zero_le _, rfl, rfl, ⟨rfl, .inr ⟨w.heap.size, 0, #[], rfl, Nat.le_refl _, blk_new _ _, Nat.le_refl _, by unfold maxLen; omega, rfl, rfl⟩⟩, ⟨_, _, rfl⟩, fun i h => absurd h (Nat.not_lt_zero _), fun i j h => absurd h (Nat.not_lt_zero _), fun i h => absurd h (Nat.not_lt_zero _), hb⟩
  case round =>
    obtain ⟨j, ps, hj, rfl, hps, hown, hform, htk, hinc, hhi, hbel⟩ := hrel
    have HOWN := Aside0.mk hown
    have HPS := Aside0.mk hps
    have HTK := Aside0.mk htk
    have HBL := Aside0.mk hbel
    have HF := Aside0.mk hform
    have HH := Aside0.mk hhi
    have HI := Aside0.mk hinc
    clear hown hps htk hbel hform hhi hinc
    by_cases hlt : j < n
    · obtain ⟨g, hg, -⟩ := HR.out j hlt
      subst hg
      obtain ⟨x0, x1, x2, x3, x4, x5, x6, x7, x8, x9, x10, x11, x12⟩ := (HR.out.below HBL.out).cells rfl j hlt
      unfold mone at x11 x12
      generalize hse : vs j = s at x3 x4
      have y := fun i => blk_cell (blk_new wr (.cells #[.int .i64 31, .int .i64 2, .int .i64 0, .string s, .string s, .string ⟨#[]⟩, .int .i64 1, .int .i64 ((j : Int) + 1), .int .i64 0, .int .i64 0, .int .i64 0, .int .i64 (-1), .int .i64 (-1)] 25)) i
      have y0 := y 0
      have y1 := y 1
      have y2 := y 2
      have y3 := y 3
      have y4 := y 4
      have y5 := y 5
      have y6 := y 6
      have y7 := y 7
      have y8 := y 8
      have y9 := y 9
      have y10 := y 10
      simp only [List.getElem?_toArray, List.getElem?_cons_succ, List.getElem?_cons_zero] at y0 y1 y2 y3 y4 y5 y6 y7 y8 y9 y10
      clear y
      have CP := Aside0.mk (position_any 1 ((j : Int) + 1) 0 (by omega) (by omega))
      have HSE := Aside0.mk hse
      clear hse
      go_wp2_with fail
      go_region_held3 (fun w' => w'.cell? ⟨wr.heap.size, 0, none⟩ = some (.int .i64 31) ∧ w'.cell? ⟨wr.heap.size, 1, none⟩ = some (.int .i64 2) ∧ w'.cell? ⟨wr.heap.size, 2, none⟩ = some (.int .i64 0) ∧ w'.cell? ⟨wr.heap.size, 3, none⟩ = some (.string s) ∧ w'.cell? ⟨wr.heap.size, 4, none⟩ = some (.string s) ∧ w'.cell? ⟨wr.heap.size, 5, none⟩ = some (.string ⟨#[]⟩) ∧ w'.cell? ⟨wr.heap.size, 6, none⟩ = some (.int .i64 1) ∧ w'.cell? ⟨wr.heap.size, 7, none⟩ = some (.int .i64 ((j : Int) + 1)) ∧ w'.cell? ⟨wr.heap.size, 8, none⟩ = some (.int .i64 0) ∧ w'.cell? ⟨wr.heap.size, 9, none⟩ = some (.int .i64 0) ∧ w'.cell? ⟨wr.heap.size, 10, none⟩ = some (.int .i64 0))
        (first
          | go_keep
          | (go_split_ands
             refine ⟨?_, ?_, ?_, ?_, ?_, ?_, ?_, ?_, ?_, ?_, ?_⟩ <;> (rw [hgrow.cell_far _ (by simp; omega) (fun e => by have := (own_lt HOWN.out _ e.symm).2; simp at this)]; simp [*])))
        (first
          | ((go_at_call 22; refine (CP.out _).mono ?_; rintro e wp ⟨q, rfl, hq1, hq2, hpb⟩; have z0 := pw_cell_below hpb y0; have z1 := pw_cell_below hpb y1; have z2 := pw_cell_below hpb y2; have z3 := pw_cell_below hpb y3; have z4 := pw_cell_below hpb y4; have z5 := pw_cell_below hpb y5; have z6 := pw_cell_below hpb y6; have z7 := pw_cell_below hpb y7; have z8 := pw_cell_below hpb y8; have z9 := pw_cell_below hpb y9; have z10 := pw_cell_below hpb y10; have n0 := World.new_ne wp _ z0; have lz := World.block_lt_of_cell? wp _ z0; have hbw : Below wr.heap.size wr wp := (by first | exact made_below hpb | exact made_below' hpb)))
          | ((refine step_append_lies _ (by rfl) _ _ _ (by rfl) w.heap.size 46 i0 _ 1 8 Tryz.underlying52 hi hz0 hz1 hz2 rfl (by omega) _ j (ptrs ps) (by rfl) (own_made HOWN.out hbw (tokObj s q) _) ⟨wp.heap.size + 1, 0, none⟩ 1 1 [ptr wp.heap.size] (by rfl) (by rfl) (cell_one2 wp _ _ _) (fun u hu => by simp at hu; subst hu; rfl) (by omega) (by unfold maxLen; omega) (by omega) (by have := HBL.out.size; have := hbw.size; simp; omega) (wp.heap.size + 1 + 1) (by simp) ?_; intro g1 cap1 w1 hown1 hgrow hat hlt1)))
      all_goals
        have HO1 := Aside0.mk hown1
        have HG1 := Aside0.mk hgrow
        have HBW := Aside0.mk hbw
        have HQ2 := Aside0.mk hq2
        clear hown1 hgrow hat hbw hq1 hq2 hpb n0 lz
        go_wp2_with fail
        go_roundw
        case rel =>
          refine ⟨j + 1, ps ++ [wp.heap.size], by omega, by go_num, by simp [HPS.out], by simpa [ptrs] using HO1.out, ⟨_, _, rfl⟩, ?_, ?_, ?_, ?_⟩
          · exact toks_step HTK.out HBW.out HPS.out HSE.out rfl rfl HQ2.out (own_typed (own_made HOWN.out HBW.out (tokObj s q) _)) HG1.out
          · exact HI.out.snoc fun i hi => Nat.lt_of_lt_of_le (HTK.out i hi).lt HBW.out.size
          · intro i hi
            by_cases hl : i < ps.length
            · rw [List.getElem_append_left hl]; exact HH.out i hl
            · obtain rfl : i = ps.length := by simp at hi; omega
              rw [List.getElem_append_right (Nat.le_refl _)]
              simp only [Nat.sub_self, List.getElem_cons_zero]
              have h1 := HBL.out.size
              have h2 := HBW.out.size
              omega
          · have h1 := HBL.out.size
            have h2 := HBW.out.size
            exact (((HBL.out.trans (HBW.out.mono h1)).alloc (by omega) (tokObj s q)).alloc (by simp; omega) _).grown HG1.out (by simp; omega) fun y hy => (own_lt HOWN.out y hy).1
        case measure => simp [intOf]; omega
    · obtain rfl : j = n := by omega
      obtain ⟨w1, rfl⟩ : ∃ w1, w1 = wr := ⟨_, rfl⟩
      obtain ⟨g', c', rfl⟩ := HF.out
      go_wp2_with fail
      go_loopw [38] (fun si wr => ∃ i : Nat, i ≤ j ∧ si = .int .i64 i ∧ Below w1.heap.size w1 wr) (fun si _ => j - (intOf si).toNat)
      case atStart => exact ⟨0, Nat.zero_le _, rfl, Below.refl _ _⟩
      case round =>
        obtain ⟨i, hij, rfl, hbx⟩ := hrel
        have BX := Aside0.mk hbx
        clear hbx
        by_cases hlt' : i < j
        · obtain ⟨g, hg, -⟩ := HR.out i hlt'
          subst hg
          obtain ⟨x0, x1, x2, x3, x4, x5, x6, x7, x8, x9, x10, x11, x12⟩ := (HR.out.below (HBL.out.trans (BX.out.mono HBL.out.size))).cells rfl i hlt'
          unfold mone at x11 x12
          generalize vs i = s at x3 x4
          go_wp2_with fail
          go_roundw
          case rel => exact ⟨i + 1, by omega, by go_num, BX.out.alloc BX.out.size _⟩
          case measure => simp [intOf]; omega
        · go_wp2_with fail
          go_ret
          exact ⟨g', c', ps, rfl, HPS.out, own_same HOWN.out fun y h1 h2 => BX.out.block y h2, HTK.out.below BX.out, HI.out, HH.out, HBL.out.trans (BX.out.mono HBL.out.size)⟩
end Go.Proofs.YtlkbhmmelejmjaaGreatDoor.AddMade
