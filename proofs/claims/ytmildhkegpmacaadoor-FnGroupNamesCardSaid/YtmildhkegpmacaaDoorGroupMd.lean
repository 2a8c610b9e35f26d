/- FnGroupNames: the parser's tokens of the law's tokens (made). -/
import Derived.Test.YtmildhkegpmacaaDoorGroupToks
namespace Go.Proofs.YtmildhkegpmacaaDoor.GroupMd
open Go.RowKit Go.Proofs.YtmildhkegpmacaaDoorW.PrintWords Go.Proofs.YtmildhkegpmacaaDoor.GroupBase Go.Proofs.YtmildhkegpmacaaDoor.GroupPass Go.Proofs.YtmildhkegpmacaaDoor.GroupAlias Go.Proofs.YtmildhkegpmacaaDoor.GroupTok Go.Proofs.YtmildhkegpmacaaDoor.GroupList Go.Proofs.YtmildhkegpmacaaDoor.GroupToks Go.Proofs.YtmildhkegpmacaaDoor.GroupMake
set_option linter.unusedVariables false
set_option linter.unusedSimpArgs false
attribute [local go_sem ↓] Go.wp_at_zero Go.wp_at_succ

theorem info87 : (Tryd.prog.info? 87).map (fun i => (i.zero, i.size, i.bytes)) = some (some (.pointer none), 1, 8) := by kernel_rfl

/-- The law's tokens in a row. -/
def TokRow (w : World) (g n : Nat) (ks : Nat → Int) (ts : Nat → ByteArray) : Prop := ∀ j, j < n → ∀ (f : Nat) (u : Value), (tok j (ks j) (ts j))[f]? = some u → w.cell? ⟨g, j * 13 + f, none⟩ = some u
theorem TokRow.below {w w1 : World} {g n : Nat} {ks : Nat → Int} {ts : Nat → ByteArray} (h : TokRow w g n ks ts) (hb : Below w.heap.size w w1) : TokRow w1 g n ks ts := fun j hj f u hu => pw_cell_below hb (h j hj f u hu)

theorem TokRow.cells {w : World} {g n : Nat} {ks : Nat → Int} {ts : Nat → ByteArray} (h : TokRow w g n ks ts) (j : Nat) (hj : j < n) : w.cell? ⟨g, j * 13, none⟩ = some (.int .i64 (ks j)) ∧ w.cell? ⟨g, j * 13 + 1, none⟩ = some (.int .i64 0) ∧ w.cell? ⟨g, j * 13 + 2, none⟩ = some (.int .i64 0) ∧ w.cell? ⟨g, j * 13 + 3, none⟩ = some (.string (ts j)) ∧ w.cell? ⟨g, j * 13 + 4, none⟩ = some (.string (ts j)) ∧ w.cell? ⟨g, j * 13 + 5, none⟩ = some (.string ⟨#[]⟩) ∧ w.cell? ⟨g, j * 13 + 6, none⟩ = some (.int .i64 1) ∧ w.cell? ⟨g, j * 13 + 7, none⟩ = some (.int .i64 (1 + j)) ∧ w.cell? ⟨g, j * 13 + 8, none⟩ = some (.int .i64 (1 + j)) ∧ w.cell? ⟨g, j * 13 + 9, none⟩ = some (.int .i64 0) ∧ w.cell? ⟨g, j * 13 + 10, none⟩ = some (.int .i64 0) ∧ w.cell? ⟨g, j * 13 + 11, none⟩ = some (.int .i64 ((j : Int) - 1)) ∧ w.cell? ⟨g, j * 13 + 12, none⟩ = some (.int .i64 (j + 1)) :=
  ⟨h j hj 0 _ rfl, h j hj 1 _ rfl, h j hj 2 _ rfl, h j hj 3 _ rfl, h j hj 4 _ rfl, h j hj 5 _ rfl, h j hj 6 _ rfl, h j hj 7 _ rfl, h j hj 8 _ rfl, h j hj 9 _ rfl, h j hj 10 _ rfl, h j hj 11 _ rfl, h j hj 12 _ rfl⟩

def Typed (W : World) (v : Value) : Prop := ∀ g, v.ownBlock = some g → ∃ cur, W.heap[g]? = some (.cells cur 87 (0, 0))
theorem own_typed {W : World} {base n : Nat} {v : Value} {xs : List Value} (h : W.ownsRow base 87 1 v n xs) : Typed W v := by
  intro g hg
  rcases h.2 with ⟨rfl, _⟩ | ⟨g', cap, cur, rfl, _, h3, _⟩
  · cases hg
  · obtain rfl : g' = g := by simpa [Value.ownBlock] using hg
    exact ⟨cur, h3⟩
theorem tok_grown {w w1 : World} {t : Nat} {ty : Int} {v : Value} (h : Tok w t ty) (hv : Typed w v) (hg : w.grownBy w1 v.ownBlock) : Tok w1 t ty := by
  obtain ⟨c1, c2, vv, o, er, nx, pv, col, off, ind, lev, q, h1, h2⟩ := h
  refine ⟨c1, c2, vv, o, er, nx, pv, col, off, ind, lev, q, blk_grown h1 hg fun e => ?_, blk_grown h2 hg fun e => ?_⟩
  · obtain ⟨cur, hc⟩ := hv t e.symm
    rw [h1] at hc; injection hc with hc; injection hc with _ hc; cases hc
  · obtain ⟨cur, hc⟩ := hv q e.symm
    rw [h2] at hc; injection hc with hc; injection hc with _ hc; cases hc

def ptrs (ps : List Nat) : List Value := ps.map ptr
def Toks (w : World) (ps : List Nat) (ks : Nat → Int) : Prop := ∀ i, (h : i < ps.length) → Tok w ps[i] (ks i)

/-- The token that is made. -/
def tokObj (k : Int) (txt : ByteArray) (q : Nat) : Obj := .cells #[.int .i64 k, .int .i64 0, .int .i64 0, .string txt, .string txt, .string ⟨#[]⟩, .pointer (some ⟨q, 0, none⟩), .pointer none, .pointer none] 112
theorem toks_step {wr wp w1 : World} {ps : List Nat} {ks : Nat → Int} {v : Value} {k col off : Int} {txt : ByteArray} {q : Nat} {Y : Obj} (h : Toks wr ps ks) (hb : Below wr.heap.size wr wp) (hk : ks ps.length = k)
    (hq : wp.heap[q]? = some (.cells #[.int .i64 1, .int .i64 col, .int .i64 off, .int .i64 0, .int .i64 0] 158 (0, 0))) (hT : Typed ((wp.alloc (tokObj k txt q)).alloc Y) v) (hg : ((wp.alloc (tokObj k txt q)).alloc Y).grownBy w1 v.ownBlock) : Toks w1 (ps ++ [wp.heap.size]) ks := by
  have hn : Tok ((wp.alloc (tokObj k txt q)).alloc Y) wp.heap.size k := ⟨_, _, _, _, _, _, _, _, _, _, _, q, blk_alloc (blk_new wp (tokObj k txt q)) Y, blk_alloc (blk_alloc hq _) _⟩
  intro i hi
  by_cases hl : i < ps.length
  · rw [List.getElem_append_left hl]
    have hb2 := (hb.alloc hb.size (tokObj k txt q)).alloc (by simp; have := hb.size; omega) Y
    exact tok_grown ((h i hl).below hb2) hT hg
  · obtain rfl : i = ps.length := by simp at hi; omega
    rw [List.getElem_append_right (Nat.le_refl _)]
    simp only [Nat.sub_self, List.getElem_cons_zero]
    rw [hk]
    exact tok_grown hn hT hg

theorem made_below {wr wp : World} {X : Obj} (h : Below (wr.alloc X).heap.size (wr.alloc X) wp) : Below wr.heap.size wr wp := ((Below.refl wr.heap.size wr).alloc (Nat.le_refl _) X).trans (h.mono (by simp))
theorem made_below' {wr wp : World} {X : Obj} (h : Below ((wr.alloc X).drew).heap.size ((wr.alloc X).drew) wp) : Below wr.heap.size wr wp := ((Below.refl wr.heap.size wr).alloc (Nat.le_refl _) X).drew.trans (h.mono (by show _ ≤ (wr.alloc X).heap.size; simp))
theorem own_made {wr wp : World} {base n : Nat} {v : Value} {xs : List Value} (h : wr.ownsRow base 87 1 v n xs) (hb : Below wr.heap.size wr wp) (X Y : Obj) : ((wp.alloc X).alloc Y).ownsRow base 87 1 v n xs :=
  ((own_same h fun y h1 h2 => hb.block y h2).alloc X).alloc Y

theorem toks_set {w : World} {ps : List Nat} {ks : Nat → Int} {i p : Nat} (h : Toks w ps ks) (hi : i < ps.length) (hp : ps[i] = p) (f : Nat) (hf : f = 7 ∨ f = 8) (u : Value) : Toks (w.setCell ⟨p, f, none⟩ u) ps ks := by
  obtain ⟨a1, a2, a3, a4, a5, a6, a7, a8, a9, a10, a11, q0, g1, g2⟩ := h i hi
  rw [hp] at g1
  intro k hk
  obtain ⟨c1, c2, vv, o, er, nx, pv, col, off, ind, lev, q, h1, h2⟩ := h k hk
  have hq : q ≠ p := fun e => by
    subst e; rw [g1] at h2; injection h2 with h2; injection h2 with _ h2; cases h2
  by_cases e : ps[k] = p
  · rw [e] at h1 ⊢
    have hs := blk_set h1 f u
    rcases hf with rfl | rfl
    · refine ⟨c1, c2, vv, o, er, u, pv, col, off, ind, lev, q, ?_, blk_far h2 hq u⟩
      simpa using hs
    · refine ⟨c1, c2, vv, o, er, nx, u, col, off, ind, lev, q, ?_, blk_far h2 hq u⟩
      simpa using hs
  · exact ⟨c1, c2, vv, o, er, nx, pv, col, off, ind, lev, q, blk_far h1 e u, blk_far h2 hq u⟩
theorem toks_alloc {w : World} {ps : List Nat} {ks : Nat → Int} (h : Toks w ps ks) (o : Obj) : Toks (w.alloc o) ps ks := fun i hi => (h i hi).below ((Below.refl _ _).alloc (Nat.le_refl _) o)

def Made (n : Nat) (ks : Nat → Int) (w : World) (e : Ending) (w' : World) : Prop := ∃ g' c' ps, e = .returned (.slice (some ⟨g', 0, none⟩) n c') ∧ ps.length = n ∧ RowP w' g' ps ∧ Toks w' ps ks ∧ Below w.heap.size w w'

set_option maxHeartbeats 16000000 in
set_option maxRecDepth 100000 in
theorem made_any (w : World) (g n cap : Nat) (ks : Nat → Int) (ts : Nat → ByteArray) (h3 : n ≤ 3) (hr : TokRow w g n ks ts) :
    Calls Tryd.prog 47 #[.slice (some ⟨g, 0, none⟩) n cap] w (Made n ks w) := by
  obtain ⟨i0, hi, hz0, hz1, hz2⟩ := info_parts info87
  have HR := Aside0.mk hr
  clear hr
  go_enter Tryd.func47, Tryd.ntmps47
  go_wp2_with fail
  go_loopw [3, 11] (fun out si wr => ∃ (j : Nat) (ps : List Nat), j ≤ n ∧ si = .int .i64 j ∧ ps.length = j ∧ wr.ownsRow w.heap.size 87 1 out j (ptrs ps) ∧ (∃ g' c', out = .slice (some ⟨g', 0, none⟩) j c') ∧ Toks wr ps ks ∧ (∀ i, (h : i < ps.length) → w.heap.size ≤ ps[i]) ∧ Below w.heap.size w wr) (fun _ si _ => n - (intOf si).toNat)
  case atStart =>
    have hb := (Below.refl w.heap.size w).alloc (Nat.le_refl _) (.cells #[] 87)
    exact ⟨0, [], Nat.zero_le _, rfl, rfl, ⟨rfl, .inr ⟨w.heap.size, 0, #[], rfl, Nat.le_refl _, blk_new _ _, Nat.le_refl _, by unfold maxLen; omega, rfl, rfl⟩⟩, ⟨_, _, rfl⟩, fun i h => absurd h (Nat.not_lt_zero _), fun i h => absurd h (Nat.not_lt_zero _), hb⟩
  case round =>
    obtain ⟨j, ps, hj, rfl, hps, hown, hform, htk, hhi, hbel⟩ := hrel
    have HOWN := Aside0.mk hown
    have HPS := Aside0.mk hps
    have HTK := Aside0.mk htk
    have HBL := Aside0.mk hbel
    have HF := Aside0.mk hform
    have HH := Aside0.mk hhi
    clear hown hps htk hbel hform hhi
    by_cases hlt : j < n
    · have hx := HR.out.below HBL.out
      obtain ⟨x0, x1, x2, x3, x4, x5, x6, x7, x8, x9, x10, x11, x12⟩ := hx.cells j hlt
      generalize hke : ks j = k at x0
      generalize ts j = txt at x3 x4
      clear hx
      have y := fun i => blk_cell (blk_new wr (.cells #[.int .i64 k, .int .i64 0, .int .i64 0, .string txt, .string txt, .string ⟨#[]⟩, .int .i64 1, .int .i64 (1 + j), .int .i64 (1 + j), .int .i64 0, .int .i64 0, .int .i64 ((j : Int) - 1), .int .i64 (j + 1)] 54)) i
      have y0 := y 0
      have y1 := y 1
      have y2 := y 2
      have y3 := y 3
      have y4 := y 4
      have y5 := y 5
      have y6 := y 6
      have y7 := y 7
      have y8 := y 8
      have y9 := y 9
      have y10 := y 10
      simp only [List.getElem?_toArray, List.getElem?_cons_succ, List.getElem?_cons_zero] at y0 y1 y2 y3 y4 y5 y6 y7 y8 y9 y10
      clear y
      have CP := Aside0.mk (position_any (1 + (j : Int)) (1 + (j : Int)) (by omega) (by omega))
      go_wp2_with fail
      go_region_held3 (fun w' => w'.cell? ⟨wr.heap.size, 0, none⟩ = some (.int .i64 k) ∧ w'.cell? ⟨wr.heap.size, 1, none⟩ = some (.int .i64 0) ∧ w'.cell? ⟨wr.heap.size, 2, none⟩ = some (.int .i64 0) ∧ w'.cell? ⟨wr.heap.size, 3, none⟩ = some (.string txt) ∧ w'.cell? ⟨wr.heap.size, 4, none⟩ = some (.string txt) ∧ w'.cell? ⟨wr.heap.size, 5, none⟩ = some (.string ⟨#[]⟩) ∧ w'.cell? ⟨wr.heap.size, 6, none⟩ = some (.int .i64 1) ∧ w'.cell? ⟨wr.heap.size, 7, none⟩ = some (.int .i64 (1 + j)) ∧ w'.cell? ⟨wr.heap.size, 8, none⟩ = some (.int .i64 (1 + j)) ∧ w'.cell? ⟨wr.heap.size, 9, none⟩ = some (.int .i64 0) ∧ w'.cell? ⟨wr.heap.size, 10, none⟩ = some (.int .i64 0))
        (first
          | go_keep
          | (go_split_ands
             refine ⟨?_, ?_, ?_, ?_, ?_, ?_, ?_, ?_, ?_, ?_, ?_⟩ <;> (rw [hgrow.cell_far _ (by simp; omega) (fun e => by have := (own_block_lt HOWN.out _ e.symm).2; simp at this)]; simp [*])))
        (first
          | ((go_at_call 67; refine (CP.out _).mono ?_; rintro e wp ⟨q, rfl, hq1, hq2, hpb⟩; have z0 := pw_cell_below hpb y0; have z1 := pw_cell_below hpb y1; have z2 := pw_cell_below hpb y2; have z3 := pw_cell_below hpb y3; have z4 := pw_cell_below hpb y4; have z5 := pw_cell_below hpb y5; have z6 := pw_cell_below hpb y6; have z7 := pw_cell_below hpb y7; have z8 := pw_cell_below hpb y8; have z9 := pw_cell_below hpb y9; have z10 := pw_cell_below hpb y10; have n0 := World.new_ne wp _ z0; have lz := World.block_lt_of_cell? wp _ z0; have hbw : Below wr.heap.size wr wp := (by first | exact made_below hpb | exact made_below' hpb)))
          | ((refine step_append_lies _ (by rfl) _ _ _ (by rfl) w.heap.size 87 i0 _ 1 8 Tryd.underlying71 hi hz0 hz1 hz2 rfl (by omega) _ j (ptrs ps) (by rfl) (own_made HOWN.out hbw (tokObj k txt q) _) ⟨wp.heap.size + 1, 0, none⟩ 1 1 [ptr wp.heap.size] (by rfl) (by rfl) (cell_one2 wp _ _ _) (fun u hu => by simp at hu; subst hu; rfl) (by omega) (by unfold maxLen; omega) (by omega) (by have := HBL.out.size; have := hbw.size; simp; omega) (wp.heap.size + 1 + 1) (by simp) ?_; intro g1 cap1 w1 hown1 hgrow hat hlt1)))
      all_goals
        have HO1 := Aside0.mk hown1
        have HG1 := Aside0.mk hgrow
        have HBW := Aside0.mk hbw
        have HQ2 := Aside0.mk hq2
        clear hown1 hgrow hat hbw hq1 hq2 hpb n0 lz
        go_wp2_with fail
        go_roundw
        case rel =>
          refine ⟨j + 1, ps ++ [wp.heap.size], by omega, by go_num, by simp [HPS.out], by simpa [ptrs] using HO1.out, ⟨_, _, rfl⟩, ?_, ?_, ?_⟩
          · exact toks_step HTK.out HBW.out (by rw [HPS.out]; exact hke) HQ2.out (own_typed (own_made HOWN.out HBW.out (tokObj k txt q) _)) HG1.out
          · intro i hi
            by_cases hl : i < ps.length
            · rw [List.getElem_append_left hl]; exact HH.out i hl
            · obtain rfl : i = ps.length := by simp at hi; omega
              rw [List.getElem_append_right (Nat.le_refl _)]
              simp only [Nat.sub_self, List.getElem_cons_zero]
              have h1 := HBL.out.size
              have h2 := HBW.out.size
              omega
          · have h1 := HBL.out.size
            have h2 := HBW.out.size
            exact (((HBL.out.trans (HBW.out.mono h1)).alloc (by omega) (tokObj k txt q)).alloc (by simp; omega) _).grown HG1.out (by simp; omega) fun y hy => (own_block_lt HOWN.out y hy).1
        case measure => simp [intOf]; omega
    · obtain rfl : j = n := by omega
      obtain ⟨w1, rfl⟩ : ∃ w1, w1 = wr := ⟨_, rfl⟩
      obtain ⟨g', c', rfl⟩ := HF.out
      obtain ⟨cur, hcur⟩ := own_typed HOWN.out g' rfl
      have hrow : ∀ i, (h : i < ps.length) → w1.cell? ⟨g', i, none⟩ = some (.pointer (some ⟨ps[i], 0, none⟩)) := fun i h => by
        have := HOWN.out.cells rfl i (ptr ps[i]) (by simp [ptrs, h])
        rwa [show ((⟨g', 0, none⟩ : Addr).add i) = ⟨g', i, none⟩ by unfold Addr.add; split <;> simp_all] at this
      have HROW := Aside0.mk hrow
      have HCUR := Aside0.mk hcur
      clear hrow hcur
      go_wp2_with fail
      go_loopw [38] (fun si wr => ∃ i : Nat, i ≤ j ∧ si = .int .i64 i ∧ wr.heap[g']? = w1.heap[g']? ∧ Toks wr ps ks ∧ Below w.heap.size w wr) (fun si _ => j - (intOf si).toNat)
      case atStart => exact ⟨0, Nat.zero_le _, rfl, rfl, HTK.out, HBL.out⟩
      case round =>
        obtain ⟨i, hij, rfl, hgx, htx, hbx⟩ := hrel
        have GX := Aside0.mk hgx
        have TX := Aside0.mk htx
        have BX := Aside0.mk hbx
        have RX : Aside0 (∀ i, (h : i < ps.length) → wr.cell? ⟨g', i, none⟩ = some (.pointer (some ⟨ps[i], 0, none⟩))) := ⟨fun i h => by rw [World.cell?_of_block (w := w1) (a := ⟨g', i, none⟩) hgx]; exact HROW.out i h⟩
        clear hgx htx hbx
        have hc : (i = 0 ∧ 1 < j) ∨ (i = 0 ∧ j = 1) ∨ (i = 1 ∧ 2 < j) ∨ (i = 1 ∧ j = 2) ∨ (i = 2 ∧ j = 3) ∨ i = j := by omega
        rcases hc with ⟨rfl, hj1⟩ | ⟨rfl, rfl⟩ | ⟨rfl, hj1⟩ | ⟨rfl, rfl⟩ | ⟨rfl, rfl⟩ | rfl
        · -- token 0 and one behind it
          have hx := (HR.out.below BX.out).cells 0 (by omega)
          obtain ⟨x0, x1, x2, x3, x4, x5, x6, x7, x8, x9, x10, x11, x12⟩ := hx
          have hpl : 0 < ps.length := by rw [HPS.out]; omega
          obtain ⟨c1, c2, vv, o, er, nx, pv, col, off, ind, lev, q, h1, h2⟩ := TX.out 0 hpl
          have rp := RX.out 0 hpl
          have ra := RX.out 1 (by rw [HPS.out]; omega)
          generalize hae : ps[1]'(by rw [HPS.out]; omega) = pa at ra
          have hpB := HH.out 0 hpl
          generalize hpe : ps[0] = p at h1 rp hpB
          have ltp := blk_lt h1
          have ltg := World.block_lt_of_cell? wr _ rp
          have ngp : ¬ g' = p := fun e => by
            subst e
            rw [GX.out, HCUR.out] at h1; injection h1 with h1; injection h1 with _ h1; cases h1
          have npg : ¬ p = g' := fun e => ngp e.symm
          have h1a := fun o => blk_alloc h1 o
          have rp' := fun o => pw_cell_below ((Below.refl wr.heap.size wr).alloc (Nat.le_refl _) o) rp
          have ra' := fun o => pw_cell_below ((Below.refl wr.heap.size wr).alloc (Nat.le_refl _) o) ra
          have p7 := fun o => blk_cell (h1a o) 7
          have p7f := fun o => blk_frozen (h1a o) 7
          have cd := fun (v : Value) (o : Obj) => blk_new' (wr.setCell ⟨p, 7, none⟩ v) o wr.heap.size (by simp)
          have d12 := fun v a0 a1 a2 a3 a4 a5 a6 a7 a8 a9 a10 a11 a12 => blk_cell (cd v (.cells #[a0, a1, a2, a3, a4, a5, a6, a7, a8, a9, a10, a11, a12] 54)) 12
          simp only [List.setIfInBounds_toArray, List.set_cons_zero, List.set_cons_succ, List.getElem?_toArray, List.getElem?_cons_succ, List.getElem?_cons_zero] at p7 d12
          have T7 := Aside0.mk (toks_set TX.out hpl hpe 7 (.inl rfl) (.pointer (some ⟨pa, 0, none⟩)))
          have GG : Aside0 ((wr.setCell ⟨p, 7, none⟩ (.pointer (some ⟨pa, 0, none⟩))).heap[g']? = w1.heap[g']?) := ⟨by rw [Below.heap_setCell _ _ _ _ ngp, GX.out]⟩
          have HSZ : Aside0 (g' < (wr.setCell ⟨p, 7, none⟩ (.pointer (some ⟨pa, 0, none⟩))).heap.size ∧ w.heap.size ≤ (wr.setCell ⟨p, 7, none⟩ (.pointer (some ⟨pa, 0, none⟩))).heap.size) := ⟨by have h := BX.out.size; have e : (wr.setCell ⟨p, 7, none⟩ (.pointer (some ⟨pa, 0, none⟩))).heap.size = wr.heap.size := (by first | rfl | simp); rw [e]; exact ⟨ltg, h⟩⟩
          have BB : Aside0 (Below w.heap.size w (wr.setCell ⟨p, 7, none⟩ (.pointer (some ⟨pa, 0, none⟩)))) := ⟨(BX.out.setCell hpB _)⟩
          have TT : Aside0 (Toks (wr.setCell ⟨p, 7, none⟩ (.pointer (some ⟨pa, 0, none⟩))) ps ks) := ⟨T7.out⟩
          have H1 := Aside0.mk h1
          clear h1 h1a hpe h2 hpl cd hae
          go_wp2_with fail
          go_region_held3 (fun w' => w'.cell? ⟨g', 0, none⟩ = some (.pointer (some ⟨p, 0, none⟩)) ∧ w'.cell? ⟨g', 1, none⟩ = some (.pointer (some ⟨pa, 0, none⟩)) ∧ w'.cell? ⟨wr.heap.size, 12, none⟩ = some (.int .i64 1)) (go_keep) (fail)
          go_wp2_with fail
          go_roundw
          case rel =>
            first
              | exact ⟨1, by omega, by go_num, (Below.heap_alloc _ _ g' HSZ.out.1).trans GG.out, toks_alloc TT.out _, by first | exact BB.out.alloc HSZ.out.2 _ | exact (BB.out.alloc HSZ.out.2 _).drew | exact (BB.out.alloc HSZ.out.2 _).drew.drew⟩
              | ((repeat apply Exists.intro); exact ⟨⟨1, by omega, by go_num, (Below.heap_alloc _ _ g' HSZ.out.1).trans GG.out, toks_alloc TT.out _, by first | exact BB.out.alloc HSZ.out.2 _ | exact (BB.out.alloc HSZ.out.2 _).drew | exact (BB.out.alloc HSZ.out.2 _).drew.drew⟩, rfl⟩)
          case measure => simp [intOf] <;> omega
        · -- token 0, the last
          have hx := (HR.out.below BX.out).cells 0 (by omega)
          obtain ⟨x0, x1, x2, x3, x4, x5, x6, x7, x8, x9, x10, x11, x12⟩ := hx
          have hpl : 0 < ps.length := by rw [HPS.out]; omega
          obtain ⟨c1, c2, vv, o, er, nx, pv, col, off, ind, lev, q, h1, h2⟩ := TX.out 0 hpl
          have rp := RX.out 0 hpl
          have hpB := HH.out 0 hpl
          generalize hpe : ps[0] = p at h1 rp hpB
          have ltp := blk_lt h1
          have ltg := World.block_lt_of_cell? wr _ rp
          have ngp : ¬ g' = p := fun e => by
            subst e
            rw [GX.out, HCUR.out] at h1; injection h1 with h1; injection h1 with _ h1; cases h1
          have npg : ¬ p = g' := fun e => ngp e.symm
          have h1a := fun o => blk_alloc h1 o
          have rp' := fun o => pw_cell_below ((Below.refl wr.heap.size wr).alloc (Nat.le_refl _) o) rp
          have GG : Aside0 (wr.heap[g']? = w1.heap[g']?) := ⟨by rw [GX.out]⟩
          have HSZ : Aside0 (g' < wr.heap.size ∧ w.heap.size ≤ wr.heap.size) := ⟨by have h := BX.out.size; have e : wr.heap.size = wr.heap.size := (by first | rfl | simp); rw [e]; exact ⟨ltg, h⟩⟩
          have BB : Aside0 (Below w.heap.size w wr) := ⟨BX.out⟩
          have TT : Aside0 (Toks wr ps ks) := ⟨TX.out⟩
          have H1 := Aside0.mk h1
          clear h1 h1a hpe h2 hpl
          go_wp2_with fail
          go_wp2_with fail
          go_roundw
          case rel =>
            first
              | exact ⟨1, by omega, by go_num, (Below.heap_alloc _ _ g' HSZ.out.1).trans GG.out, toks_alloc TT.out _, by first | exact BB.out.alloc HSZ.out.2 _ | exact (BB.out.alloc HSZ.out.2 _).drew | exact (BB.out.alloc HSZ.out.2 _).drew.drew⟩
              | ((repeat apply Exists.intro); exact ⟨⟨1, by omega, by go_num, (Below.heap_alloc _ _ g' HSZ.out.1).trans GG.out, toks_alloc TT.out _, by first | exact BB.out.alloc HSZ.out.2 _ | exact (BB.out.alloc HSZ.out.2 _).drew | exact (BB.out.alloc HSZ.out.2 _).drew.drew⟩, rfl⟩)
          case measure => simp [intOf] <;> omega
        · -- token 1 and one behind it
          have hx := (HR.out.below BX.out).cells 1 (by omega)
          obtain ⟨x0, x1, x2, x3, x4, x5, x6, x7, x8, x9, x10, x11, x12⟩ := hx
          have hpl : 1 < ps.length := by rw [HPS.out]; omega
          obtain ⟨c1, c2, vv, o, er, nx, pv, col, off, ind, lev, q, h1, h2⟩ := TX.out 1 hpl
          have rp := RX.out 1 hpl
          have rb := RX.out 0 (by omega)
          generalize hbe : ps[0]'(by omega) = pb at rb
          have ra := RX.out 2 (by rw [HPS.out]; omega)
          generalize hae : ps[2]'(by rw [HPS.out]; omega) = pa at ra
          have hpB := HH.out 1 hpl
          generalize hpe : ps[1] = p at h1 rp hpB
          have ltp := blk_lt h1
          have ltg := World.block_lt_of_cell? wr _ rp
          have ngp : ¬ g' = p := fun e => by
            subst e
            rw [GX.out, HCUR.out] at h1; injection h1 with h1; injection h1 with _ h1; cases h1
          have npg : ¬ p = g' := fun e => ngp e.symm
          have h1a := fun o => blk_alloc h1 o
          have rp' := fun o => pw_cell_below ((Below.refl wr.heap.size wr).alloc (Nat.le_refl _) o) rp
          have rb' := fun o => pw_cell_below ((Below.refl wr.heap.size wr).alloc (Nat.le_refl _) o) rb
          have ra' := fun o => pw_cell_below ((Below.refl wr.heap.size wr).alloc (Nat.le_refl _) o) ra
          have p8 := fun o => blk_cell (h1a o) 8
          have p8f := fun o => blk_frozen (h1a o) 8
          have cc := fun (u : Value) (o : Obj) => blk_new' (wr.setCell ⟨p, 8, none⟩ u) o wr.heap.size (by simp)
          have c11 := fun u a0 a1 a2 a3 a4 a5 a6 a7 a8 a9 a10 a11 a12 => blk_cell (cc u (.cells #[a0, a1, a2, a3, a4, a5, a6, a7, a8, a9, a10, a11, a12] 54)) 11
          have c12 := fun u a0 a1 a2 a3 a4 a5 a6 a7 a8 a9 a10 a11 a12 => blk_cell (cc u (.cells #[a0, a1, a2, a3, a4, a5, a6, a7, a8, a9, a10, a11, a12] 54)) 12
          have hs := fun (u : Value) => blk_set h1 8 u
          have p7 := fun u o => blk_cell (blk_alloc (hs u) o) 7
          have p7f := fun u o => blk_frozen (blk_alloc (hs u) o) 7
          have cd := fun (u v : Value) (o : Obj) => blk_new' ((wr.setCell ⟨p, 8, none⟩ u).setCell ⟨p, 7, none⟩ v) o wr.heap.size (by simp)
          have d12 := fun u v a0 a1 a2 a3 a4 a5 a6 a7 a8 a9 a10 a11 a12 => blk_cell (cd u v (.cells #[a0, a1, a2, a3, a4, a5, a6, a7, a8, a9, a10, a11, a12] 54)) 12
          simp only [List.setIfInBounds_toArray, List.set_cons_zero, List.set_cons_succ, List.getElem?_toArray, List.getElem?_cons_succ, List.getElem?_cons_zero] at p8 c11 c12 p7 d12
          have T8 := Aside0.mk (toks_set TX.out hpl hpe 8 (.inr rfl) (.pointer (some ⟨pb, 0, none⟩)))
          have T7 := Aside0.mk (toks_set T8.out hpl hpe 7 (.inl rfl) (.pointer (some ⟨pa, 0, none⟩)))
          have GG : Aside0 (((wr.setCell ⟨p, 8, none⟩ (.pointer (some ⟨pb, 0, none⟩))).setCell ⟨p, 7, none⟩ (.pointer (some ⟨pa, 0, none⟩))).heap[g']? = w1.heap[g']?) := ⟨by rw [Below.heap_setCell _ _ _ _ ngp, Below.heap_setCell _ _ _ _ ngp, GX.out]⟩
          have HSZ : Aside0 (g' < ((wr.setCell ⟨p, 8, none⟩ (.pointer (some ⟨pb, 0, none⟩))).setCell ⟨p, 7, none⟩ (.pointer (some ⟨pa, 0, none⟩))).heap.size ∧ w.heap.size ≤ ((wr.setCell ⟨p, 8, none⟩ (.pointer (some ⟨pb, 0, none⟩))).setCell ⟨p, 7, none⟩ (.pointer (some ⟨pa, 0, none⟩))).heap.size) := ⟨by have h := BX.out.size; have e : ((wr.setCell ⟨p, 8, none⟩ (.pointer (some ⟨pb, 0, none⟩))).setCell ⟨p, 7, none⟩ (.pointer (some ⟨pa, 0, none⟩))).heap.size = wr.heap.size := (by first | rfl | simp); rw [e]; exact ⟨ltg, h⟩⟩
          have BB : Aside0 (Below w.heap.size w ((wr.setCell ⟨p, 8, none⟩ (.pointer (some ⟨pb, 0, none⟩))).setCell ⟨p, 7, none⟩ (.pointer (some ⟨pa, 0, none⟩)))) := ⟨((BX.out.setCell hpB _).setCell hpB _)⟩
          have TT : Aside0 (Toks ((wr.setCell ⟨p, 8, none⟩ (.pointer (some ⟨pb, 0, none⟩))).setCell ⟨p, 7, none⟩ (.pointer (some ⟨pa, 0, none⟩))) ps ks) := ⟨T7.out⟩
          have H1 := Aside0.mk h1
          clear h1 h1a hpe h2 hpl cc hbe cd hae hs
          go_wp2_with fail
          go_region_held3 (fun w' => w'.cell? ⟨g', 1, none⟩ = some (.pointer (some ⟨p, 0, none⟩)) ∧ w'.cell? ⟨g', 0, none⟩ = some (.pointer (some ⟨pb, 0, none⟩)) ∧ w'.cell? ⟨wr.heap.size, 11, none⟩ = some (.int .i64 0)) (go_keep) (fail)
          go_wp2_with fail
          go_region_held3 (fun w' => w'.cell? ⟨g', 1, none⟩ = some (.pointer (some ⟨p, 0, none⟩)) ∧ w'.cell? ⟨g', 2, none⟩ = some (.pointer (some ⟨pa, 0, none⟩)) ∧ w'.cell? ⟨wr.heap.size, 12, none⟩ = some (.int .i64 2)) (go_keep) (fail)
          go_wp2_with fail
          go_roundw
          case rel =>
            first
              | exact ⟨2, by omega, by go_num, (Below.heap_alloc _ _ g' HSZ.out.1).trans GG.out, toks_alloc TT.out _, by first | exact BB.out.alloc HSZ.out.2 _ | exact (BB.out.alloc HSZ.out.2 _).drew | exact (BB.out.alloc HSZ.out.2 _).drew.drew⟩
              | ((repeat apply Exists.intro); exact ⟨⟨2, by omega, by go_num, (Below.heap_alloc _ _ g' HSZ.out.1).trans GG.out, toks_alloc TT.out _, by first | exact BB.out.alloc HSZ.out.2 _ | exact (BB.out.alloc HSZ.out.2 _).drew | exact (BB.out.alloc HSZ.out.2 _).drew.drew⟩, rfl⟩)
          case measure => simp [intOf] <;> omega
        · -- token 1, the last
          have hx := (HR.out.below BX.out).cells 1 (by omega)
          obtain ⟨x0, x1, x2, x3, x4, x5, x6, x7, x8, x9, x10, x11, x12⟩ := hx
          have hpl : 1 < ps.length := by rw [HPS.out]; omega
          obtain ⟨c1, c2, vv, o, er, nx, pv, col, off, ind, lev, q, h1, h2⟩ := TX.out 1 hpl
          have rp := RX.out 1 hpl
          have rb := RX.out 0 (by omega)
          generalize hbe : ps[0]'(by omega) = pb at rb
          have hpB := HH.out 1 hpl
          generalize hpe : ps[1] = p at h1 rp hpB
          have ltp := blk_lt h1
          have ltg := World.block_lt_of_cell? wr _ rp
          have ngp : ¬ g' = p := fun e => by
            subst e
            rw [GX.out, HCUR.out] at h1; injection h1 with h1; injection h1 with _ h1; cases h1
          have npg : ¬ p = g' := fun e => ngp e.symm
          have h1a := fun o => blk_alloc h1 o
          have rp' := fun o => pw_cell_below ((Below.refl wr.heap.size wr).alloc (Nat.le_refl _) o) rp
          have rb' := fun o => pw_cell_below ((Below.refl wr.heap.size wr).alloc (Nat.le_refl _) o) rb
          have p8 := fun o => blk_cell (h1a o) 8
          have p8f := fun o => blk_frozen (h1a o) 8
          have cc := fun (u : Value) (o : Obj) => blk_new' (wr.setCell ⟨p, 8, none⟩ u) o wr.heap.size (by simp)
          have c11 := fun u a0 a1 a2 a3 a4 a5 a6 a7 a8 a9 a10 a11 a12 => blk_cell (cc u (.cells #[a0, a1, a2, a3, a4, a5, a6, a7, a8, a9, a10, a11, a12] 54)) 11
          have c12 := fun u a0 a1 a2 a3 a4 a5 a6 a7 a8 a9 a10 a11 a12 => blk_cell (cc u (.cells #[a0, a1, a2, a3, a4, a5, a6, a7, a8, a9, a10, a11, a12] 54)) 12
          simp only [List.setIfInBounds_toArray, List.set_cons_zero, List.set_cons_succ, List.getElem?_toArray, List.getElem?_cons_succ, List.getElem?_cons_zero] at p8 c11 c12
          have T8 := Aside0.mk (toks_set TX.out hpl hpe 8 (.inr rfl) (.pointer (some ⟨pb, 0, none⟩)))
          have GG : Aside0 ((wr.setCell ⟨p, 8, none⟩ (.pointer (some ⟨pb, 0, none⟩))).heap[g']? = w1.heap[g']?) := ⟨by rw [Below.heap_setCell _ _ _ _ ngp, GX.out]⟩
          have HSZ : Aside0 (g' < (wr.setCell ⟨p, 8, none⟩ (.pointer (some ⟨pb, 0, none⟩))).heap.size ∧ w.heap.size ≤ (wr.setCell ⟨p, 8, none⟩ (.pointer (some ⟨pb, 0, none⟩))).heap.size) := ⟨by have h := BX.out.size; have e : (wr.setCell ⟨p, 8, none⟩ (.pointer (some ⟨pb, 0, none⟩))).heap.size = wr.heap.size := (by first | rfl | simp); rw [e]; exact ⟨ltg, h⟩⟩
          have BB : Aside0 (Below w.heap.size w (wr.setCell ⟨p, 8, none⟩ (.pointer (some ⟨pb, 0, none⟩)))) := ⟨(BX.out.setCell hpB _)⟩
          have TT : Aside0 (Toks (wr.setCell ⟨p, 8, none⟩ (.pointer (some ⟨pb, 0, none⟩))) ps ks) := ⟨T8.out⟩
          have H1 := Aside0.mk h1
          clear h1 h1a hpe h2 hpl cc hbe
          go_wp2_with fail
          go_region_held3 (fun w' => w'.cell? ⟨g', 1, none⟩ = some (.pointer (some ⟨p, 0, none⟩)) ∧ w'.cell? ⟨g', 0, none⟩ = some (.pointer (some ⟨pb, 0, none⟩)) ∧ w'.cell? ⟨wr.heap.size, 11, none⟩ = some (.int .i64 0)) (go_keep) (fail)
          go_wp2_with fail
          go_wp2_with fail
          go_roundw
          case rel =>
            first
              | exact ⟨2, by omega, by go_num, (Below.heap_alloc _ _ g' HSZ.out.1).trans GG.out, toks_alloc TT.out _, by first | exact BB.out.alloc HSZ.out.2 _ | exact (BB.out.alloc HSZ.out.2 _).drew | exact (BB.out.alloc HSZ.out.2 _).drew.drew⟩
              | ((repeat apply Exists.intro); exact ⟨⟨2, by omega, by go_num, (Below.heap_alloc _ _ g' HSZ.out.1).trans GG.out, toks_alloc TT.out _, by first | exact BB.out.alloc HSZ.out.2 _ | exact (BB.out.alloc HSZ.out.2 _).drew | exact (BB.out.alloc HSZ.out.2 _).drew.drew⟩, rfl⟩)
          case measure => simp [intOf] <;> omega
        · -- token 2, the last
          have hx := (HR.out.below BX.out).cells 2 (by omega)
          obtain ⟨x0, x1, x2, x3, x4, x5, x6, x7, x8, x9, x10, x11, x12⟩ := hx
          have hpl : 2 < ps.length := by rw [HPS.out]; omega
          obtain ⟨c1, c2, vv, o, er, nx, pv, col, off, ind, lev, q, h1, h2⟩ := TX.out 2 hpl
          have rp := RX.out 2 hpl
          have rb := RX.out 1 (by omega)
          generalize hbe : ps[1]'(by omega) = pb at rb
          have hpB := HH.out 2 hpl
          generalize hpe : ps[2] = p at h1 rp hpB
          have ltp := blk_lt h1
          have ltg := World.block_lt_of_cell? wr _ rp
          have ngp : ¬ g' = p := fun e => by
            subst e
            rw [GX.out, HCUR.out] at h1; injection h1 with h1; injection h1 with _ h1; cases h1
          have npg : ¬ p = g' := fun e => ngp e.symm
          have h1a := fun o => blk_alloc h1 o
          have rp' := fun o => pw_cell_below ((Below.refl wr.heap.size wr).alloc (Nat.le_refl _) o) rp
          have rb' := fun o => pw_cell_below ((Below.refl wr.heap.size wr).alloc (Nat.le_refl _) o) rb
          have p8 := fun o => blk_cell (h1a o) 8
          have p8f := fun o => blk_frozen (h1a o) 8
          have cc := fun (u : Value) (o : Obj) => blk_new' (wr.setCell ⟨p, 8, none⟩ u) o wr.heap.size (by simp)
          have c11 := fun u a0 a1 a2 a3 a4 a5 a6 a7 a8 a9 a10 a11 a12 => blk_cell (cc u (.cells #[a0, a1, a2, a3, a4, a5, a6, a7, a8, a9, a10, a11, a12] 54)) 11
          have c12 := fun u a0 a1 a2 a3 a4 a5 a6 a7 a8 a9 a10 a11 a12 => blk_cell (cc u (.cells #[a0, a1, a2, a3, a4, a5, a6, a7, a8, a9, a10, a11, a12] 54)) 12
          simp only [List.setIfInBounds_toArray, List.set_cons_zero, List.set_cons_succ, List.getElem?_toArray, List.getElem?_cons_succ, List.getElem?_cons_zero] at p8 c11 c12
          have T8 := Aside0.mk (toks_set TX.out hpl hpe 8 (.inr rfl) (.pointer (some ⟨pb, 0, none⟩)))
          have GG : Aside0 ((wr.setCell ⟨p, 8, none⟩ (.pointer (some ⟨pb, 0, none⟩))).heap[g']? = w1.heap[g']?) := ⟨by rw [Below.heap_setCell _ _ _ _ ngp, GX.out]⟩
          have HSZ : Aside0 (g' < (wr.setCell ⟨p, 8, none⟩ (.pointer (some ⟨pb, 0, none⟩))).heap.size ∧ w.heap.size ≤ (wr.setCell ⟨p, 8, none⟩ (.pointer (some ⟨pb, 0, none⟩))).heap.size) := ⟨by have h := BX.out.size; have e : (wr.setCell ⟨p, 8, none⟩ (.pointer (some ⟨pb, 0, none⟩))).heap.size = wr.heap.size := (by first | rfl | simp); rw [e]; exact ⟨ltg, h⟩⟩
          have BB : Aside0 (Below w.heap.size w (wr.setCell ⟨p, 8, none⟩ (.pointer (some ⟨pb, 0, none⟩)))) := ⟨(BX.out.setCell hpB _)⟩
          have TT : Aside0 (Toks (wr.setCell ⟨p, 8, none⟩ (.pointer (some ⟨pb, 0, none⟩))) ps ks) := ⟨T8.out⟩
          have H1 := Aside0.mk h1
          clear h1 h1a hpe h2 hpl cc hbe
          go_wp2_with fail
          go_region_held3 (fun w' => w'.cell? ⟨g', 2, none⟩ = some (.pointer (some ⟨p, 0, none⟩)) ∧ w'.cell? ⟨g', 1, none⟩ = some (.pointer (some ⟨pb, 0, none⟩)) ∧ w'.cell? ⟨wr.heap.size, 11, none⟩ = some (.int .i64 1)) (go_keep) (fail)
          go_wp2_with fail
          go_wp2_with fail
          go_roundw
          case rel =>
            first
              | exact ⟨3, by omega, by go_num, (Below.heap_alloc _ _ g' HSZ.out.1).trans GG.out, toks_alloc TT.out _, by first | exact BB.out.alloc HSZ.out.2 _ | exact (BB.out.alloc HSZ.out.2 _).drew | exact (BB.out.alloc HSZ.out.2 _).drew.drew⟩
              | ((repeat apply Exists.intro); exact ⟨⟨3, by omega, by go_num, (Below.heap_alloc _ _ g' HSZ.out.1).trans GG.out, toks_alloc TT.out _, by first | exact BB.out.alloc HSZ.out.2 _ | exact (BB.out.alloc HSZ.out.2 _).drew | exact (BB.out.alloc HSZ.out.2 _).drew.drew⟩, rfl⟩)
          case measure => simp [intOf] <;> omega
        · go_wp2_with fail
          go_ret
          exact ⟨g', c', ps, rfl, HPS.out, fun k hk => RX.out k hk, TX.out, BX.out⟩
end Go.Proofs.YtmildhkegpmacaaDoor.GroupMd
