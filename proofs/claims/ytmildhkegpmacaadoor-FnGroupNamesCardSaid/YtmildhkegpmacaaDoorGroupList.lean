/- FnGroupNames: the parser's groups as data (groups), for lists of tokens and of groups. -/
import Derived.Test.YtmildhkegpmacaaDoorGroupTok
import Derived.Test.YtmildhkegpmacaaDoorGroupAll
import Derived.Deep.AppendLies
namespace Go.Proofs.YtmildhkegpmacaaDoor.GroupList
open Go.RowKit Go.Proofs.YtmildhkegpmacaaDoorW.PrintWords Go.Proofs.YtmildhkegpmacaaDoor.GroupBase Go.Proofs.YtmildhkegpmacaaDoor.GroupPass Go.Proofs.YtmildhkegpmacaaDoor.GroupAlias Go.Proofs.YtmildhkegpmacaaDoor.GroupTok
set_option linter.unusedVariables false
set_option linter.unusedSimpArgs false
attribute [local go_sem ↓] Go.wp_at_zero Go.wp_at_succ

theorem info82 : (Tryd.prog.info? 82).map (fun i => (i.zero, i.size, i.bytes)) = some (some (.agg #[.int .i64 0, .int .i64 0, .int .i64 0, .slice none 0 0]), 4, 48) := by kernel_rfl

/-- Where the next token is looked for. -/
def Near (w : World) (nr : Nat) (k : Int) : Prop := w.heap[nr]? = some (.cells #[.int .i64 k] 3 (0, 0))

/-- A group as data: its type, its token, its kids. -/
structure En where
  ty : Int
  tok : Int
  kids : Value
def En.cells (x : En) : List Value := [.int .i64 x.ty, .int .i64 x.tok, .int .i64 (-1), x.kids]
def flat (es : List En) : List Value := es.flatMap En.cells
/-- A list of groups as data. -/
def RowE (nr : Nat) (w : World) (v : Value) (es : List En) : Prop := ∃ base, nr < base ∧ w.ownsRow base 82 4 v es.length (flat es)

theorem flat_length (es : List En) : (flat es).length = es.length * 4 := by
  induction es with
  | nil => rfl
  | cons x t ih => simp only [flat, List.flatMap_cons, List.length_append] at ih ⊢; rw [ih]; simp [En.cells]; omega

/-- G holds wherever the blocks from lo to hi are as here. -/
def Seal (lo hi : Nat) (W : World) (G : World → Prop) : Prop := ∀ W2 : World, (∀ x, lo ≤ x → x < hi → W2.heap[x]? = W.heap[x]?) → G W2

/-- What groups gives for a list of the parser's tokens. -/
def Gives (w : World) (nr : Nat) (l s : Value) (k k' : Int) (P : Value → World → Prop) : Prop := ∀ W, KeepBut w W nr none → Near W nr k →
  Calls Tryd.prog 50 #[l, s, .pointer (some ⟨nr, 0, none⟩)] W fun e W' => ∃ (A : Option Addr) (n c : Nat), e = .returned (.slice A n c) ∧ Seal W.heap.size W'.heap.size W' (P (.slice A n c)) ∧ Near W' nr k' ∧ KeepBut W W' nr none ∧ Below 0 W W'

/-- One of the parser's tokens, and what becomes of it. -/
inductive El (w : World) (nr : Nat) (l : Value) (q : Nat) (k k' ty tok : Int) (P : Value → World → Prop) : Prop
  | leaf (t : Nat) (hq : q ≠ nr) (hl : Leaf w q t) (hi : ∀ W, KeepBut w W nr none → Calls Tryd.prog 79 #[l, .pointer (some ⟨t, 0, none⟩), .int .i64 k] W fun e W' => e = .returned (.int .i64 k) ∧ W = W')
      (h1 : k' = k + 1) (h2 : ty = 0) (h3 : tok = k) (hk : 0 ≤ k ∧ k ≤ 1000) (hP : ∀ W, P (.slice none 0 0) W)
  | grp (g b n c : Nat) (hq : q ≠ nr) (hg : g ≠ nr) (h : Grp w q g ty b n c) (hs : Gives w nr l (.slice (some ⟨b, 0, none⟩) n c) k k' P) (h3 : tok = -1)

/-- Groups as data that fit. -/
def Fit (ty tok : Nat → Int) (P : Nat → Value → World → Prop) (base : Nat) (out : Value) (W : World) (es : List En) : Prop := ∀ i, (h : i < es.length) → (es[i]).ty = ty i ∧ (es[i]).tok = tok i ∧
  ∃ lo hi, base ≤ lo ∧ hi ≤ W.heap.size ∧ (∀ g, out.ownBlock = some g → g < lo ∨ hi ≤ g) ∧ Seal lo hi W (P i (es[i]).kids)

theorem Fit.step {ty tok : Nat → Int} {P : Nat → Value → World → Prop} {base : Nat} {out out' : Value} {W W' : World} {es : List En} (h : Fit ty tok P base out W es) (hsz : W.heap.size ≤ W'.heap.size)
    (hs : ∀ x, base ≤ x → x < W.heap.size → (∀ g, out.ownBlock = some g → x ≠ g) → W'.heap[x]? = W.heap[x]?) (ho : ∀ g, out'.ownBlock = some g → out.ownBlock = some g ∨ W.heap.size ≤ g) : Fit ty tok P base out' W' es := by
  intro i hi
  obtain ⟨h1, h2, lo, hb, hlo, hhi, hout, hse⟩ := h i hi
  refine ⟨h1, h2, lo, hb, hlo, Nat.le_trans hhi hsz, fun g hg => ?_, fun W2 h2 => hse W2 fun x hx1 hx2 => ?_⟩
  · rcases ho g hg with h | h
    · exact hout g h
    · exact .inr (Nat.le_trans hhi h)
  · rw [h2 x hx1 hx2]
    refine hs x (Nat.le_trans hlo hx1) (Nat.lt_of_lt_of_le hx2 hhi) fun g hg e => ?_
    subst e
    rcases hout _ hg with h | h <;> omega

theorem Fit.snoc {ty tok : Nat → Int} {P : Nat → Value → World → Prop} {base : Nat} {out : Value} {W : World} {es : List En} {x : En} (h : Fit ty tok P base out W es) (h1 : x.ty = ty es.length) (h2 : x.tok = tok es.length)
    (h3 : ∃ lo hi, base ≤ lo ∧ hi ≤ W.heap.size ∧ (∀ g, out.ownBlock = some g → g < lo ∨ hi ≤ g) ∧ Seal lo hi W (P es.length x.kids)) : Fit ty tok P base out W (es ++ [x]) := by
  intro i hi
  by_cases hl : i < es.length
  · rw [List.getElem_append_left hl]; exact h i hl
  · obtain rfl : i = es.length := by simp at hi; omega
    rw [List.getElem_append_right (Nat.le_refl _)]
    simp only [Nat.sub_self, List.getElem_cons_zero]
    exact ⟨h1, h2, h3⟩

theorem own_same {W W2 : World} {base n : Nat} {e : TypeId} {size : Nat} {v : Value} {xs : List Value} (h : W.ownsRow base e size v n xs) (hs : ∀ x, base ≤ x → x < W.heap.size → W2.heap[x]? = W.heap[x]?) : W2.ownsRow base e size v n xs := by
  refine ⟨h.1, ?_⟩
  rcases h.2 with h | ⟨g, cap, cur, h1, h2, h3, h4⟩
  · exact .inl h
  · exact .inr ⟨g, cap, cur, h1, h2, (hs g h2 (blk_lt h3)).trans h3, h4⟩

theorem own_form {W : World} {base n : Nat} {e : TypeId} {size : Nat} {v : Value} {xs : List Value} (h : W.ownsRow base e size v n xs) : ∃ (A : Option Addr) (n c : Nat), v = .slice A n c := by
  rcases h.2 with ⟨rfl, _⟩ | ⟨g', cap, cur, rfl, _⟩
  · exact ⟨_, _, _, rfl⟩
  · exact ⟨_, _, _, rfl⟩

theorem own_block_lt {W : World} {base n : Nat} {e : TypeId} {size : Nat} {v : Value} {xs : List Value} (h : W.ownsRow base e size v n xs) (g : Nat) (hg : v.ownBlock = some g) : base ≤ g ∧ g < W.heap.size := by
  rcases h.2 with ⟨rfl, _⟩ | ⟨g', cap, cur, rfl, h2, h3, h4⟩
  · cases hg
  · obtain rfl : g' = g := by simpa [Value.ownBlock] using hg
    exact ⟨h2, blk_lt h3⟩

theorem near_cell {w : World} {nr : Nat} {k : Int} (h : Near w nr k) : w.cell? ⟨nr, 0, none⟩ = some (.int .i64 k) := by
  rw [blk_cell h 0]; rfl
theorem near_free {w : World} {nr : Nat} {k : Int} (h : Near w nr k) : w.frozen? ⟨nr, 0, none⟩ = false := blk_frozen h 0

theorem flat_snoc (es : List En) (x : En) : flat (es ++ [x]) = flat es ++ x.cells := by simp [flat]

theorem own_after {wr : World} {base nr n : Nat} {v : Value} {xs : List Value} (h : wr.ownsRow base 82 4 v n xs) (hb : nr < base) (u : Value) (X Y : Obj) : ((((wr.setCell ⟨nr, 0, none⟩ u).alloc X).alloc Y).drew).ownsRow base 82 4 v n xs := by
  have h1 : (wr.setCell ⟨nr, 0, none⟩ u).ownsRow base 82 4 v n xs := own_same h fun x h1 h2 => Below.heap_setCell wr ⟨nr, 0, none⟩ u x (by show x ≠ nr; omega)
  exact (h1.alloc X).alloc Y

theorem news_after (wr : World) (nr : Nat) (u : Value) (X : Obj) (cs : List Value) : ∀ (j : Nat) (x : Value), cs[j]? = some x → ((((wr.setCell ⟨nr, 0, none⟩ u).alloc X).alloc (.cells cs.toArray 82)).drew).cell? (Addr.add ⟨wr.heap.size + 1, 0, none⟩ j) = some x := by
  intro j x h
  have hb := blk_new' ((wr.setCell ⟨nr, 0, none⟩ u).alloc X) (.cells cs.toArray 82) (wr.heap.size + 1) (by simp)
  exact World.news_of_block (blk_drew hb) j x (by simpa using h)

theorem own_after2 {wr w2 : World} {base nr n : Nat} {v : Value} {xs : List Value} {X : Obj} (h : wr.ownsRow base 82 4 v n xs) (hb : nr < base) (hk : KeepBut (wr.alloc X) w2 nr none) (u : Value) (Y : Obj) :
    ((w2.setCell ⟨wr.heap.size, 3, none⟩ u).alloc Y).ownsRow base 82 4 v n xs := by
  refine World.ownsRow.alloc ?_ Y
  refine own_same h fun x h1 h2 => ?_
  rw [Below.heap_setCell w2 ⟨wr.heap.size, 3, none⟩ u x (by show x ≠ wr.heap.size; omega), hk.2 x (by simp; omega) (by omega) (by simp)]
  exact Below.heap_alloc wr X x h2

theorem news_after2 (w2 : World) (B : Nat) (u : Value) (cs : List Value) : ∀ (j : Nat) (x : Value), cs[j]? = some x → ((w2.setCell ⟨B, 3, none⟩ u).alloc (.cells cs.toArray 82)).cell? (Addr.add ⟨w2.heap.size, 0, none⟩ j) = some x := by
  intro j x h
  have hb := blk_new' (w2.setCell ⟨B, 3, none⟩ u) (.cells cs.toArray 82) w2.heap.size (by simp)
  exact World.news_of_block hb j x (by simpa using h)

theorem cells_one (x : En) (hk : ∀ u : Unit, x.kids.oneCell' = true) : ∀ u ∈ x.cells, u.oneCell' = true := by
  intro u hu
  simp only [En.cells, List.mem_cons, List.mem_nil_iff, or_false] at hu
  rcases hu with rfl | rfl | rfl | rfl
  · rfl
  · rfl
  · rfl
  · exact hk ()

/-- What a round leaves behind its append. -/
theorem round_rel {ty tok κ : Nat → Int} {P : Nat → Value → World → Prop} {w wr W2 w1 : World} {nr j g cap : Nat} {out : Value} {es : List En} {x : En}
    (hes : es.length = j) (hfit : Fit ty tok P w.heap.size out wr es) (hown : wr.ownsRow w.heap.size 82 4 out j (flat es)) (hkp : KeepBut w wr nr none) (hsz : nr < w.heap.size)
    (hk2 : KeepBut wr W2 nr none) (hn2 : Near W2 nr (κ (j + 1))) (hown1 : w1.ownsRow w.heap.size 82 4 (.slice (some ⟨g, 0, none⟩) (j + 1) cap) (j + 1) (flat es ++ x.cells)) (hgr : W2.grownBy w1 out.ownBlock)
    (hat : out.ownBlock = some g ∨ wr.heap.size ≤ g) (hx1 : x.ty = ty j) (hx2 : x.tok = tok j)
    (hx3 : ∃ lo hi, w.heap.size ≤ lo ∧ hi ≤ W2.heap.size ∧ (∀ b, out.ownBlock = some b → b < lo ∨ hi ≤ b) ∧ (g < lo ∨ hi ≤ g) ∧ Seal lo hi W2 (P j x.kids)) :
    (es ++ [x]).length = j + 1 ∧ Fit ty tok P w.heap.size (.slice (some ⟨g, 0, none⟩) (j + 1) cap) w1 (es ++ [x]) ∧ w1.ownsRow w.heap.size 82 4 (.slice (some ⟨g, 0, none⟩) (j + 1) cap) (j + 1) (flat (es ++ [x])) ∧ Near w1 nr (κ (j + 1)) ∧ KeepBut w w1 nr none := by
  have hrow : out.ownBlock ≠ some nr := fun e => by have := (own_block_lt hown nr e).1; omega
  have hk1 : KeepBut wr w1 nr out.ownBlock := ⟨Nat.le_trans hk2.1 hgr.size, fun i hi hne hr => by
    rw [hgr.block i (Nat.lt_of_lt_of_le hi hk2.1) hr]
    exact hk2.2 i hi hne (by simp)⟩
  refine ⟨by simp [hes], Fit.snoc (Fit.step hfit (Nat.le_trans hk2.1 hgr.size) (fun y hy1 hy2 hy3 => hk1.2 y hy2 (by omega) (fun e => hy3 y e.symm rfl)) (fun b hb => ?_)) (hes ▸ hx1) (hes ▸ hx2) ?_, by rw [flat_snoc]; exact hown1, blk_grown hn2 hgr (fun e => hrow e.symm), KeepBut.trans hkp hk1 ?_⟩
  · obtain rfl : g = b := by simpa [Value.ownBlock] using hb
    exact hat
  · obtain ⟨lo, hi, h1, h2, h3, h4, h5⟩ := hx3
    refine ⟨lo, hi, h1, Nat.le_trans h2 hgr.size, fun b hb => ?_, fun W3 h3' => ?_⟩
    · obtain rfl : g = b := by simpa [Value.ownBlock] using hb
      exact h4
    · rw [hes]
      refine h5 W3 fun y hy1 hy2 => ?_
      rw [h3' y hy1 hy2]
      refine hgr.block y (Nat.lt_of_lt_of_le hy2 h2) fun e => ?_
      rcases h3 y e.symm with h | h <;> omega
  · cases hb : out.ownBlock with
    | none => exact .inl rfl
    | some b => exact .inr ⟨b, rfl, (own_block_lt hown b hb).1⟩

set_option maxHeartbeats 8000000 in
set_option maxRecDepth 100000 in
theorem groups_any (w0 : World) (nr b m c : Nat) (l : Value) (q : Nat → Nat) (κ ty tok : Nat → Int) (P : Nat → Value → World → Prop) (hnr : nr < w0.heap.size) (hb : b ≠ nr) (hm : m ≤ 100)
    (hr : ∀ i, i < m → w0.cell? ⟨b, i, none⟩ = some (.pointer (some ⟨q i, 0, none⟩))) (hE : ∀ i, i < m → El w0 nr l (q i) (κ i) (κ (i + 1)) (ty i) (tok i) (P i)) :
    Gives w0 nr l (.slice (some ⟨b, 0, none⟩) m c) (κ 0) (κ m) (fun v W => ∃ es : List En, es.length = m ∧ (∀ i, (h : i < es.length) → (es[i]).ty = ty i ∧ (es[i]).tok = tok i ∧ P i (es[i]).kids W) ∧ RowE nr W v es) := by
  intro w hk hn
  obtain ⟨i0, hi, hz0, hz1, hz2⟩ := info_parts info82
  have hrw : ∀ i, i < m → w.cell? ⟨b, i, none⟩ = some (.pointer (some ⟨q i, 0, none⟩)) := fun i hi => keep_cell hk (hr i hi) hb
  have hsz : nr < w.heap.size := Nat.lt_of_lt_of_le hnr hk.1
  have HR := Aside0.mk hrw
  have HE := Aside0.mk hE
  have HK := Aside0.mk hk
  have HN := Aside0.mk hn
  clear hr hE hk hn hrw
  go_enter Tryd.func50, Tryd.ntmps50
  go_wp2_with fail
  go_loopw [7, 13] (fun out si wr => ∃ (j : Nat) (es : List En), j ≤ m ∧ si = .int .i64 j ∧ es.length = j ∧ Fit ty tok P w.heap.size out wr es ∧ wr.ownsRow w.heap.size 82 4 out j (flat es) ∧ Near wr nr (κ j) ∧ KeepBut w wr nr none ∧ Below 0 w wr) (fun _ si _ => m - (intOf si).toNat)
  case atStart => exact ⟨0, [], Nat.zero_le _, rfl, rfl, fun i h => absurd h (Nat.not_lt_zero _), ⟨rfl, .inl ⟨rfl, rfl⟩⟩, HN.out, KeepBut.refl _ _ _, Below.refl _ _⟩
  case round =>
    obtain ⟨j, es, hj, rfl, hes, hfit, hown, hnear, hkeep, hseen⟩ := hrel
    have HSN := Aside0.mk hseen
    clear hseen
    have HFIT := Aside0.mk hfit
    have HOWN := Aside0.mk hown
    have HNR := Aside0.mk hnear
    have HKP := Aside0.mk hkeep
    have HES := Aside0.mk hes
    clear hfit hown hnear hkeep hes
    by_cases hlt : j < m
    · have hx := keep_cell HKP.out (HR.out j hlt) hb
      have z0 := near_cell HNR.out
      have zf := near_free HNR.out
      have hel := HE.out j hlt
      cases hel with
      | leaf t hq hl hidx h1 h2 h3 hk hP =>
        have hl' := HKP.out.blk (HK.out.blk hl hq (by simp)) hq (by simp)
        have y0 := fun o => blk_cell (blk_alloc hl' o) 0
        have y1 := fun o => blk_cell (blk_alloc hl' o) 1
        have y2 := fun o => blk_cell (blk_alloc hl' o) 2
        have y0' := blk_cell hl' 0
        have s2 := fun v o => blk_cell (blk_alloc (blk_far hl' (p := ⟨nr, 0, none⟩) hq v) o) 2
        have z1 := fun o => blk_cell (blk_alloc HNR.out o) 0
        have zf1 := fun o => blk_frozen (blk_alloc HNR.out o) 0
        simp only [List.getElem?_toArray, List.getElem?_cons_succ, List.getElem?_cons_zero] at y0 y1 y2 y0' z1 s2
        have lq := blk_lt hl'
        have lnr := blk_lt HNR.out
        have nq1 : ¬ q j = nr := hq
        have nq2 : ¬ nr = q j := fun h => hq h.symm
        have k0 := hk.1
        have k1 := hk.2
        have HKA : Aside0 (∀ X, KeepBut w0 (wr.alloc X) nr none) := ⟨fun X => keep_alloc (HK.out.trans HKP.out (.inl rfl)) X⟩
        have HQ := Aside0.mk hidx
        have HH := Aside0.mk (And.intro h1 (And.intro h2 h3))
        have HP := Aside0.mk hP
        have HL := Aside0.mk hl'
        clear hidx h1 h2 h3 hP hk hl hl' hq
        go_wp2_with fail
        go_region_held3 (fun w' => w'.cell? ⟨q j, 0, none⟩ = some (.pointer (some ⟨t, 0, none⟩)) ∧ w'.cell? ⟨nr, 0, none⟩ = some (.int .i64 (κ j))) (go_keep)
          (first | ((go_at_call 79; refine (HQ.out _ (by first | exact HKA.out _ | exact keep_drew (HKA.out _))).mono ?_; rintro e w' ⟨rfl, rfl⟩)))
        go_wp2_with (at_builtin; refine wpList_append_lies _ rfl (.tmp 84) (.tmp 86) 41 rfl w.heap.size 82 i0 _ 4 48 Tryd.underlying41 hi hz0 hz1 hz2 (by rfl) (by omega) _ j (flat es) rfl (own_after HOWN.out hsz _ _ _) ⟨wr.heap.size + 1, 0, none⟩ 1 1 (En.cells ⟨0, κ j, .slice none 0 0⟩) rfl rfl (news_after wr nr _ _ _) (cells_one _ (fun _ => rfl)) (by omega) (by unfold maxLen; omega) (by omega) (by have := HKP.out.1; simp; omega) (wr.heap.size + 1 + 1) (by simp) ?_; intro g cap w1 hown1 hgrow1 hat hlt1)
        have HO1 := Aside0.mk hown1
        have HG1 := Aside0.mk hgrow1
        have HAT := Aside0.mk hat
        clear hown1 hgrow1 hat
        go_wp2_with fail
        go_roundw
        case rel =>
          obtain ⟨e1, e2, e3⟩ := HH.out
          have hr := round_rel (x := ⟨0, κ j, .slice none 0 0⟩) (κ := κ) HES.out HFIT.out HOWN.out HKP.out hsz (keep_drew (keep_alloc (keep_alloc ((KeepBut.refl wr nr none).set_ 0 (.int .i64 (κ j + 1))) _) _))
            (by rw [e1]; exact blk_drew (blk_alloc (blk_alloc (blk_set HNR.out 0 (.int .i64 (κ j + 1))) _) _)) HO1.out HG1.out (HAT.out.imp id fun h => by omega) e2.symm e3.symm
            ⟨w.heap.size, w.heap.size, Nat.le_refl _, by have := HKP.out.1; simp; omega, fun b hb => .inr (own_block_lt HOWN.out b hb).1, .inr (own_block_lt HO1.out g rfl).1, fun W2 _ => HP.out W2⟩
          exact ⟨j + 1, _, by omega, by go_num, hr.1, hr.2.1, hr.2.2.1, hr.2.2.2.1, hr.2.2.2.2, ((((HSN.out.setCell (Nat.zero_le _) _).alloc (Nat.zero_le _) _).alloc (Nat.zero_le _) _).drew).grown HG1.out (Nat.zero_le _) (fun _ _ => Nat.zero_le _)⟩
        case measure => simp [intOf]; omega
      | grp g b' n' c' hq hg h hs h3 =>
        have hl' := HKP.out.blk (HK.out.blk h.1 hq (by simp)) hq (by simp)
        have hg' := HKP.out.blk (HK.out.blk h.2 hg (by simp)) hg (by simp)
        have y0 := fun o => blk_cell (blk_alloc hl' o) 0
        have y1 := fun o => blk_cell (blk_alloc hl' o) 1
        have g0 := fun o => blk_cell (blk_alloc hg' o) 0
        have g1 := fun o => blk_cell (blk_alloc hg' o) 1
        simp only [List.getElem?_toArray, List.getElem?_cons_succ, List.getElem?_cons_zero] at y0 y1 g0 g1
        have lq := blk_lt hl'
        have lnr := blk_lt HNR.out
        have HKA : Aside0 (∀ X, KeepBut w0 (wr.alloc X) nr none) := ⟨fun X => keep_alloc (HK.out.trans HKP.out (.inl rfl)) X⟩
        have HNA : Aside0 (∀ X, Near (wr.alloc X) nr (κ j)) := ⟨fun X => blk_alloc HNR.out X⟩
        have HS := Aside0.mk hs
        have H3 := Aside0.mk h3
        have HL := Aside0.mk hl'
        have HQ := Aside0.mk hq
        clear hs h3 hl' hg' h hg hq
        go_wp2_with fail
        refine (HS.out _ (HKA.out _) (HNA.out _)).mono ?_
        rintro e w2 ⟨A, nv, cv, rfl, hseal, hnear2, hkeep2, hseen2⟩
        have HSE2 := Aside0.mk hseen2
        clear hseen2
        have hx := hkeep2.blk (blk_new wr (.cells #[.int .i64 (ty j), .int .i64 (-1), .int .i64 (-1), .slice none 0 0] 82)) (by omega) (by simp)
        have hq2 := hkeep2.blk (blk_alloc HL.out _) HQ.out (by simp)
        have x0 := blk_cell hx 0
        have x1 := blk_cell hx 1
        have x2 := blk_cell hx 2
        have x3 := blk_cell hx 3
        have xf := blk_frozen hx 3
        have q2 := fun u => blk_cell (blk_far hq2 (p := ⟨wr.heap.size, 3, none⟩) (by show q j ≠ wr.heap.size; omega) u) 2
        simp only [List.getElem?_toArray, List.getElem?_cons_succ, List.getElem?_cons_zero] at x0 x1 x2 x3 q2
        have nq1 : ¬ q j = wr.heap.size := by omega
        have nq2 : ¬ wr.heap.size = q j := by omega
        have HSE := Aside0.mk hseal
        have HN2 := Aside0.mk hnear2
        have HK2 := Aside0.mk hkeep2
        clear hseal hnear2 hkeep2 hx hq2
        have hsl := HK2.out.1
        rw [size_alloc] at hsl
        go_wp2_with (at_builtin; refine wpList_append_lies _ rfl (.tmp 84) (.tmp 86) 41 rfl w.heap.size 82 i0 _ 4 48 Tryd.underlying41 hi hz0 hz1 hz2 (by rfl) (by omega) _ j (flat es) rfl (own_after2 HOWN.out hsz HK2.out _ _) ⟨w2.heap.size, 0, none⟩ 1 1 (En.cells ⟨ty j, -1, .slice A nv cv⟩) rfl rfl (news_after2 w2 _ _ _) (cells_one _ (fun _ => rfl)) (by omega) (by unfold maxLen; omega) (by omega) (by have := HKP.out.1; simp; omega) (w2.heap.size + 1) (by simp) ?_; intro g' cap w1 hown1 hgrow1 hat hlt1)
        have HO1 := Aside0.mk hown1
        have HG1 := Aside0.mk hgrow1
        have HAT := Aside0.mk hat
        clear hown1 hgrow1 hat
        go_wp2_with fail
        go_roundw
        case rel =>
          have hr := round_rel (x := ⟨ty j, -1, .slice A nv cv⟩) (κ := κ) HES.out HFIT.out HOWN.out HKP.out hsz (keep_alloc (keep_far ((keep_alloc (KeepBut.refl wr nr none) _).trans HK2.out (.inl rfl)) (Nat.le_refl _) _) _)
            (blk_alloc (blk_far HN2.out (by show nr ≠ wr.heap.size; omega) _) _) HO1.out HG1.out (HAT.out.imp id fun h => by omega) rfl H3.out.symm
            ⟨wr.heap.size + 1, w2.heap.size, by have := HKP.out.1; omega, by simp, fun b hb => .inl (by have := (own_block_lt HOWN.out b hb).2; omega), HAT.out.elim (fun h => .inl (by have := (own_block_lt HOWN.out _ h).2; omega)) (fun h => .inr (by omega)), fun W3 h3 => HSE.out W3 fun x hx1 hx2 => by
              rw [size_alloc] at hx1
              rw [h3 x hx1 hx2, Below.heap_alloc _ _ x (by simp; exact hx2), Below.heap_setCell w2 _ _ x (by show x ≠ wr.heap.size; omega)]⟩
          exact ⟨j + 1, _, by omega, by go_num, hr.1, hr.2.1, hr.2.2.1, hr.2.2.2.1, hr.2.2.2.2, (((((HSN.out.alloc (Nat.zero_le _) _).trans HSE2.out).setCell (Nat.zero_le _) _).alloc (Nat.zero_le _) _)).grown HG1.out (Nat.zero_le _) (fun _ _ => Nat.zero_le _)⟩
        case measure => simp [intOf]; omega
    · obtain rfl : j = m := by omega
      obtain ⟨A, nn, cc, rfl⟩ := own_form HOWN.out
      go_wp2
      go_ret
      refine ⟨A, nn, cc, rfl, fun W2 h2 => ⟨es, HES.out, fun i hi => ?_, ⟨w.heap.size, hsz, by rw [HES.out]; exact own_same HOWN.out h2⟩⟩, HNR.out, HKP.out, HSN.out⟩
      obtain ⟨a1, a2, lo, hh, hlo, hhi, _, hse⟩ := HFIT.out i hi
      exact ⟨a1, a2, hse W2 fun x hx1 hx2 => h2 x (Nat.le_trans hlo hx1) (Nat.lt_of_lt_of_le hx2 hhi)⟩
end Go.Proofs.YtmildhkegpmacaaDoor.GroupList
