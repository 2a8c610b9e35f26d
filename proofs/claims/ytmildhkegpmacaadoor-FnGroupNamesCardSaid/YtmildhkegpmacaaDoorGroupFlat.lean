/- FnGroupNames: what the law asks of the groups: Grouped, trCounted, trPaired. -/
import Derived.Test.YtmildhkegpmacaaDoorGroupList
import Derived.Laws.AppendOwn
import Derived.Laws.AppendOwnNone
import Derived.Deep.AppendLies
namespace Go.Proofs.YtmildhkegpmacaaDoor.GroupFlat
open Go.RowKit Go.Proofs.YtmildhkegpmacaaDoorW.PrintWords Go.Proofs.YtmildhkegpmacaaDoor.GroupBase Go.Proofs.YtmildhkegpmacaaDoor.GroupPass Go.Proofs.YtmildhkegpmacaaDoor.GroupList Go.Proofs.YtmildhkegpmacaaDoor.GroupAlias
set_option linter.unusedVariables false
set_option linter.unusedSimpArgs false

theorem info3 : (Tryd.prog.info? 3).map (fun i => (i.zero, i.size, i.bytes)) = some (some (.int .i64 0), 1, 8) := by kernel_rfl

def ints (L : List Int) : List Value := L.map (Value.int .i64)
def Flats (L : List Int) (W : World) (e : Ending) (W' : World) : Prop := ∃ v', e = .returned v' ∧ W'.ownsRow W.heap.size 3 1 v' L.length (ints L) ∧ (L = [] → v' = .slice none 0 0) ∧ Below W.heap.size W W'
/-- The tokens of a list of groups, in their order. -/
def Flat (w : World) (v : Value) (L : List Int) : Prop := ∀ W, Below w.heap.size w W → Calls Tryd.prog 26 #[v] W (Flats L W)
theorem Flat.below {w w1 : World} {v : Value} {L : List Int} (h : Flat w v L) (hb : Below w.heap.size w w1) : Flat w1 v L := fun W hW => h W (hb.trans (hW.mono hb.size))

/-- A list of numbers from 0 on is counted. -/
def Counts (w : World) (e : Ending) (w' : World) : Prop := e = .returned (.bool true) ∧ w = w'
set_option maxHeartbeats 1000000 in
set_option maxRecDepth 100000 in
theorem counted_any (w : World) (base g n cap : Nat) (hn : n ≤ 100) (ho : w.ownsRow base 3 1 (.slice (some ⟨g, 0, none⟩) n cap) n (ints ((List.range n).map fun (i : Nat) => Int.ofNat i))) :
    Calls Tryd.prog 27 #[.slice (some ⟨g, 0, none⟩) n cap, .int .i64 n] w (Counts w) := by
  have hc : ∀ k, k < n → w.cell? ⟨g, k, none⟩ = some (.int .i64 k) := fun k hk => by
    have := ho.cells rfl k (.int .i64 k) (by simp [ints, hk])
    rwa [show ((⟨g, 0, none⟩ : Addr).add k) = ⟨g, k, none⟩ by unfold Addr.add; split <;> simp_all] at this
  have HC := Aside0.mk hc
  clear hc ho
  go_enter Tryd.func27, Tryd.ntmps27
  go_wp2_with fail
  go_loop [9] (fun si => ∃ k : Nat, k ≤ n ∧ si = .int .i64 k) (fun si => n - (intOf si).toNat)
  case atStart => exact ⟨0, Nat.zero_le _, rfl⟩
  case round =>
    obtain ⟨k, hk, rfl⟩ := hrel
    by_cases hlt : k < n
    · have hx := HC.out k hlt
      go_wp2
      go_round
      case rel => exact ⟨k + 1, by omega, by go_num⟩
      case measure => simp [intOf]; omega
    · obtain rfl : k = n := by omega
      go_wp2
      go_ret
      exact ⟨rfl, rfl⟩

/-- The cells of a group in a row. -/
def EnAt (w : World) (g i : Nat) (x : En) : Prop := w.cell? ⟨g, i * 4, none⟩ = some (.int .i64 x.ty) ∧ w.cell? ⟨g, i * 4 + 1, none⟩ = some (.int .i64 x.tok) ∧ w.cell? ⟨g, i * 4 + 2, none⟩ = some (.int .i64 (-1)) ∧ w.cell? ⟨g, i * 4 + 3, none⟩ = some x.kids
theorem EnAt.below {w w1 : World} {g i : Nat} {x : En} (h : EnAt w g i x) (hb : Below w.heap.size w w1) : EnAt w1 g i x :=
  ⟨pw_cell_below hb h.1, pw_cell_below hb h.2.1, pw_cell_below hb h.2.2.1, pw_cell_below hb h.2.2.2⟩

/-- A leaf, or a group whose kids are known. -/
inductive FlatOf (w : World) (x : En) (L : List Int) : Prop
  | leaf (k : Nat) (h1 : x.tok = k) (h2 : x.kids = .slice none 0 0) (h3 : L = [(k : Int)])
  | grp (A : Addr) (n c : Nat) (h1 : x.tok = -1) (h2 : x.kids = .slice (some A) n c) (h3 : Flat w x.kids L) (h4 : L ≠ []) (h5 : L.length ≤ 10)

set_option maxHeartbeats 1000000 in
set_option maxRecDepth 100000 in
theorem flat_nil (w : World) : Flat w (.slice none 0 0) [] := by
  intro W hW
  go_enter Tryd.func26, Tryd.ntmps26
  go_wp2_with fail
  go_loopw [3, 8] (fun out si wr => out = .slice none 0 0 ∧ si = .int .i64 0 ∧ wr = W) (fun _ _ _ => 0)
  case atStart => exact ⟨rfl, rfl, rfl⟩
  case round =>
    obtain ⟨rfl, rfl, rfl⟩ := hrel
    go_wp2
    go_ret
    exact ⟨_, rfl, ⟨rfl, .inl ⟨rfl, rfl⟩⟩, fun _ => rfl, Below.refl _ _⟩

def take (Ls : Nat → List Int) (j : Nat) : List Int := (List.range j).flatMap Ls
theorem take_succ (Ls : Nat → List Int) (j : Nat) : take Ls (j + 1) = take Ls j ++ Ls j := by simp [take, List.range_succ]
theorem ints_app (a b : List Int) : ints (a ++ b) = ints a ++ ints b := by simp [ints]
theorem ints_len (a : List Int) : (ints a).length = a.length := by simp [ints]

theorem kids_cell {wr w1 : World} {a b c d : Value} {Y : Obj} {row : Option Nat} (h : ((wr.alloc (.cells #[a, b, c, d] 82)).alloc Y).grownBy w1 row) (hr : some wr.heap.size ≠ row) : w1.cell? ⟨wr.heap.size, 3, none⟩ = some d := by
  rw [h.cell_far ⟨wr.heap.size, 3, none⟩ (by simp; omega) hr, blk_cell (blk_alloc (blk_new wr (.cells #[a, b, c, d] 82)) _) 3]
  rfl

set_option maxHeartbeats 4000000 in
set_option maxRecDepth 100000 in
theorem flat_row (w0 : World) (g m c : Nat) (es : List En) (Ls : Nat → List Int) (hm : es.length = m) (h3 : m ≤ 3) (hr : ∀ i, (h : i < es.length) → EnAt w0 g i es[i]) (hE : ∀ i, (h : i < es.length) → FlatOf w0 es[i] (Ls i)) :
    Flat w0 (.slice (some ⟨g, 0, none⟩) m c) (take Ls m) := by
  intro w hw
  obtain ⟨i0, hi, hz0, hz1, hz2⟩ := info_parts info3
  have HR := Aside0.mk hr
  have HE := Aside0.mk hE
  have HB := Aside0.mk hw
  have HM := Aside0.mk hm
  clear hr hE hw hm
  go_enter Tryd.func26, Tryd.ntmps26
  go_wp2_with fail
  go_loopw [3, 8] (fun out si wr => ∃ j : Nat, j ≤ m ∧ si = .int .i64 j ∧ wr.ownsRow w.heap.size 3 1 out (take Ls j).length (ints (take Ls j)) ∧ Below w.heap.size w wr ∧ (take Ls j).length ≤ 10 * j ∧ (take Ls j = [] → out = .slice none 0 0)) (fun _ si _ => m - (intOf si).toNat)
  case atStart => exact ⟨0, Nat.zero_le _, rfl, ⟨rfl, .inl ⟨rfl, rfl⟩⟩, Below.refl _ _, Nat.zero_le _, fun _ => rfl⟩
  case round =>
    obtain ⟨j, hj, rfl, hown, hbel, hlen, hnil⟩ := hrel
    have HOWN := Aside0.mk hown
    have HBL := Aside0.mk hbel
    have HLN := Aside0.mk hlen
    have HNIL := Aside0.mk hnil
    clear hown hbel hlen hnil
    by_cases hlt : j < m
    · have hx := (HR.out j (by rw [HM.out]; exact hlt)).below (HB.out.trans (HBL.out.mono HB.out.size))
      have hf := HE.out j (by rw [HM.out]; exact hlt)
      generalize hxe : es[j]'(by rw [HM.out]; exact hlt) = x at hx hf
      clear hxe
      obtain ⟨x0, x1, x2, x3⟩ := hx
      cases hf with
      | leaf k e1 e2 e3 =>
        rw [e1] at x1
        rw [e2] at x3
        go_wp2_with (at_builtin; refine wpList_append_lies _ rfl (.tmp 15) (.tmp 18) 48 rfl w.heap.size 3 i0 _ 1 8 Tryd.underlying48 hi hz0 hz1 hz2 (by rfl) (by omega) _ (take Ls j).length (ints (take Ls j)) rfl ((HOWN.out.alloc _).alloc _) ⟨wr.heap.size + 1, 0, none⟩ 1 1 [.int .i64 k] rfl rfl (fun j u h => World.news_of_block (blk_new' _ _ _ (size_alloc _ _)) j u (by simpa using h)) (fun u hu => by simp at hu; subst hu; rfl) (by omega) (by have := HLN.out; unfold maxLen; omega) (by have := HLN.out; omega) (by have := HBL.out.size; simp; omega) (wr.heap.size + 1 + 1) (by simp) ?_; intro g1 cap1 w1 hown1 hgrow1 hat hlt1; have z3 := kids_cell hgrow1 (fun e => by have := (own_block_lt HOWN.out wr.heap.size e.symm).2; omega))
        have HO1 := Aside0.mk hown1
        have HG1 := Aside0.mk hgrow1
        have HAT := Aside0.mk hat
        have HT := Aside0.mk e3
        clear hown1 hgrow1 hat e3
        go_wp2_with fail
        refine (flat_nil w1 w1 (Below.refl _ _)).mono ?_
        rintro e w2 ⟨v2, rfl, ho2, hn2, hb2⟩
        obtain rfl := hn2 rfl
        have HB2 := Aside0.mk hb2
        clear ho2 hn2 hb2
        go_wp2_with (at_builtin; refine wpList_append_own_none rfl (.tmp 20) (.tmp 23) 48 rfl w.heap.size 3 i0 1 Tryd.underlying48 hi _ _ _ rfl (own_same HO1.out fun y h1 h2 => HB2.out.block y h2) rfl ?_)
        go_roundw
        case rel =>
          refine ⟨j + 1, by omega, by go_num, ?_, ?_, ?_, ?_⟩
          · rw [take_succ, HT.out, ints_app, List.length_append]
            exact own_same HO1.out fun y h1 h2 => HB2.out.block y h2
          · have := HBL.out.size
            refine (((HBL.out.alloc (by omega) _).alloc (by simp; omega) _).grown HG1.out (by simp; omega) fun q hq => (own_block_lt HOWN.out q hq).1).trans (HB2.out.mono ?_)
            have := HG1.out.size; simp at this; omega
          · rw [take_succ, HT.out, List.length_append]; have := HLN.out; simp; omega
          · intro h; rw [take_succ, HT.out] at h; simp at h
        case measure => simp [intOf]; omega
      | grp A n cc e1 e2 e3 e4 e5 =>
        rw [e1] at x1
        rw [e2] at x3 e3
        have hL := e5
        have HE3 := Aside0.mk (e3 (wr.alloc (.cells #[.int .i64 x.ty, .int .i64 (-1), .int .i64 (-1), .slice (some A) n cc] 82)) ((HB.out.trans (HBL.out.mono HB.out.size)).alloc (by have := HB.out.size; have := HBL.out.size; omega) _))
        have HNE := Aside0.mk e4
        clear e3 e4 
        go_wp2_with fail
        refine HE3.out.mono ?_
        rintro e w2 ⟨v2, rfl, ho2, hn2, hb2⟩
        obtain ⟨g2, c2, rfl⟩ : ∃ g2 c2, v2 = .slice (some ⟨g2, 0, none⟩) (Ls j).length c2 := by
          rcases ho2.2 with ⟨_, h⟩ | ⟨g', cap, cur, h, _⟩
          · exact absurd (List.eq_nil_of_length_eq_zero h) HNE.out
          · exact ⟨g', cap, h⟩
        have HO2 := Aside0.mk ho2
        have HB2 := Aside0.mk hb2
        have hpos : 0 < (Ls j).length := List.length_pos_iff.mpr HNE.out
        clear ho2 hn2 hb2
        go_wp2_with (at_builtin; refine wpList_append_lies _ rfl (.tmp 20) (.tmp 23) 48 rfl w.heap.size 3 i0 _ 1 8 Tryd.underlying48 hi hz0 hz1 hz2 (by rfl) (by omega) _ (take Ls j).length (ints (take Ls j)) rfl (own_same (HOWN.out.alloc (.cells #[.int .i64 x.ty, .int .i64 (-1), .int .i64 (-1), .slice (some A) n cc] 82)) fun y h1 h2 => HB2.out.block y h2) ⟨g2, 0, none⟩ (Ls j).length c2 (ints (Ls j)) rfl (by rw [ints_len, Nat.mul_one]) (HO2.out.cells rfl) (fun u hu => by simp only [ints, List.mem_map] at hu; obtain ⟨_, _, rfl⟩ := hu; rfl) hpos (by have := HLN.out; unfold maxLen; omega) (by have := HLN.out; omega) (by have := HBL.out.size; have := HB2.out.size; simp at this; omega) w2.heap.size rfl ?_; intro g1 cap1 w1 hown1 hgrow1 hat hlt1)
        have HO1 := Aside0.mk hown1
        have HG1 := Aside0.mk hgrow1
        clear hown1 hgrow1 hat
        go_wp2_with fail
        go_roundw
        case rel =>
          refine ⟨j + 1, by omega, by go_num, ?_, ?_, ?_, ?_⟩
          · rw [take_succ, ints_app, List.length_append]
            exact HO1.out
          · have := HBL.out.size
            refine ((HBL.out.alloc (by omega) _).trans (HB2.out.mono (by simp; omega))).grown HG1.out (by have := HB2.out.size; simp at this; omega) fun q hq => (own_block_lt HOWN.out q hq).1
          · rw [take_succ, List.length_append]; have := HLN.out; omega
          · intro h; rw [take_succ] at h; exact absurd (List.append_eq_nil_iff.mp h).2 HNE.out
        case measure => simp [intOf]; omega
    · obtain rfl : j = m := by omega
      go_wp2
      go_ret
      refine ⟨_, rfl, HOWN.out, fun h => ?_, HBL.out⟩
      exact HNIL.out h

/-- A row of groups as data, read. -/
theorem row_at {W : World} {nr : Nat} {v : Value} {es : List En} (h : RowE nr W v es) (h0 : 0 < es.length) : ∃ g c, v = .slice (some ⟨g, 0, none⟩) es.length c ∧ ∀ i, (hi : i < es.length) → EnAt W g i es[i] := by
  obtain ⟨base, _, ho⟩ := h
  obtain ⟨g, c, rfl⟩ : ∃ g c, v = .slice (some ⟨g, 0, none⟩) es.length c := by
    rcases ho.2 with ⟨_, h⟩ | ⟨g', cap, cur, h, _⟩
    · omega
    · exact ⟨g', cap, h⟩
  have hadd : ∀ k, (⟨g, 0, none⟩ : Addr).add k = ⟨g, k, none⟩ := fun k => by unfold Addr.add; split <;> simp_all
  have hc := ho.cells rfl
  have hflat : ∀ (es : List En) (i j : Nat) (hi : i < es.length), j < 4 → (flat es)[i * 4 + j]? = (es[i]).cells[j]? := by
    intro es
    induction es with
    | nil => intro i j hi; exact absurd hi (Nat.not_lt_zero _)
    | cons x t ih =>
      intro i j hi hj
      have hx : (En.cells x).length = 4 := rfl
      simp only [flat, List.flatMap_cons]
      cases i with
      | zero => rw [List.getElem?_append_left (by rw [hx]; omega)]; simp
      | succ i =>
        rw [List.getElem?_append_right (by rw [hx]; omega), hx, show (i + 1) * 4 + j - 4 = i * 4 + j by omega]
        exact ih i j (by simpa using hi) hj
  refine ⟨g, c, rfl, fun i hi => ?_⟩
  have hz := fun j (hj : j < 4) u (hu : (es[i]).cells[j]? = some u) => hc (i * 4 + j) u ((hflat es i j hi hj).trans hu)
  simp only [hadd] at hz
  exact ⟨hz 0 (by omega) _ rfl, hz 1 (by omega) _ rfl, hz 2 (by omega) _ rfl, hz 3 (by omega) _ rfl⟩

def Pairs (W : World) (e : Ending) (W' : World) : Prop := e = .returned (.bool true) ∧ Below W.heap.size W W'
/-- Two tokens stand one behind the other somewhere in a list of groups. -/
def Paired (w : World) (v : Value) : Prop := ∀ W, Below w.heap.size w W → Calls Tryd.prog 28 #[v, .int .i64 0, .int .i64 1] W (Pairs W)
theorem Paired.below {w w1 : World} {v : Value} (h : Paired w v) (hb : Below w.heap.size w w1) : Paired w1 v := fun W hW => h W (hb.trans (hW.mono hb.size))

set_option maxHeartbeats 2000000 in
set_option maxRecDepth 100000 in
theorem pair_here (w : World) (g m cap gu mu cu : Nat) (x y z : En) (hm : 0 < m) (hx : EnAt w g 0 x) (hk : x.kids = .slice (some ⟨gu, 0, none⟩) mu cu) (hmu : 1 < mu) (hy : EnAt w gu 0 y) (hy0 : y.tok = 0) (hz : EnAt w gu 1 z) (hz1 : z.tok = 1) :
    Paired w (.slice (some ⟨g, 0, none⟩) m cap) := by
  intro W hW
  obtain ⟨a0, a1, a2, a3⟩ := hx.below hW
  have b0 := (hy.below hW).2.1
  have b1 := (hz.below hW).2.1
  rw [hk] at a3
  rw [hy0] at b0
  rw [hz1] at b1
  have hq : (0 : Int) < (m : Int) := by omega
  have hq1 : (1 : Int) < (mu : Int) := by omega
  have lu := World.block_lt_of_cell? W _ b0
  have c0 := fun o => (Below.refl W.heap.size W).alloc (Nat.le_refl _) o
  have b0' := fun o => pw_cell_below (c0 o) b0
  have b1' := fun o => pw_cell_below (c0 o) b1
  simp only [Nat.zero_mul, Nat.one_mul, Nat.zero_add] at a0 a1 a2 a3 b0 b1 b0' b1'
  clear hx hy hz hW hk hy0 hz1 c0
  go_enter Tryd.func28, Tryd.ntmps28
  go_wp2_with fail
  go_loopw [11] (fun si wr => si = .int .i64 0 ∧ wr = W) (fun _ _ => 0)
  case atStart => exact ⟨rfl, rfl⟩
  case round =>
    obtain ⟨rfl, rfl⟩ := hrel
    go_wp2_with fail
    go_ret
    exact ⟨rfl, (Below.refl _ _).alloc (Nat.le_refl _) _⟩

set_option maxHeartbeats 2000000 in
set_option maxRecDepth 100000 in
theorem pair_down (w : World) (g m cap gu mu cu : Nat) (x y : En) (hm : 0 < m) (hx : EnAt w g 0 x) (hk : x.kids = .slice (some ⟨gu, 0, none⟩) mu cu) (hmu : mu = 1 ∨ (1 < mu ∧ EnAt w gu 0 y ∧ y.tok = -1)) (hp : Paired w x.kids) :
    Paired w (.slice (some ⟨g, 0, none⟩) m cap) := by
  intro W hW
  obtain ⟨a0, a1, a2, a3⟩ := hx.below hW
  have hp' := hp.below hW
  rw [hk] at a3 hp'
  have hq : (0 : Int) < (m : Int) := by omega
  have c0 := fun o => (Below.refl W.heap.size W).alloc (Nat.le_refl _) o
  have C := Aside0.mk fun o => hp' (W.alloc o) (c0 o)
  rcases hmu with rfl | ⟨hmu, hy, hy0⟩
  · simp only [Nat.zero_mul, Nat.one_mul, Nat.zero_add] at a0 a1 a2 a3
    clear hx hW hk hp hp' c0
    go_enter Tryd.func28, Tryd.ntmps28
    go_wp2_with fail
    go_loopw [11] (fun si wr => si = .int .i64 0 ∧ wr = W) (fun _ _ => 0)
    case atStart => exact ⟨rfl, rfl⟩
    case round =>
      obtain ⟨rfl, rfl⟩ := hrel
      go_wp2_with fail
      refine (C.out _).mono ?_
      rintro e w2 ⟨rfl, hb⟩
      have HB := Aside0.mk hb
      clear hb
      go_wp2_with fail
      go_ret
      exact ⟨rfl, ((Below.refl _ _).alloc (Nat.le_refl _) _).trans (HB.out.mono (by simp))⟩
  · have b0 := (hy.below hW).2.1
    rw [hy0] at b0
    have hq1 : (1 : Int) < (mu : Int) := by omega
    have hq2 : (0 : Int) < (mu : Int) := by omega
    have b0' := fun o => pw_cell_below (c0 o) b0
    simp only [Nat.zero_mul, Nat.one_mul, Nat.zero_add] at a0 a1 a2 a3 b0 b0'
    have lu := World.block_lt_of_cell? W _ b0
    clear hx hy hW hk hp hp' c0 hy0
    go_enter Tryd.func28, Tryd.ntmps28
    go_wp2_with fail
    go_loopw [11] (fun si wr => si = .int .i64 0 ∧ wr = W) (fun _ _ => 0)
    case atStart => exact ⟨rfl, rfl⟩
    case round =>
      obtain ⟨rfl, rfl⟩ := hrel
      go_wp2_with fail
      refine (C.out _).mono ?_
      rintro e w2 ⟨rfl, hb⟩
      have HB := Aside0.mk hb
      clear hb
      go_wp2_with fail
      go_ret
      exact ⟨rfl, ((Below.refl _ _).alloc (Nat.le_refl _) _).trans (HB.out.mono (by simp))⟩

/-- What groups gives for an alias and its name. -/
def AliasOut (nr : Nat) (v : Value) (W : World) : Prop := ∃ x y z u, RowE nr W v [x] ∧ x.tok = -1 ∧ RowE nr W x.kids [y] ∧ y.tok = -1 ∧ RowE nr W y.kids [z, u] ∧ z.tok = 0 ∧ u.tok = 1 ∧ z.kids = .slice none 0 0 ∧ u.kids = .slice none 0 0
/-- What it gives for an anchor, its name and a value. -/
def AnchorOut (nr : Nat) (v : Value) (W : World) : Prop := ∃ x y z u s t, RowE nr W v [x] ∧ x.tok = -1 ∧ RowE nr W x.kids [y] ∧ y.tok = -1 ∧ RowE nr W y.kids [z, u] ∧ z.tok = -1 ∧ u.tok = 2 ∧ u.kids = .slice none 0 0 ∧
  RowE nr W z.kids [s, t] ∧ s.tok = 0 ∧ t.tok = 1 ∧ s.kids = .slice none 0 0 ∧ t.kids = .slice none 0 0

theorem flat_two {w : World} {nr : Nat} {v : Value} {z u : En} {L : List Int} (h : RowE nr w v [z, u]) (b : Nat) (hz : FlatOf w z L) (h1 : u.tok = b) (h3 : u.kids = .slice none 0 0) :
    Flat w v (L ++ [(b : Int)]) := by
  obtain ⟨g, c, rfl, hr⟩ := row_at h (by simp)
  have := flat_row w g 2 c [z, u] (fun i => if i = 0 then L else [(b : Int)]) rfl (by omega) hr (fun i hi => by
    match i, hi with
    | 0, _ => exact hz
    | 1, _ => exact .leaf b h1 h3 rfl)
  simpa [take, List.range_succ] using this
theorem flat_one {w : World} {nr : Nat} {v : Value} {x : En} {L : List Int} (h : RowE nr w v [x]) (hz : FlatOf w x L) : Flat w v L := by
  obtain ⟨g, c, rfl, hr⟩ := row_at h (by simp)
  have := flat_row w g 1 c [x] (fun _ => L) rfl (by omega) hr (fun i hi => by
    match i, hi with
    | 0, _ => exact hz)
  simpa [take, List.range_succ] using this
theorem flat_grp {w : World} {nr : Nat} {x : En} {es : List En} {L : List Int} (h : RowE nr w x.kids es) (h0 : 0 < es.length) (h1 : x.tok = -1) (hf : Flat w x.kids L) (h2 : L ≠ []) (h3 : L.length ≤ 10) : FlatOf w x L := by
  obtain ⟨g, c, e, _⟩ := row_at h h0
  exact .grp _ _ _ h1 e hf h2 h3

theorem alias_flat {nr : Nat} {v : Value} {W : World} (h : AliasOut nr v W) : Flat W v [0, 1] ∧ Paired W v := by
  obtain ⟨x, y, z, u, h1, x1, h2, y1, h3, z1, u1, z2, u2⟩ := h
  constructor
  · exact flat_one h1 (flat_grp h2 (by simp) x1 (flat_one h2 (flat_grp h3 (by simp) y1 (flat_two (L := [0]) h3 1 (.leaf 0 z1 z2 rfl) u1 u2) (by simp) (by simp))) (by simp) (by simp))
  · obtain ⟨g1, c1, rfl, r1⟩ := row_at h1 (by simp)
    obtain ⟨g2, c2, e2, r2⟩ := row_at h2 (by simp)
    obtain ⟨g3, c3, e3, r3⟩ := row_at h3 (by simp)
    have p2 := pair_here W g2 1 c2 g3 2 c3 y z u (by omega) (r2 0 (by simp)) e3 (by omega) (r3 0 (by simp)) z1 (r3 1 (by simp)) u1
    exact pair_down W g1 1 c1 g2 1 c2 x y (by omega) (r1 0 (by simp)) e2 (.inl rfl) (by rw [e2]; exact p2)

theorem anchor_flat {nr : Nat} {v : Value} {W : World} (h : AnchorOut nr v W) : Flat W v [0, 1, 2] ∧ Paired W v := by
  obtain ⟨x, y, z, u, s, t, h1, x1, h2, y1, h3, z1, u1, u2, h4, s1, t1, s2, t2⟩ := h
  constructor
  · have f4 := flat_two (L := [0]) h4 1 (.leaf 0 s1 s2 rfl) t1 t2
    have f3 := flat_two (L := [0, 1]) h3 2 (flat_grp h4 (by simp) z1 f4 (by simp) (by simp)) u1 u2
    exact flat_one h1 (flat_grp h2 (by simp) x1 (flat_one h2 (flat_grp h3 (by simp) y1 f3 (by simp) (by simp))) (by simp) (by simp))
  · obtain ⟨g1, c1, rfl, r1⟩ := row_at h1 (by simp)
    obtain ⟨g2, c2, e2, r2⟩ := row_at h2 (by simp)
    obtain ⟨g3, c3, e3, r3⟩ := row_at h3 (by simp)
    obtain ⟨g4, c4, e4, r4⟩ := row_at h4 (by simp)
    have p3 := pair_here W g3 2 c3 g4 2 c4 z s t (by omega) (r3 0 (by simp)) e4 (by omega) (r4 0 (by simp)) s1 (r4 1 (by simp)) t1
    have p2 := pair_down W g2 1 c2 g3 2 c3 y z (by omega) (r2 0 (by simp)) e3 (.inr ⟨by omega, r3 0 (by simp), z1⟩) (by rw [e3]; exact p3)
    exact pair_down W g1 1 c1 g2 1 c2 x y (by omega) (r1 0 (by simp)) e2 (.inl rfl) (by rw [e2]; exact p2)
end Go.Proofs.YtmildhkegpmacaaDoor.GroupFlat
