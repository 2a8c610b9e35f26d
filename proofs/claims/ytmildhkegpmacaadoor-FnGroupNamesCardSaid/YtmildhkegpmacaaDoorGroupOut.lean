/- FnGroupNames: what groups gives for the two shapes of the law. -/
import Derived.Test.YtmildhkegpmacaaDoorGroupFlat
namespace Go.Proofs.YtmildhkegpmacaaDoor.GroupOut
open Go.RowKit Go.Proofs.YtmildhkegpmacaaDoorW.PrintWords Go.Proofs.YtmildhkegpmacaaDoor.GroupBase Go.Proofs.YtmildhkegpmacaaDoor.GroupPass Go.Proofs.YtmildhkegpmacaaDoor.GroupAlias Go.Proofs.YtmildhkegpmacaaDoor.GroupTok Go.Proofs.YtmildhkegpmacaaDoor.GroupAll Go.Proofs.YtmildhkegpmacaaDoor.GroupList Go.Proofs.YtmildhkegpmacaaDoor.GroupFlat
set_option linter.unusedVariables false
set_option linter.unusedSimpArgs false

/-- A leaf's element. -/
theorem el_leaf {w : World} {nr b n c k t q : Nat} (hb : b ≠ nr) (hq : q ≠ nr) (hl : Leaf w q t) (hk : k < n) (hn : n ≤ 100) (hx : w.cell? ⟨b, k, none⟩ = some (.pointer (some ⟨t, 0, none⟩))) :
    El w nr (.slice (some ⟨b, 0, none⟩) n c) q (k : Int) ((k : Int) + 1) 0 (k : Int) (fun v _ => v = .slice none 0 0) :=
  .leaf t hq hl (fun W hW => index_hit b n c k t W hk (keep_cell hW hx hb)) rfl rfl rfl (by omega) (fun _ => rfl)

def Pts (w : World) (b : Nat) (ps : List Nat) : Prop := ∀ i, (h : i < ps.length) → w.cell? ⟨b, i, none⟩ = some (.pointer (some ⟨ps[i], 0, none⟩))

/-- Two leaves. -/
theorem gives_two {w : World} {nr b n c k q0 q1 t0 t1 bq cq : Nat} (hnr : nr < w.heap.size) (hb : b ≠ nr) (hbq : bq ≠ nr) (hq0 : q0 ≠ nr) (hq1 : q1 ≠ nr) (hl0 : Leaf w q0 t0) (hl1 : Leaf w q1 t1) (hk : k + 1 < n) (hn : n ≤ 100)
    (hx0 : w.cell? ⟨b, k, none⟩ = some (.pointer (some ⟨t0, 0, none⟩))) (hx1 : w.cell? ⟨b, k + 1, none⟩ = some (.pointer (some ⟨t1, 0, none⟩)))
    (c0 : w.cell? ⟨bq, 0, none⟩ = some (.pointer (some ⟨q0, 0, none⟩))) (c1 : w.cell? ⟨bq, 1, none⟩ = some (.pointer (some ⟨q1, 0, none⟩))) :
    Gives w nr (.slice (some ⟨b, 0, none⟩) n c) (.slice (some ⟨bq, 0, none⟩) 2 cq) (k : Int) ((k : Int) + 2) (fun v W => ∃ x y, RowE nr W v [x, y] ∧ x.tok = (k : Int) ∧ y.tok = ((k + 1 : Nat) : Int) ∧ x.kids = .slice none 0 0 ∧ y.kids = .slice none 0 0) := by
  have e0 := el_leaf (c := c) hb hq0 hl0 (by omega) hn hx0
  have e1 := el_leaf (c := c) hb hq1 hl1 hk hn hx1
  have hg := groups_any w nr bq 2 cq (.slice (some ⟨b, 0, none⟩) n c) (fun i => if i = 0 then q0 else q1) (fun i => ((k + i : Nat) : Int)) (fun _ => 0) (fun i => ((k + i : Nat) : Int)) (fun _ v _ => v = .slice none 0 0) hnr hbq (by omega)
    (fun i hi => by
      match i, hi with
      | 0, _ => exact c0
      | 1, _ => exact c1)
    (fun i hi => by
      match i, hi with
      | 0, _ => exact e0
      | 1, _ => exact e1)
  intro W hW hn
  refine (hg W hW hn).mono ?_
  rintro e W' ⟨A, n', c', rfl, hs, hnear, hkb⟩
  refine ⟨A, n', c', rfl, fun W2 h2 => ?_, ?_, hkb⟩
  · obtain ⟨es, hlen, hes, hrow⟩ := hs W2 h2
    match es, hlen with
    | [x, y], _ =>
      have h0 := hes 0 (by simp)
      have h1 := hes 1 (by simp)
      exact ⟨x, y, hrow, h0.2.1, h1.2.1, h0.2.2, h1.2.2⟩
  · have : ((k + 2 : Nat) : Int) = (k : Int) + 2 := by omega
    simpa [this] using hnear

/-- One group. -/
theorem gives_one {w : World} {nr q g b' n' c' bq cq : Nat} {l : Value} {gt k k' : Int} {P : Value → World → Prop} (hnr : nr < w.heap.size) (hbq : bq ≠ nr) (hq : q ≠ nr) (hg : g ≠ nr) (hG : Grp w q g gt b' n' c')
    (c0 : w.cell? ⟨bq, 0, none⟩ = some (.pointer (some ⟨q, 0, none⟩))) (h : Gives w nr l (.slice (some ⟨b', 0, none⟩) n' c') k k' P) :
    Gives w nr l (.slice (some ⟨bq, 0, none⟩) 1 cq) k k' (fun v W => ∃ x, RowE nr W v [x] ∧ x.tok = -1 ∧ P x.kids W) := by
  have hg := groups_any w nr bq 1 cq l (fun _ => q) (fun i => if i = 0 then k else k') (fun _ => gt) (fun _ => -1) (fun _ => P) hnr hbq (by omega)
    (fun i hi => by
      match i, hi with
      | 0, _ => exact c0)
    (fun i hi => by
      match i, hi with
      | 0, _ => exact .grp g b' n' c' hq hg hG h rfl)
  intro W hW hn
  refine (hg W hW hn).mono ?_
  rintro e W' ⟨A, n', c', rfl, hs, hnear, hkb⟩
  refine ⟨A, n', c', rfl, fun W2 h2 => ?_, hnear, hkb⟩
  obtain ⟨es, hlen, hes, hrow⟩ := hs W2 h2
  match es, hlen with
  | [x], _ =>
    have h0 := hes 0 (by simp)
    exact ⟨x, hrow, h0.2.1, h0.2.2⟩

/-- A group and a leaf. -/
theorem gives_then {w : World} {nr b n c k q0 q1 t1 bq cq g b' n' c' : Nat} {gt : Int} {k0 : Int} {P : Value → World → Prop} (hnr : nr < w.heap.size) (hb : b ≠ nr) (hbq : bq ≠ nr) (hq0 : q0 ≠ nr) (hq1 : q1 ≠ nr) (hg : g ≠ nr) (hG : Grp w q0 g gt b' n' c') (hl1 : Leaf w q1 t1) (hk : k < n) (hn : n ≤ 100)
    (hx1 : w.cell? ⟨b, k, none⟩ = some (.pointer (some ⟨t1, 0, none⟩)))
    (c0 : w.cell? ⟨bq, 0, none⟩ = some (.pointer (some ⟨q0, 0, none⟩))) (c1 : w.cell? ⟨bq, 1, none⟩ = some (.pointer (some ⟨q1, 0, none⟩)))
    (h : Gives w nr (.slice (some ⟨b, 0, none⟩) n c) (.slice (some ⟨b', 0, none⟩) n' c') k0 (k : Int) P) :
    Gives w nr (.slice (some ⟨b, 0, none⟩) n c) (.slice (some ⟨bq, 0, none⟩) 2 cq) k0 ((k : Int) + 1) (fun v W => ∃ x y, RowE nr W v [x, y] ∧ x.tok = -1 ∧ P x.kids W ∧ y.tok = (k : Int) ∧ y.kids = .slice none 0 0) := by
  have e1 := el_leaf (c := c) hb hq1 hl1 hk hn hx1
  have hg := groups_any w nr bq 2 cq (.slice (some ⟨b, 0, none⟩) n c) (fun i => if i = 0 then q0 else q1) (fun i => if i = 0 then k0 else if i = 1 then (k : Int) else (k : Int) + 1) (fun i => if i = 0 then gt else 0) (fun i => if i = 0 then -1 else (k : Int)) (fun i => if i = 0 then P else fun v _ => v = .slice none 0 0) hnr hbq (by omega)
    (fun i hi => by
      match i, hi with
      | 0, _ => exact c0
      | 1, _ => exact c1)
    (fun i hi => by
      match i, hi with
      | 0, _ => exact .grp g b' n' c' hq0 hg hG h rfl
      | 1, _ => exact e1)
  intro W hW hn
  refine (hg W hW hn).mono ?_
  rintro e W' ⟨A, n', c', rfl, hs, hnear, hkb⟩
  refine ⟨A, n', c', rfl, fun W2 h2 => ?_, hnear, hkb⟩
  obtain ⟨es, hlen, hes, hrow⟩ := hs W2 h2
  match es, hlen with
  | [x, y], _ =>
    have h0 := hes 0 (by simp)
    have h1 := hes 1 (by simp)
    exact ⟨x, y, hrow, h0.2.1, h0.2.2, h1.2.1, h1.2.2⟩

theorem Gives.imp {w : World} {nr : Nat} {l s : Value} {k k' : Int} {P Q : Value → World → Prop} (h : Gives w nr l s k k' P) (hPQ : ∀ v W, P v W → Q v W) : Gives w nr l s k k' Q := by
  intro W hW hn
  refine (h W hW hn).mono ?_
  rintro e W' ⟨A, n', c', rfl, hs, h2, h3⟩
  exact ⟨A, n', c', rfl, fun W2 h => hPQ _ _ (hs W2 h), h2, h3⟩

theorem alias_gives (w : World) (b c t0 t1 b' pd c' g bb cc pg : Nat) (X : Obj) (hr : RowP w b [t0, t1]) (hd : RowP w b' [pd]) (hG : Grp w pd g 3 bb 1 cc) (hp : w.cell? ⟨bb, 0, none⟩ = some (.pointer (some ⟨pg, 0, none⟩))) (hA : Aliased t0 t1 w pg) :
    Gives (w.alloc X) w.heap.size (.slice (some ⟨b, 0, none⟩) 2 c) (.slice (some ⟨b', 0, none⟩) 1 c') 0 2 (AliasOut w.heap.size) := by
  obtain ⟨q0, q1, ⟨g2, b2, hG2, d0, d1⟩, l0, l1⟩ := hA
  have hB := (Below.refl w.heap.size w).alloc (Nat.le_refl _) X
  have hnr : w.heap.size < (w.alloc X).heap.size := by simp
  have cl := fun {x : Nat} {o : Nat} {v : Value} (h : w.cell? ⟨x, o, none⟩ = some v) => Nat.ne_of_lt (World.block_lt_of_cell? w _ h)
  have r0 := hr 0 (by simp)
  have r1 := hr 1 (by simp)
  have rd := hd 0 (by simp)
  have h2 := gives_two (c := c) (cq := 2) hnr (cl r0) (cl d0) (Nat.ne_of_lt (blk_lt l0)) (Nat.ne_of_lt (blk_lt l1)) (l0.below hB) (l1.below hB) (k := 0) (n := 2) (by omega) (by omega) (pw_cell_below hB r0) (pw_cell_below hB r1) (pw_cell_below hB d0) (pw_cell_below hB d1)
  have h1 := gives_one (cq := cc) hnr (cl hp) (Nat.ne_of_lt (blk_lt hG2.1)) (Nat.ne_of_lt (blk_lt hG2.2)) (hG2.below hB) (pw_cell_below hB hp) h2
  have h0 := gives_one (cq := c') hnr (cl rd) (Nat.ne_of_lt (blk_lt hG.1)) (Nat.ne_of_lt (blk_lt hG.2)) (hG.below hB) (pw_cell_below hB rd) h1
  refine Gives.imp h0 ?_
  rintro v W ⟨x, hx, x1, y, hy, y1, z, u, hz, z1, u1, z2, u2⟩
  exact ⟨x, y, z, u, hx, x1, hy, y1, hz, z1, u1, z2, u2⟩

theorem anchor_gives (w : World) (b c t0 t1 t2 b' pd c' g bb cc pg : Nat) (X : Obj) (hr : RowP w b [t0, t1, t2]) (hd : RowP w b' [pd]) (hG : Grp w pd g 3 bb 1 cc) (hp : w.cell? ⟨bb, 0, none⟩ = some (.pointer (some ⟨pg, 0, none⟩))) (hA : Anchored t0 t1 t2 w pg) :
    Gives (w.alloc X) w.heap.size (.slice (some ⟨b, 0, none⟩) 3 c) (.slice (some ⟨b', 0, none⟩) 1 c') 0 3 (AnchorOut w.heap.size) := by
  obtain ⟨q, q0, q1, q2, ⟨g3, b3, hG3, f0, f1⟩, ⟨g2, b2, hG2, d0, d1⟩, l0, l1, l2⟩ := hA
  have hB := (Below.refl w.heap.size w).alloc (Nat.le_refl _) X
  have hnr : w.heap.size < (w.alloc X).heap.size := by simp
  have cl := fun {x : Nat} {o : Nat} {v : Value} (h : w.cell? ⟨x, o, none⟩ = some v) => Nat.ne_of_lt (World.block_lt_of_cell? w _ h)
  have r0 := hr 0 (by simp)
  have r1 := hr 1 (by simp)
  have r2 := hr 2 (by simp)
  have rd := hd 0 (by simp)
  have h3 := gives_two (c := c) (cq := 2) hnr (cl r0) (cl d0) (Nat.ne_of_lt (blk_lt l0)) (Nat.ne_of_lt (blk_lt l1)) (l0.below hB) (l1.below hB) (k := 0) (n := 3) (by omega) (by omega) (pw_cell_below hB r0) (pw_cell_below hB r1) (pw_cell_below hB d0) (pw_cell_below hB d1)
  have h2 := gives_then (c := c) (cq := 2) (k := 2) (n := 3) hnr (cl r0) (cl f0) (Nat.ne_of_lt (blk_lt hG2.1)) (Nat.ne_of_lt (blk_lt l2)) (Nat.ne_of_lt (blk_lt hG2.2)) (hG2.below hB) (l2.below hB) (by omega) (by omega) (pw_cell_below hB r2) (pw_cell_below hB f0) (pw_cell_below hB f1) h3
  have h1 := gives_one (cq := cc) hnr (cl hp) (Nat.ne_of_lt (blk_lt hG3.1)) (Nat.ne_of_lt (blk_lt hG3.2)) (hG3.below hB) (pw_cell_below hB hp) h2
  have h0 := gives_one (cq := c') hnr (cl rd) (Nat.ne_of_lt (blk_lt hG.1)) (Nat.ne_of_lt (blk_lt hG.2)) (hG.below hB) (pw_cell_below hB rd) h1
  refine Gives.imp h0 ?_
  rintro v W ⟨x, hx, x1, y, hy, y1, z, u, hz, z1, ⟨s, t, hs, s1, t1, s2, t2⟩, u1, u2⟩
  exact ⟨x, y, z, u, s, t, hx, x1, hy, y1, hz, z1, u1, u2, hs, s1, t1, s2, t2⟩
end Go.Proofs.YtmildhkegpmacaaDoor.GroupOut
