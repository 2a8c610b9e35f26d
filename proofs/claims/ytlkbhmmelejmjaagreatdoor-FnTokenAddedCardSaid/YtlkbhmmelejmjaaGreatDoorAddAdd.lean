/- FnTokenAdded: Tokens.add, Tokens.Add. -/
import Derived.Test.YtlkbhmmelejmjaaGreatDoorAddMade
namespace Go.Proofs.YtlkbhmmelejmjaaGreatDoor.AddAdd
open Go.RowKit Go.Proofs.YtlkbhmmelejmjaaGreatDoorW.PrintWords Go.Proofs.YtlkbhmmelejmjaaGreatDoor.TokBase Go.Proofs.YtlkbhmmelejmjaaGreatDoor.TokList Go.Proofs.YtlkbhmmelejmjaaGreatDoor.TokMake Go.Proofs.YtlkbhmmelejmjaaGreatDoor.AddBase Go.Proofs.YtlkbhmmelejmjaaGreatDoor.AddMade
set_option linter.unusedVariables false
set_option linter.unusedSimpArgs false
attribute [local go_sem ↓] Go.wp_at_zero Go.wp_at_succ

/-- What stands beside token i when j are added. -/
def nxs (all : List Nat) (j i : Nat) : Value := if i + 1 < j then ptr (all.getD (i + 1) 0) else .pointer none
def pvs (all : List Nat) (j i : Nat) : Value := if 0 < i ∧ i < j then ptr (all.getD (i - 1) 0) else .pointer none

/-- j tokens are added to the slice v of the box b. -/
structure Adding (w : World) (B b g' : Nat) (all : List Nat) (vs : Nat → ByteArray) (j : Nat) (v : Value) : Prop where
  box : w.heap[b]? = some (.cells #[v] 52 (0, 0))
  own : w.ownsRow B 46 1 v j (ptrs (all.take j))
  far : v.ownBlock ≠ some g'
  toks : Toks w all vs (nxs all j) (pvs all j)

/-- A row of pointers that is kept. -/
def Kept0 (w : World) (g' : Nat) : Prop := ∃ cur, w.heap[g']? = some (.cells cur 46 (0, 0))

theorem own_ne_of {w : World} {g : Nat} {t : TypeId} {cs : Array Value} {v : Value} (hT : Typed w v) (h : w.heap[g]? = some (.cells cs t (0, 0))) (hne : t ≠ 46) : some g ≠ v.ownBlock := fun e => by
  obtain ⟨cur, hc⟩ := hT g e.symm
  rw [h] at hc; injection hc with hc; injection hc with _ hc; exact hne hc
theorem tok_own_ne {w : World} {t i : Nat} {s : ByteArray} {nx pv v : Value} (hT : Typed w v) (h : TokN w t s i nx pv) : some t ≠ v.ownBlock := by
  obtain ⟨q, h1, h2⟩ := h
  exact own_ne_of hT h1 (by decide)
theorem getD_at {l : List Nat} {i : Nat} (h : i < l.length) : l.getD i 0 = l[i] := by simp [List.getD, h]
theorem take_snoc {all : List Nat} {j : Nat} (h : j < all.length) : ptrs (all.take (j + 1)) = ptrs (all.take j) ++ [ptr all[j]] := by
  rw [List.take_succ_eq_append_getElem h]; unfold ptrs; rw [List.map_append]; rfl
theorem box_tok_ne {w : World} {b t i : Nat} {cs : Array Value} {s : ByteArray} {nx pv : Value} (hb : w.heap[b]? = some (.cells cs 52 (0, 0))) (h : TokN w t s i nx pv) : b ≠ t := fun e => by
  subst e; obtain ⟨q, h1, h2⟩ := h
  rw [hb] at h1; injection h1 with h1; injection h1 with _ h1; cases h1
theorem kept_tok_ne {w : World} {g t i : Nat} {s : ByteArray} {nx pv : Value} (hb : Kept0 w g) (h : TokN w t s i nx pv) : g ≠ t := fun e => by
  subst e; obtain ⟨q, h1, h2⟩ := h; obtain ⟨cur, hb⟩ := hb
  rw [hb] at h1; injection h1 with h1; injection h1 with _ h1; cases h1
theorem kept_box_ne {w : World} {g b : Nat} {cs : Array Value} (hb : Kept0 w g) (h : w.heap[b]? = some (.cells cs 52 (0, 0))) : g ≠ b := fun e => by
  subst e; obtain ⟨cur, hb⟩ := hb
  rw [hb] at h; injection h with h1; injection h1 with _ h1; cases h1
theorem TokN.box {w : World} {b t i : Nat} {cs : Array Value} {s : ByteArray} {nx pv : Value} (h : TokN w t s i nx pv) (hb : w.heap[b]? = some (.cells cs 52 (0, 0))) (k : Nat) (u : Value) : TokN (w.setCell ⟨b, k, none⟩ u) t s i nx pv := by
  have hne := box_tok_ne hb h
  obtain ⟨q, h1, h2⟩ := h
  refine ⟨q, blk_far h1 (fun e => hne e.symm) u, blk_far h2 (fun e => ?_) u⟩
  simp only at e; subst e; unfold Pos at h2
  rw [hb] at h2; injection h2 with h2; injection h2 with _ h2; cases h2

theorem box_facts {w w1 : World} {B b j : Nat} {v : Value} {X : Obj} {xs : List Value} (hbox : w.heap[b]? = some (.cells #[v] 52 (0, 0))) (hown : w.ownsRow B 46 1 v j xs) (hg : (w.alloc X).grownBy w1 v.ownBlock) : w1.frozen? ⟨b, 0, none⟩ = false ∧ w1.cell? ⟨b, 0, none⟩ = some v := by
  have hT := AddMade.own_typed (hown.alloc X)
  have hb1 := blk_grown (blk_alloc hbox X) hg (own_ne_of hT (blk_alloc hbox _) (by decide))
  have fb := blk_frozen hb1 0
  have xb1 := blk_cell hb1 0
  simp only [List.getElem?_toArray, List.getElem?_cons_succ, List.getElem?_cons_zero] at xb1
  exact ⟨fb, xb1⟩

def Addd (B b g' : Nat) (all : List Nat) (vs : Nat → ByteArray) (j : Nat) (w : World) (e : Ending) (w' : World) : Prop := ∃ v', e = .returned (.tuple #[]) ∧ Adding w' B b g' all vs j v' ∧ w'.heap[g']? = w.heap[g']? ∧ Below B w w'

/-- What an append of a pointer leaves. -/
theorem step_done {w0 w w1 : World} {B b g' j g cap p : Nat} {all : List Nat} {vs : Nat → ByteArray} {v : Value} (hb0 : Below B w0 w) (hk0 : w.heap[g']? = w0.heap[g']?) (hB : B ≤ b) (hB0 : B ≤ w0.heap.size) (hK : Kept0 w g')
    (hbox : w.heap[b]? = some (.cells #[v] 52 (0, 0))) (hown : w.ownsRow B 46 1 v j (ptrs (all.take j))) (hfar : v.ownBlock ≠ some g') (htk : Toks w all vs (nxs all (j + 1)) (pvs all (j + 1)))
    (hj : j < all.length) (hp : all[j] = p) (hown1 : w1.ownsRow B 46 1 (.slice (some ⟨g, 0, none⟩) (j + 1) cap) (j + 1) (ptrs (all.take j) ++ [ptr p])) (hg : (w.alloc (.cells #[ptr p] 46)).grownBy w1 v.ownBlock) (hat : v.ownBlock = some g ∨ g = w.heap.size + 1) :
    Addd B b g' all vs (j + 1) w0 (.returned (.tuple #[])) (w1.setCell ⟨b, 0, none⟩ (.slice (some ⟨g, 0, none⟩) (j + 1) cap)) := by
  have hT := AddMade.own_typed (hown.alloc (.cells #[ptr p] 46))
  have hb1 := blk_grown (blk_alloc hbox (.cells #[ptr p] 46)) hg (own_ne_of hT (blk_alloc hbox _) (by decide))
  have hK1 : w1.heap[g']? = w.heap[g']? := by
    obtain ⟨cur, hc⟩ := hK
    rw [hc]
    exact blk_grown (blk_alloc hc _) hg (fun e => hfar e.symm)
  have hKK : Kept0 w1 g' := by obtain ⟨cur, hc⟩ := hK; exact ⟨cur, hK1.trans hc⟩
  have htk1 : Toks w1 all vs (nxs all (j + 1)) (pvs all (j + 1)) := fun i hi => ((htk i hi).below ((Below.refl _ w).alloc (Nat.le_refl _) _)).grown hT hg
  have hgb : g ≠ b := fun e => by
    subst e
    obtain ⟨cur, hc⟩ := AddMade.own_typed hown1 g rfl
    rw [hb1] at hc; injection hc with hc; injection hc with _ hc; cases hc
  refine ⟨.slice (some ⟨g, 0, none⟩) (j + 1) cap, rfl, ⟨?_, ?_, ?_, fun i hi => TokN.box (htk1 i hi) hb1 0 _⟩, ?_, ?_⟩
  · have := blk_set hb1 0 (.slice (some ⟨g, 0, none⟩) (j + 1) cap)
    simpa using this
  · refine own_setCell ?_ (fun e => hgb (by injection e with e; exact e.symm)) _
    rw [take_snoc hj, hp]; exact hown1
  · intro e
    have e : g = g' := by simpa [Value.ownBlock] using e
    rcases hat with h | h
    · exact hfar (by rw [h, e])
    · have := hK; obtain ⟨cur, hc⟩ := this; have := blk_lt hc; omega
  · rw [Below.heap_setCell _ _ _ _ (kept_box_ne hKK hb1), hK1, hk0]
  · refine Below.setCell ?_ hB _
    have hs := hb0.size
    exact (hb0.alloc (by omega) _).grown hg (by simp; omega) fun y hy => (AddMade.own_lt hown y hy).1

theorem toks_first {w : World} {all : List Nat} {vs : Nat → ByteArray} (h : Toks w all vs (nxs all 0) (pvs all 0)) : Toks w all vs (nxs all 1) (pvs all 1) := by
  intro i hi
  have := h i hi
  have e1 : nxs all 1 i = nxs all 0 i := by unfold nxs; rw [if_neg (by omega), if_neg (by omega)]
  have e2 : pvs all 1 i = pvs all 0 i := by unfold pvs; rw [if_neg (by omega), if_neg (by omega)]
  rw [e1, e2]; exact this
theorem toks_link {w : World} {all : List Nat} {vs : Nat → ByteArray} {j p l : Nat} (h : Toks w all vs (nxs all (j + 1)) (pvs all (j + 1))) (hi : Inc all) (hj : j + 1 < all.length) (hp : all[j + 1] = p) (hl : all[j] = l) :
    Toks ((w.setCell ⟨l, 7, none⟩ (ptr p)).setCell ⟨p, 8, none⟩ (ptr l)) all vs (nxs all (j + 2)) (pvs all (j + 2)) := by
  subst hp; subst hl
  have hne : all[j + 1] ≠ all[j] := hi.ne _ _ (by omega)
  have t1 := h (j + 1) hj
  have t0 := h j (by omega)
  have t1' := t1.other t0 hne 7 (ptr all[j + 1])
  intro i hil
  have ti := h i hil
  by_cases e0 : i = j
  · subst e0
    have e1 : nxs all (i + 2) i = ptr all[i + 1] := by unfold nxs; rw [if_pos (by omega), getD_at hj]
    have e2 : pvs all (i + 2) i = pvs all (i + 1) i := by
      unfold pvs
      by_cases h0 : 0 < i
      · rw [if_pos ⟨h0, by omega⟩, if_pos ⟨h0, by omega⟩]
      · rw [if_neg (by omega), if_neg (by omega)]
    rw [e1, e2]
    exact (ti.set7 _).other t1' (fun e => hne e.symm) 8 _
  · by_cases e1 : i = j + 1
    · subst e1
      have e3 : nxs all (j + 2) (j + 1) = nxs all (j + 1) (j + 1) := by unfold nxs; rw [if_neg (by omega), if_neg (by omega)]
      have e4 : pvs all (j + 2) (j + 1) = ptr all[j] := by unfold pvs; rw [if_pos (by omega)]; rw [Nat.add_sub_cancel, getD_at (show j < all.length by omega)]
      rw [e3, e4]
      exact t1'.set8 _
    · have e3 : nxs all (j + 2) i = nxs all (j + 1) i := by
        unfold nxs
        by_cases h0 : i + 1 < j + 1
        · rw [if_pos h0, if_pos (by omega)]
        · rw [if_neg h0, if_neg (by omega)]
      have e4 : pvs all (j + 2) i = pvs all (j + 1) i := by
        unfold pvs
        by_cases h0 : 0 < i ∧ i < j + 1
        · rw [if_pos h0, if_pos (by omega)]
        · rw [if_neg h0, if_neg (by omega)]
      rw [e3, e4]
      exact (ti.other t0 (hi.ne _ _ e0) 7 _).other t1' (hi.ne _ _ e1) 8 _

set_option maxHeartbeats 4000000 in
set_option maxRecDepth 100000 in
theorem add_first (w : World) (B b g' p : Nat) (all : List Nat) (vs : Nat → ByteArray) (v : Value) (hlen : 0 < all.length) (hp : all[0] = p) (hB : B ≤ b) (hBw : B ≤ w.heap.size) (hK : Kept0 w g') (h : Adding w B b g' all vs 0 v) (hv : v = .slice none 0 0) :
    Calls Tryz.prog 75 #[.pointer (some ⟨b, 0, none⟩), .pointer (some ⟨p, 0, none⟩)] w (Addd B b g' all vs 1 w) := by
  subst hv
  obtain ⟨i0, hi, hz0, hz1, hz2⟩ := info_parts info46
  have H := Aside0.mk h
  have HP := Aside0.mk hp
  have HK := Aside0.mk hK
  have xb := blk_cell h.box 0
  simp only [List.getElem?_toArray, List.getElem?_cons_succ, List.getElem?_cons_zero] at xb
  have lb := blk_lt h.box
  clear h hp hK
  go_enter Tryz.func75, Tryz.ntmps75
  go_wp2_with (at_builtin; refine wpList_append_lies _ rfl (.tmp 12) (.tmp 14) 52 rfl B 46 i0 (.pointer none) 1 8 Tryz.underlying52 hi hz0 hz1 hz2 rfl (by decide) (.slice none 0 0) 0 (ptrs (all.take 0)) rfl (H.out.own.alloc _) ⟨w.heap.size, 0, none⟩ 1 1 [ptr p] rfl rfl (cell_one _ _ _) (fun u hu => by simp at hu; subst hu; rfl) (by decide) (by unfold maxLen; omega) (by omega) (by simp; omega) (w.heap.size + 1) (by simp) ?_; intro g cap w1 hown1 hgrow1 hat hlt1; obtain ⟨fb, xb1⟩ := box_facts H.out.box H.out.own hgrow1)
  have HO := Aside0.mk hown1
  have HG := Aside0.mk hgrow1
  have HA := Aside0.mk hat
  clear hown1 hgrow1 hat
  go_end0
  exact step_done (Below.refl _ _) rfl hB hBw HK.out H.out.box H.out.own H.out.far (toks_first H.out.toks) hlen HP.out HO.out HG.out HA.out

set_option maxHeartbeats 4000000 in
set_option maxRecDepth 100000 in
theorem add_next (w : World) (B b g' p j : Nat) (all : List Nat) (vs : Nat → ByteArray) (v : Value) (h100 : all.length ≤ 100) (hj : j + 1 < all.length) (hp : all[j + 1] = p) (hB : B ≤ b) (hBw : B ≤ w.heap.size) (hBall : ∀ i, (h : i < all.length) → B ≤ all[i]) (hi : Inc all) (hK : Kept0 w g') (h : Adding w B b g' all vs (j + 1) v) :
    Calls Tryz.prog 75 #[.pointer (some ⟨b, 0, none⟩), .pointer (some ⟨p, 0, none⟩)] w (Addd B b g' all vs (j + 2) w) := by
  obtain ⟨i0, hi0, hz0, hz1, hz2⟩ := info_parts info46
  obtain ⟨g, cap, hv⟩ : ∃ g cap, v = .slice (some ⟨g, 0, none⟩) (j + 1) cap := by
    rcases h.own.2 with ⟨_, h0⟩ | ⟨g, cap, _, hv, _⟩
    · omega
    · exact ⟨g, cap, hv⟩
  subst hv
  have hl : all[j] = all[j] := rfl
  generalize hle : all[j] = l at hl
  have H := Aside0.mk h
  have HK := Aside0.mk hK
  have HI := Aside0.mk hi
  have HBA := Aside0.mk hBall
  have xb := blk_cell h.box 0
  simp only [List.getElem?_toArray, List.getElem?_cons_succ, List.getElem?_cons_zero] at xb
  have xl : w.cell? ⟨g, j, none⟩ = some (.pointer (some ⟨l, 0, none⟩)) := by
    have := h.own.cells rfl j (ptr l) (by rw [← hle]; simp [ptrs, show j < all.length by omega])
    rwa [show ((⟨g, 0, none⟩ : Addr).add j) = ⟨g, j, none⟩ by unfold Addr.add; split <;> simp_all] at this
  have lb := blk_lt h.box
  have tl := h.toks j (by omega)
  have tp := h.toks (j + 1) hj
  rw [hle] at tl
  rw [hp] at tp
  have hne : p ≠ l := by rw [← hp, ← hle]; exact hi.ne _ _ (by omega)
  have tp1 := tp.other tl hne 7 (ptr p)
  have nl := box_tok_ne h.box tl
  have np := box_tok_ne h.box tp
  obtain ⟨ql, hl1, hl2⟩ := tl
  obtain ⟨qp, hp1, hp2⟩ := tp1
  have l7 := blk_cell hl1 7
  have l7f := blk_frozen hl1 7
  have p8 := blk_cell hp1 8
  have p8f := blk_frozen hp1 8
  simp only [List.getElem?_toArray, List.getElem?_cons_succ, List.getElem?_cons_zero] at l7 p8
  unfold ptr at p8 p8f
  have HLE := Aside0.mk hle
  have HP := Aside0.mk hp
  clear h hp hK hi hBall hl1 hl2 hp1 hp2 tp hl hle
  have hown0 : ((w.setCell ⟨l, 7, none⟩ (ptr p)).setCell ⟨p, 8, none⟩ (ptr l)).ownsRow B 46 1 (.slice (some ⟨g, 0, none⟩) (j + 1) cap) (j + 1) (ptrs (all.take (j + 1))) := by
    have hT := AddMade.own_typed H.out.own
    refine own_setCell (own_setCell H.out.own ?_ _) ?_ _
    · intro e
      have := tok_own_ne hT (H.out.toks j (by omega))
      rw [HLE.out] at this
      exact this e
    · intro e
      have := tok_own_ne hT (H.out.toks (j + 1) hj)
      rw [HP.out] at this
      exact this e
  have hbox0 : ((w.setCell ⟨l, 7, none⟩ (ptr p)).setCell ⟨p, 8, none⟩ (ptr l)).heap[b]? = some (.cells #[.slice (some ⟨g, 0, none⟩) (j + 1) cap] 52 (0, 0)) := blk_far (blk_far H.out.box nl _) np _
  have hsz : ((w.setCell ⟨l, 7, none⟩ (ptr p)).setCell ⟨p, 8, none⟩ (ptr l)).heap.size = w.heap.size := by simp
  have hnews := cell_one ((w.setCell ⟨l, 7, none⟩ (ptr p)).setCell ⟨p, 8, none⟩ (ptr l)) (ptr p) 46
  rw [hsz] at hnews
  have hsz1 : (((w.setCell ⟨l, 7, none⟩ (ptr p)).setCell ⟨p, 8, none⟩ (ptr l)).alloc (.cells #[ptr p] 46)).heap.size = w.heap.size + 1 := by rw [size_alloc, hsz]
  have HN := Aside0.mk hnews
  have HS := Aside0.mk hsz1
  have HB2 : Aside0 (B ≤ (((w.setCell ⟨l, 7, none⟩ (ptr p)).setCell ⟨p, 8, none⟩ (ptr l)).alloc (.cells #[ptr p] 46)).heap.size) := ⟨by rw [hsz1]; omega⟩
  clear hnews hsz1 hsz
  go_enter Tryz.func75, Tryz.ntmps75
  go_wp2_with (at_builtin; refine wpList_append_lies _ rfl (.tmp 30) (.tmp 32) 52 rfl B 46 i0 (.pointer none) 1 8 Tryz.underlying52 hi0 hz0 hz1 hz2 rfl (by decide) (.slice (some ⟨g, 0, none⟩) (j + 1) cap) (j + 1) (ptrs (all.take (j + 1))) rfl (hown0.alloc _) ⟨w.heap.size, 0, none⟩ 1 1 [ptr p] rfl rfl HN.out (fun u hu => by simp at hu; subst hu; rfl) (by decide) (by unfold maxLen; omega) (by omega) HB2.out (w.heap.size + 1) HS.out ?_; intro g1 cap1 w1 hown1 hgrow1 hat hlt1; obtain ⟨fb, xb1⟩ := box_facts hbox0 hown0 hgrow1)
  have HO := Aside0.mk hown1
  have HG := Aside0.mk hgrow1
  have HA := Aside0.mk hat
  clear hown1 hgrow1 hat
  go_end0
  exact step_done (w := (w.setCell ⟨l, 7, none⟩ (ptr p)).setCell ⟨p, 8, none⟩ (ptr l)) (((Below.refl _ _).setCell (by rw [← HLE.out]; exact HBA.out j (by omega)) _).setCell (by rw [← HP.out]; exact HBA.out (j + 1) hj) _)
    (by
      have k1 := kept_tok_ne HK.out (H.out.toks j (by omega))
      have k2 := kept_tok_ne HK.out (H.out.toks (j + 1) hj)
      rw [HLE.out] at k1
      rw [HP.out] at k2
      rw [Below.heap_setCell _ _ _ _ k2, Below.heap_setCell _ _ _ _ k1]) hB hBw
    (by
      obtain ⟨cur, hc⟩ := HK.out
      have k1 := kept_tok_ne HK.out (H.out.toks j (by omega))
      have k2 := kept_tok_ne HK.out (H.out.toks (j + 1) hj)
      rw [HLE.out] at k1
      rw [HP.out] at k2
      exact ⟨cur, blk_far (blk_far hc k1 _) k2 _⟩) hbox0 hown0 H.out.far (toks_link H.out.toks HI.out hj HP.out HLE.out) hj HP.out HO.out HG.out (by simpa using HA.out)
end Go.Proofs.YtlkbhmmelejmjaaGreatDoor.AddAdd
