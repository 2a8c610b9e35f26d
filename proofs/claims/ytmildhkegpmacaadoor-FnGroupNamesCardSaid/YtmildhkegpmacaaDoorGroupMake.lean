/- FnGroupNames: the parser's tokens over the tokens, and the groups of an anchor and of an alias. -/
import Derived.Test.YtmildhkegpmacaaDoorGroupPass
namespace Go.Proofs.YtmildhkegpmacaaDoor.GroupMake
open Go.RowKit Go.Proofs.YtmildhkegpmacaaDoorW.PrintWords Go.Proofs.YtmildhkegpmacaaDoor.GroupBase Go.Proofs.YtmildhkegpmacaaDoor.GroupPass
set_option linter.unusedVariables false
set_option linter.unusedSimpArgs false

def Lvs (w : World) (B : Nat) (ps ts : List Nat) : Prop := ∀ i, (h : i < ps.length) → B < ps[i] ∧ Leaf w ps[i] (ts.getD i 0)

theorem cell_one2 (w : World) (X : Obj) (v : Value) (T : TypeId) : ∀ (j : Nat) (u : Value), [v][j]? = some u → ((w.alloc X).alloc (.cells #[v] T)).cell? (Addr.add ⟨w.heap.size + 1, 0, none⟩ j) = some u := by
  intro j u h
  have := cell_one (w.alloc X) v T j u h
  rwa [show (w.alloc X).heap.size = w.heap.size + 1 by simp] at this

theorem Lvs.step {wr w1 : World} {B : Nat} {ps ts : List Nat} {t : Nat} (h : Lvs wr B ps ts) (ht : ts.getD ps.length 0 = t) (hB : B < wr.heap.size) (Y : Obj)
    (hg : ((wr.alloc (.cells #[.pointer (some ⟨t, 0, none⟩), .pointer none, .pointer none] 124)).alloc Y).grownBy w1 (some B)) : Lvs w1 B (ps ++ [wr.heap.size]) ts := by
  intro i hi
  by_cases hl : i < ps.length
  · rw [List.getElem_append_left hl]
    obtain ⟨h1, h2⟩ := h i hl
    exact ⟨h1, blk_grown (blk_alloc (blk_alloc h2 _) _) hg (fun e => by cases e; omega)⟩
  · have hi' : i = ps.length := by simp at hi; omega
    subst hi'
    rw [List.getElem_append_right (Nat.le_refl _)]
    simp only [Nat.sub_self, List.getElem_cons_zero]
    rw [ht]
    exact ⟨hB, blk_grown (blk_alloc (blk_new wr _) _) hg (fun e => by cases e; omega)⟩

def Newed (n : Nat) (ts : List Nat) (w : World) (e : Ending) (w' : World) : Prop := ∃ b' ps, e = .returned (.slice (some ⟨b', 0, none⟩) n n) ∧ ps.length = n ∧ RowP w' b' ps ∧ Lvs w' w.heap.size ps ts ∧ Below w.heap.size w w'

set_option maxHeartbeats 1000000 in
set_option maxRecDepth 100000 in
theorem new68 (w : World) (b n c : Nat) (ts : List Nat) (hn : n = ts.length) (h100 : n ≤ 100) (hr : RowP w b ts) :
    Calls Tryd.prog 68 #[.slice (some ⟨b, 0, none⟩) n c] w (Newed n ts w) := by
  obtain ⟨i0, hi, hz0, hz1, hz2⟩ := info_parts info121
  have HR := Aside0.mk hr
  have HN := Aside0.mk hn
  clear hr hn
  go_enter Tryd.func68, Tryd.ntmps68
  go_wp2_with (at_make; refine wpList_make_own _ rfl _ _ 73 rfl w.heap.size 121 i0 (.pointer none) 1 Tryd.underlying73 hi hz0 hz1 .i64 .i64 _ n rfl rfl rfl (by rw [hz2]; omega) (by unfold maxLen; omega) (Nat.le_refl _) ?_; intro w0 hown0 hgrow0)
  have hs0 : w.heap.size < w0.heap.size := by
    have := World.block_lt_of_cell? w0 
    rcases hown0.2 with ⟨h, _⟩ | ⟨g, cap, cur, h, _, hg, _⟩
    · cases h
    · cases h; exact blk_lt hg
  go_loopw [3, 11] (fun out si wr => ∃ (k : Nat) (ps : List Nat), k ≤ n ∧ si = .int .i64 k ∧ out = .slice (some ⟨w.heap.size, 0, none⟩) k n ∧ ps.length = k ∧ w.heap.size < wr.heap.size ∧
      wr.ownsRow w.heap.size 121 1 (.slice (some ⟨w.heap.size, 0, none⟩) k n) k (ps.map ptr) ∧ Lvs wr w.heap.size ps ts ∧ Below w.heap.size w wr) (fun _ si _ => n - (intOf si).toNat)
  case atStart => exact ⟨0, [], Nat.zero_le _, rfl, rfl, rfl, hs0, by simpa using hown0, fun i h => absurd h (Nat.not_lt_zero _), (Below.refl _ _).grown hgrow0 (Nat.le_refl _) (fun k h => by cases h)⟩
  case round =>
    obtain ⟨k, ps, hk, rfl, rfl, hps, hsz, hown, hlv, hb⟩ := hrel
    have HB := Aside0.mk hb
    have HOWN := Aside0.mk hown
    have HPS := Aside0.mk hps
    have HLV := Aside0.mk hlv
    clear hown hps hlv
    by_cases hlt : k < n
    · have hkl : k < ts.length := by rw [← HN.out]; exact hlt
      have hx := pw_cell_below hb (HR.out k hkl)
      obtain ⟨t, ht⟩ : ∃ t, t = ts[k] := ⟨_, rfl⟩
      rw [← ht] at hx
      have HT : Aside0 (ts.getD ps.length 0 = t) := ⟨by rw [HPS.out, ht]; simp [hkl]⟩
      clear hb ht
      go_wp2_with (at_builtin; refine wpList_append_fits _ rfl (.tmp 15) (.tmp 19) 73 rfl w.heap.size 121 i0 1 Tryd.underlying73 hi hz1 w.heap.size k n _ rfl ((HOWN.out.alloc _).alloc _) ⟨wr.heap.size + 1, 0, none⟩ 1 1 [ptr wr.heap.size] rfl rfl (cell_one2 _ _ _ _) (ptr_oneCell _) (by omega) ?_; intro w1 hown1 hgrow1)
      go_roundw
      case rel => exact ⟨k + 1, ps ++ [wr.heap.size], by omega, by go_num, rfl, by simp [HPS.out], by have := hgrow1.size; simp at this; omega, by simpa using hown1, HLV.out.step HT.out hsz _ hgrow1, ((((HB.out.alloc HB.out.size _).alloc (by simp; have := HB.out.size; omega) _)).grown hgrow1 (by simp; have := HB.out.size; omega) (fun k hk => by cases hk; exact Nat.le_refl _))⟩
      case measure => simp [intOf]; omega
    · obtain rfl : k = n := by omega
      clear hb
      go_wp2
      go_ret
      exact ⟨_, ps, rfl, HPS.out, row_of_own HPS.out.symm HOWN.out, HLV.out, HB.out⟩
end Go.Proofs.YtmildhkegpmacaaDoor.GroupMake
