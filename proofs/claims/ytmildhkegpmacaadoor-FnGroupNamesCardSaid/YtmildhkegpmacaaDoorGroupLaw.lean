/- FnGroupNames: the law's walk. -/
import Derived.Test.YtmildhkegpmacaaDoorGroupDoor
namespace Go.Proofs.YtmildhkegpmacaaDoor.GroupLaw
open Go.RowKit Go.Proofs.YtmildhkegpmacaaDoorW.PrintWords Go.Proofs.YtmildhkegpmacaaDoor.GroupBase Go.Proofs.YtmildhkegpmacaaDoor.GroupPass Go.Proofs.YtmildhkegpmacaaDoor.GroupAlias Go.Proofs.YtmildhkegpmacaaDoor.GroupTok Go.Proofs.YtmildhkegpmacaaDoor.GroupAll Go.Proofs.YtmildhkegpmacaaDoor.GroupList Go.Proofs.YtmildhkegpmacaaDoor.GroupFlat Go.Proofs.YtmildhkegpmacaaDoor.GroupOut Go.Proofs.YtmildhkegpmacaaDoor.GroupToks Go.Proofs.YtmildhkegpmacaaDoor.GroupMd Go.Proofs.YtmildhkegpmacaaDoor.GroupDoor
set_option linter.unusedVariables false
set_option linter.unusedSimpArgs false
attribute [local go_sem ↓] Go.wp_at_zero Go.wp_at_succ

theorem tok_len (j : Nat) (k : Int) (t : ByteArray) : (tok j k t).length = 13 := rfl
theorem toks_at (ks : Nat → Int) (ts : Nat → ByteArray) (j f : Nat) (hj : j < 3) (hf : f < 13) : (toks ks ts 3)[j * 13 + f]? = (tok j (ks j) (ts j))[f]? := by
  have e : toks ks ts 3 = (tok 0 (ks 0) (ts 0) ++ tok 1 (ks 1) (ts 1)) ++ tok 2 (ks 2) (ts 2) := rfl
  rw [e]
  match j, hj with
  | 0, _ => rw [List.getElem?_append_left (by rw [List.length_append, tok_len, tok_len]; omega), List.getElem?_append_left (by rw [tok_len]; omega), Nat.zero_mul, Nat.zero_add]
  | 1, _ => rw [List.getElem?_append_left (by rw [List.length_append, tok_len, tok_len]; omega), List.getElem?_append_right (by rw [tok_len]; omega), tok_len, Nat.one_mul, Nat.add_sub_cancel_left]
  | 2, _ => rw [List.getElem?_append_right (by rw [List.length_append, tok_len, tok_len]; omega), List.length_append, tok_len, tok_len, show 2 * 13 + f - (13 + 13) = f by omega]
theorem tokRow_of {w : World} {base g cap : Nat} {ks : Nat → Int} {ts : Nat → ByteArray} (h : w.ownsRow base 54 13 (.slice (some ⟨g, 0, none⟩) 3 cap) 3 (toks ks ts 3)) (n : Nat) (hn : n ≤ 3) : TokRow w g n ks ts := by
  intro j hj f u hu
  have hf : f < 13 := by
    rcases Nat.lt_or_ge f 13 with h | h
    · exact h
    · rw [List.getElem?_eq_none (by rw [tok_len]; exact h)] at hu; cases hu
  rw [h.cellAt (j * 13 + f) (by omega), toks_at ks ts j f (by omega) hf, hu]

def aliasR (ps : List Nat) (w : World) (pg : Nat) : Prop := Aliased (ps.getD 0 0) (ps.getD 1 0) w pg
def anchorR (ps : List Nat) (w : World) (pg : Nat) : Prop := Anchored (ps.getD 0 0) (ps.getD 1 0) (ps.getD 2 0) w pg

theorem alias_door (w : World) (g cap : Nat) (ks : Nat → Int) (ts : Nat → ByteArray) (hr : TokRow w g 2 ks ts) (h0 : ks 0 = 14) (h1 : ks 1 = 31) : Calls Tryd.prog 25 #[.slice (some ⟨g, 0, none⟩) 2 cap] w (GroupedD AliasOut w) := by
  refine grouped_of w g 2 cap ks ts (by omega) hr aliasR AliasOut (fun W b c ps hl hrow htk => ?_) (fun W b c ps b' pd c' gg bb cc pg X hl hrow hrow2 hgrp hcell hR => ?_)
  · match ps, hl with
    | [t0, t1], _ =>
      have a0 := htk 0 (by simp)
      have a1 := htk 1 (by simp)
      rw [h0] at a0
      rw [h1] at a1
      exact alias48 W b c t0 t1 hrow a0 a1
  · match ps, hl with
    | [t0, t1], _ => exact alias_gives W b c t0 t1 b' pd c' gg bb cc pg X hrow hrow2 hgrp hcell hR

theorem anchor_door (w : World) (g cap : Nat) (ks : Nat → Int) (ts : Nat → ByteArray) (hr : TokRow w g 3 ks ts) (h0 : ks 0 = 13) (h1 : ks 1 = 31) (h2 : ks 2 = 18 ∨ ks 2 = 19 ∨ ks 2 = 26) : Calls Tryd.prog 25 #[.slice (some ⟨g, 0, none⟩) 3 cap] w (GroupedD AnchorOut w) := by
  refine grouped_of w g 3 cap ks ts (by omega) hr anchorR AnchorOut (fun W b c ps hl hrow htk => ?_) (fun W b c ps b' pd c' gg bb cc pg X hl hrow hrow2 hgrp hcell hR => ?_)
  · match ps, hl with
    | [t0, t1, t2], _ =>
      have a0 := htk 0 (by simp)
      have a1 := htk 1 (by simp)
      have a2 := htk 2 (by simp)
      rw [h0] at a0
      rw [h1] at a1
      exact anchor48 W b c t0 t1 t2 (ks 2) h2 hrow a0 a1 a2
  · match ps, hl with
    | [t0, t1, t2], _ => exact anchor_gives W b c t0 t1 t2 b' pd c' gg bb cc pg X hrow hrow2 hgrp hcell hR

def Yes (w : World) (e : Ending) (w' : World) : Prop := e = .returned (.bool true) ∧ Below w.heap.size w w'

def fst3 (a b c : Int) (i : Nat) : Int := if i = 0 then a else if i = 1 then b else c
def txt3 (a b c : ByteArray) (i : Nat) : ByteArray := if i = 0 then a else if i = 1 then b else c

theorem six3 (k : Int) (h0 : 0 ≤ k) : ∃ k2 t2, Six (6 + k % 3) k2 t2 ∧ (k2 = 18 ∨ k2 = 19 ∨ k2 = 26) := by
  have : k % 3 = 0 ∨ k % 3 = 1 ∨ k % 3 = 2 := by omega
  rcases this with h | h | h
  · exact ⟨18, ⟨#[113]⟩, by rw [h]; exact .inr (.inr (.inr (.inl ⟨rfl, rfl, rfl⟩))), .inl rfl⟩
  · exact ⟨19, ⟨#[100]⟩, by rw [h]; exact .inr (.inr (.inr (.inr (.inl ⟨rfl, rfl, rfl⟩)))), .inr (.inl rfl)⟩
  · exact ⟨26, ⟨#[49]⟩, by rw [h]; exact .inr (.inr (.inr (.inr (.inr ⟨rfl, rfl, rfl⟩)))), .inr (.inr rfl)⟩

set_option maxHeartbeats 8000000 in
set_option maxRecDepth 100000 in
theorem law_any (al : Bool) (k : Int) (h0 : 0 ≤ k) (h1 : k ≤ 255) (w : World) : Calls Tryd.prog 7 #[.bool al, .int .u8 k] w (Yes w) := by
  cases al with
  | true =>
    obtain ⟨k2, t2, h6, hk2⟩ := six3 k h0
    have hb : ∀ j, j < 3 → (w.alloc (.cells #[.int .u8 4, .int .u8 0, .int .u8 (6 + k % 3)] 5)).cell? ⟨w.heap.size, j, none⟩ = some (.int .u8 (fst3 4 0 (6 + k % 3) j)) := fun j hj => by
      rw [blk_cell (blk_new w (.cells #[.int .u8 4, .int .u8 0, .int .u8 (6 + k % 3)] 5)) j]
      match j, hj with
      | 0, _ => rfl
      | 1, _ => rfl
      | 2, _ => rfl
    have hs : ∀ j, j < 3 → Six (fst3 4 0 (6 + k % 3) j) (fst3 14 31 k2 j) (txt3 ⟨#[42]⟩ ⟨#[115]⟩ t2 j) := fun j hj => by
      match j, hj with
      | 0, _ => exact .inr (.inl ⟨rfl, rfl, rfl⟩)
      | 1, _ => exact .inr (.inr (.inl ⟨rfl, rfl, rfl⟩))
      | 2, _ => exact h6
    have CT := Aside0.mk (toks_any _ w.heap.size 3 _ _ _ hb hs)
    have HK2 := Aside0.mk hk2
    have HB0 := Aside0.mk ((Below.refl w.heap.size w).alloc (Nat.le_refl _) (.cells #[.int .u8 4, .int .u8 0, .int .u8 (6 + k % 3)] 5))
    clear hb hs h6 hk2
    go_enter Tryd.func7, Tryd.ntmps7
    go_wp2_with fail
    refine CT.out.mono ?_
    rintro e w1 ⟨g, cap, rfl, hown, hb1⟩
    have hle : 3 ≤ cap := own_le hown
    have CD := Aside0.mk (alias_door w1 g cap _ _ (tokRow_of hown 2 (by omega)) rfl rfl)
    have HB1 := Aside0.mk (HB0.out.trans (hb1.mono HB0.out.size))
    clear hown hb1
    go_wp2_with fail
    refine CD.out.mono ?_
    rintro e w2 ⟨nr, v, rfl, hout, hb2⟩
    unfold fault0
    obtain ⟨hf, hp⟩ := alias_flat hout
    have HP := Aside0.mk hp
    have HF := Aside0.mk hf
    have HB2 := Aside0.mk (HB1.out.trans (hb2.mono HB1.out.size))
    clear hout hb2 hf hp
    go_wp2_with fail
    refine (HF.out _ ((Below.refl _ _).alloc (Nat.le_refl _) _)).mono ?_
    rintro e w3 ⟨v', rfl, hown3, hnn, hb3⟩
    obtain ⟨g3, c3, rfl⟩ : ∃ g3 c3, v' = .slice (some ⟨g3, 0, none⟩) 2 c3 := by
      rcases hown3.2 with ⟨_, h⟩ | ⟨g3, c3, cur, h, _⟩
      · simp at h
      · exact ⟨g3, c3, h⟩
    have CC := Aside0.mk (counted_any w3 _ g3 2 c3 (by omega) hown3)
    have hblk := blk_below (blk_new w2 (.cells #[.int .i64 0, .int .i64 0, .int .i64 0, .int .i64 0, .int .i64 0, .int .i64 0] 45)) hb3
    have x0 := blk_cell hblk 0
    simp only [List.getElem?_toArray, List.getElem?_cons_succ, List.getElem?_cons_zero] at x0
    have HB3 := Aside0.mk (((Below.refl w2.heap.size w2).alloc (Nat.le_refl _) (.cells #[.int .i64 0, .int .i64 0, .int .i64 0, .int .i64 0, .int .i64 0, .int .i64 0] 45)).trans (hb3.mono (by simp)))
    clear hown3 hnn hb3 hblk
    go_wp2_with fail
    refine CC.out.mono ?_
    rintro e w4 ⟨rfl, rfl⟩
    go_wp2_with fail
    refine (HP.out _ HB3.out).mono ?_
    rintro e w4 ⟨rfl, hb4⟩
    have HB4 := Aside0.mk hb4
    clear hb4
    go_wp2_with fail
    go_ret
    have hq := HB2.out.trans (HB3.out.mono HB2.out.size)
    exact ⟨rfl, hq.trans (HB4.out.mono hq.size)⟩
  | false =>
    obtain ⟨k2, t2, h6, hk2⟩ := six3 k h0
    have hb : ∀ j, j < 3 → (w.alloc (.cells #[.int .u8 3, .int .u8 0, .int .u8 (6 + k % 3)] 5)).cell? ⟨w.heap.size, j, none⟩ = some (.int .u8 (fst3 3 0 (6 + k % 3) j)) := fun j hj => by
      rw [blk_cell (blk_new w (.cells #[.int .u8 3, .int .u8 0, .int .u8 (6 + k % 3)] 5)) j]
      match j, hj with
      | 0, _ => rfl
      | 1, _ => rfl
      | 2, _ => rfl
    have hs : ∀ j, j < 3 → Six (fst3 3 0 (6 + k % 3) j) (fst3 13 31 k2 j) (txt3 ⟨#[38]⟩ ⟨#[115]⟩ t2 j) := fun j hj => by
      match j, hj with
      | 0, _ => exact .inl ⟨rfl, rfl, rfl⟩
      | 1, _ => exact .inr (.inr (.inl ⟨rfl, rfl, rfl⟩))
      | 2, _ => exact h6
    have CT := Aside0.mk (toks_any _ w.heap.size 3 _ _ _ hb hs)
    have HK2 := Aside0.mk hk2
    have HB0 := Aside0.mk ((Below.refl w.heap.size w).alloc (Nat.le_refl _) (.cells #[.int .u8 3, .int .u8 0, .int .u8 (6 + k % 3)] 5))
    clear hb hs h6 hk2
    go_enter Tryd.func7, Tryd.ntmps7
    go_wp2_with fail
    refine CT.out.mono ?_
    rintro e w1 ⟨g, cap, rfl, hown, hb1⟩
    have hle : 3 ≤ cap := own_le hown
    have CD := Aside0.mk (anchor_door w1 g cap _ _ (tokRow_of hown 3 (by omega)) rfl rfl HK2.out)
    have HB1 := Aside0.mk (HB0.out.trans (hb1.mono HB0.out.size))
    clear hown hb1
    go_wp2_with fail
    refine CD.out.mono ?_
    rintro e w2 ⟨nr, v, rfl, hout, hb2⟩
    unfold fault0
    obtain ⟨hf, hp⟩ := anchor_flat hout
    have HP := Aside0.mk hp
    have HF := Aside0.mk hf
    have HB2 := Aside0.mk (HB1.out.trans (hb2.mono HB1.out.size))
    clear hout hb2 hf hp
    go_wp2_with fail
    refine (HF.out _ ((Below.refl _ _).alloc (Nat.le_refl _) _)).mono ?_
    rintro e w3 ⟨v', rfl, hown3, hnn, hb3⟩
    obtain ⟨g3, c3, rfl⟩ : ∃ g3 c3, v' = .slice (some ⟨g3, 0, none⟩) 3 c3 := by
      rcases hown3.2 with ⟨_, h⟩ | ⟨g3, c3, cur, h, _⟩
      · simp at h
      · exact ⟨g3, c3, h⟩
    have CC := Aside0.mk (counted_any w3 _ g3 3 c3 (by omega) hown3)
    have hblk := blk_below (blk_new w2 (.cells #[.int .i64 0, .int .i64 0, .int .i64 0, .int .i64 0, .int .i64 0, .int .i64 0] 45)) hb3
    have x0 := blk_cell hblk 0
    simp only [List.getElem?_toArray, List.getElem?_cons_succ, List.getElem?_cons_zero] at x0
    have HB3 := Aside0.mk (((Below.refl w2.heap.size w2).alloc (Nat.le_refl _) (.cells #[.int .i64 0, .int .i64 0, .int .i64 0, .int .i64 0, .int .i64 0, .int .i64 0] 45)).trans (hb3.mono (by simp)))
    clear hown3 hnn hb3 hblk
    go_wp2_with fail
    refine CC.out.mono ?_
    rintro e w4 ⟨rfl, rfl⟩
    go_wp2_with fail
    refine (HP.out _ HB3.out).mono ?_
    rintro e w4 ⟨rfl, hb4⟩
    have HB4 := Aside0.mk hb4
    clear hb4
    go_wp2_with fail
    go_ret
    have hq := HB2.out.trans (HB3.out.mono HB2.out.size)
    exact ⟨rfl, hq.trans (HB4.out.mono hq.size)⟩
end Go.Proofs.YtmildhkegpmacaaDoor.GroupLaw
