/- Parts of the proof of FnPartLines, one behind the other: ScStep, ScHex, ScTrim, TrimShelf. Each part says ahead of itself what it proves. -/
import Derived.Test.YtgglhfbjbddjjaaDoorPkFnPartLines10
import Derived.Test.YtgglhfbjbddjjaaDoorPkFnPartLines1
import Derived.Shelf.GgClosure.StringsTrimFunc
import Derived.Test.YtgglhfbjbddjjaaDoorProg

/- The scanner's small steps: progressColumn, progressLine, isNewLineChar, pos. -/
namespace Go.Proofs.YtgglhfbjbddjjaaDoor.ScStep
open Go.RowKit Go.Proofs.YtgglhfbjbddjjaaDoorW.PrintWords Go.Proofs.YtgglhfbjbddjjaaDoorW.PrintMore Go.Proofs.YtgglhfbjbddjjaaDoor.Utf Go.Proofs.YtgglhfbjbddjjaaDoor.Runes Go.Proofs.YtgglhfbjbddjjaaDoor.ScBase
set_option linter.unusedVariables false
set_option linter.unusedSimpArgs false
attribute [local go_sem ↓] Go.wp_at_zero Go.wp_at_succ

def XS (S C : Nat) (k : Nat) : Prop := k = S ∨ k = C
theorem i64_small {n : Int} (h0 : -9223372036854775808 ≤ n) (h1 : n ≤ 9223372036854775807) : IntKind.i64.wrap n = n := by
  rw [IntKind.wrap_i64]; omega

/-- Context.progress. -/
theorem cprog_any (w : World) (C : Nat) (ix n : Int) (src O : Value) (hC : CX w C ix src O) (h0 : 0 ≤ ix) (h1 : ix ≤ 1000000) (h2 : 0 ≤ n) (h3 : n ≤ 1000) :
    Calls Tryd.prog 52 #[.pointer (some ⟨C, 0, none⟩), .int .i64 n] w fun e w' => e = .returned (.tuple #[]) ∧ CX w' C (ix + n) src O ∧ Fr w w' (fun k => k = C) ∧ w'.heap.size = w.heap.size := by
  obtain ⟨sz, a, b, y1, y2, y3, hc⟩ := hC
  have z0 := blk_cell hc 0
  have f0 := blk_frozen hc 0
  simp only [List.getElem?_toArray, List.getElem?_cons_zero] at z0
  have HC := Aside0.mk hc
  clear hc
  go_enter Tryd.func52, Tryd.ntmps52
  go_wp2_with fail
  go_end0
  refine ⟨rfl, ⟨sz, a, b, y1, y2, y3, by simpa using blk_set HC.out 0 (.int .i64 (ix + n))⟩, (Fr.refl w (fun k => k = C)).set (p := ⟨C, 0, none⟩) rfl _, by simp⟩
def ProgP (w : World) (S C : Nat) (src : Value) (p : Int) (ix : Int) (csrc O : Value) (e : Ending) (w' : World) : Prop :=
  e = .returned (.tuple #[]) ∧ SC w' S src p ∧ CX w' C ix csrc O ∧ Fr w w' (XS S C) ∧ w'.heap.size = w.heap.size
theorem setCell_other (w : World) (S C i : Nat) (u : Value) (h : S ≠ C) : (w.setCell ⟨S, i, none⟩ u).heap[C]? = w.heap[C]? := Below.heap_setCell w _ u C (fun e => h e.symm)
set_option maxRecDepth 100000 in
/-- Scanner.progress. -/
theorem sprog_any (w : World) (S C : Nat) (src : Value) (p ix n : Int) (csrc O : Value) (hS : SC w S src p) (hC : CX w C ix csrc O) (hne : S ≠ C) (h0 : 0 ≤ ix) (h1 : ix ≤ 1000000) (h2 : 0 ≤ n) (h3 : n ≤ 1000) (p0 : 0 ≤ p) (p1 : p ≤ 1000000) :
    Calls Tryd.prog 48 #[.pointer (some ⟨S, 0, none⟩), .pointer (some ⟨C, 0, none⟩), .int .i64 n] w (ProgP w S C src (p + n) (ix + n) csrc O) := by
  have CP := Aside0.mk (cprog_any w C ix n csrc O hC h0 h1 h2 h3)
  obtain ⟨sz, ln, col, off, ldc, ind, pli, lvl, b1, b2, b3, b4, y1, y2, y3, y4, hs⟩ := hS
  have HS := Aside0.mk hs
  clear hs hC
  go_enter Tryd.func48, Tryd.ntmps48
  go_wp2_with fail
  refine CP.out.mono ?_
  rintro e w1 ⟨rfl, hC, hF, hz⟩
  have hs := hF.blk HS.out hne
  have x1 := blk_cell hs 1
  have f1 := blk_frozen hs 1
  simp only [List.getElem?_toArray, List.getElem?_cons_succ, List.getElem?_cons_zero] at x1
  have HS1 := Aside0.mk hs
  have HF := Aside0.mk hF
  have HC1 := Aside0.mk hC
  have HZ := Aside0.mk hz
  clear hs hC hF hz
  go_wp2_with fail
  go_end0
  refine ⟨rfl, ⟨sz, ln, col, off, ldc, ind, pli, lvl, b1, b2, b3, b4, y1, y2, y3, y4, by simpa using blk_set HS1.out 1 (.int .i64 (p + n))⟩, HC1.out.blk (setCell_other _ _ _ _ _ hne), ?_, ?_⟩
  · exact ((Fr.refl w (XS S C)).trans HF.out (fun y _ h => .inr h)).set (.inl rfl) _
  · simpa using HZ.out
set_option maxRecDepth 100000 in
/-- progressColumn: so many runes on. -/
theorem column_any (w : World) (S C : Nat) (src : Value) (p ix n : Int) (csrc O : Value) (hS : SC w S src p) (hC : CX w C ix csrc O) (hne : S ≠ C) (h0 : 0 ≤ ix) (h1 : ix ≤ 1000000) (h2 : 0 ≤ n) (h3 : n ≤ 1000) (p0 : 0 ≤ p) (p1 : p ≤ 1000000) :
    Calls Tryd.prog 37 #[.pointer (some ⟨S, 0, none⟩), .pointer (some ⟨C, 0, none⟩), .int .i64 n] w (ProgP w S C src (p + n) (ix + n) csrc O) := by
  obtain ⟨sz, ln, col, off, ldc, ind, pli, lvl, b1, b2, b3, b4, y1, y2, y3, y4, hs⟩ := hS
  have x4 := blk_cell hs 4
  have f4 := blk_frozen hs 4
  have x5 := blk_cell hs 5
  have f5 := blk_frozen hs 5
  simp only [List.getElem?_toArray, List.getElem?_cons_succ, List.getElem?_cons_zero] at x4 x5
  have h4 : ∀ u4 u5 : Int, SC ((w.setCell ⟨S, 4, none⟩ (.int .i64 u4)).setCell ⟨S, 5, none⟩ (.int .i64 u5)) S src p := fun u4 u5 =>
    ⟨sz, ln, u4, u5, ldc, ind, pli, lvl, b1, b2, b3, b4, y1, y2, y3, y4, by simpa using blk_set (blk_set hs 4 (.int .i64 u4)) 5 (.int .i64 u5)⟩
  have CP := Aside0.mk (fun u4 u5 : Int => sprog_any ((w.setCell ⟨S, 4, none⟩ (.int .i64 u4)).setCell ⟨S, 5, none⟩ (.int .i64 u5)) S C src p ix n csrc O (h4 u4 u5) (hC.blk (by rw [setCell_other _ _ _ _ _ hne, setCell_other _ _ _ _ _ hne])) hne h0 h1 h2 h3 p0 p1)
  clear hs hC h4
  go_enter Tryd.func37, Tryd.ntmps37
  go_wp2_with (go_at_call 48; refine (CP.out _ _).mono ?_; rintro e w1 ⟨rfl, hS1, hC1, hF1, hz1⟩)
  all_goals
    go_end0
    exact ⟨rfl, hS1, hC1, (((Fr.refl w _).set (.inl rfl) _).set (.inl rfl) _).trans hF1 (fun y _ h => h), by simpa using hz1⟩
set_option maxHeartbeats 1000000 in
set_option maxRecDepth 100000 in
/-- progressLine: one rune on. -/
theorem line_any (w : World) (S C : Nat) (src : Value) (p ix : Int) (csrc O : Value) (hS : SC w S src p) (hC : CX w C ix csrc O) (hne : S ≠ C) (h0 : 0 ≤ ix) (h1 : ix ≤ 1000000) (p0 : 0 ≤ p) (p1 : p ≤ 1000000) :
    Calls Tryd.prog 39 #[.pointer (some ⟨S, 0, none⟩), .pointer (some ⟨C, 0, none⟩)] w (ProgP w S C src (p + 1) (ix + 1) csrc O) := by
  obtain ⟨sz, ln, col, off, ldc, ind, pli, lvl, b1, b2, b3, b4, y1, y2, y3, y4, hs⟩ := hS
  have x3 := blk_cell hs 3
  have f3 := blk_frozen hs 3
  have x4 := blk_cell hs 4
  have f4 := blk_frozen hs 4
  have x5 := blk_cell hs 5
  have f5 := blk_frozen hs 5
  have x7 := blk_cell hs 7
  have f7 := blk_frozen hs 7
  have x8 := blk_cell hs 8
  have f8 := blk_frozen hs 8
  have x10 := blk_cell hs 10
  have f10 := blk_frozen hs 10
  have x11 := blk_cell hs 11
  have f11 := blk_frozen hs 11
  have x12 := blk_cell hs 12
  have f12 := blk_frozen hs 12
  have x13 := blk_cell hs 13
  have f13 := blk_frozen hs 13
  simp only [List.getElem?_toArray, List.getElem?_cons_succ, List.getElem?_cons_zero] at x3 x4 x5 x7 x8 x10 x11 x12 x13
  have CP := Aside0.mk (fun (W : World) (hW : SC W S src p) (hW2 : CX W C ix csrc O) => sprog_any W S C src p ix 1 csrc O hW hW2 hne h0 h1 (by omega) (by omega) p0 p1)
  have HS := Aside0.mk hs
  have HC := Aside0.mk hC
  have HNE := Aside0.mk hne
  clear hs hC
  go_enter Tryd.func39, Tryd.ntmps39
  go_wp2_with fail
  refine (CP.out _ ?s ?c).mono ?_
  case s =>
    refine ⟨sz, wrap64 (ln + 1), 1, wrap64 (off + 1), ldc, 0, ind, lvl, true, false, false, false, y1, y2, y3, y4, ?_⟩
    rw [blk_set (blk_set (blk_set (blk_set (blk_set (blk_set (blk_set (blk_set (blk_set HS.out 8 _) 4 _) 3 _) 5 _) 7 _) 10 _) 11 _) 12 _) 13 _]
    simp only [List.setIfInBounds_toArray, List.set_cons_zero, List.set_cons_succ]
  case c => exact HC.out.blk (by repeat rw [setCell_other _ _ _ _ _ HNE.out])
  rintro e w1 ⟨rfl, hS1, hC1, hF1, hz1⟩
  go_wp2_with fail
  go_end0
  exact ⟨rfl, hS1, hC1, (((((((((((Fr.refl w _).set (.inl rfl) _).set (.inl rfl) _).set (.inl rfl) _).set (.inl rfl) _).set (.inl rfl) _).set (.inl rfl) _).set (.inl rfl) _).set (.inl rfl) _).set (.inl rfl) _)).trans hF1 (fun y _ h => h), by simpa using hz1⟩
theorem newline_any (w : World) (S : Nat) (c : Int) (b : Bool) (hb : b = decide (c = 10 ∨ c = 13)) : Calls Tryd.prog 38 #[.pointer (some ⟨S, 0, none⟩), .int .i32 c] w fun e w' => e = .returned (.bool b) ∧ w = w' := by
  subst hb
  by_cases h1 : c = 10
  · subst h1
    go_enter Tryd.func38, Tryd.ntmps38
    go_wp2_with fail
    go_ret
    exact ⟨rfl, rfl⟩
  · have e1 : (c == 10) = false := by simpa using h1
    by_cases h2 : c = 13
    · subst h2
      go_enter Tryd.func38, Tryd.ntmps38
      go_wp2_with fail
      go_ret
      exact ⟨rfl, rfl⟩
    · have e2 : (c == 13) = false := by simpa using h2
      rw [decide_eq_false (by omega)]
      go_enter Tryd.func38, Tryd.ntmps38
      go_wp2_with fail
      go_ret
      exact ⟨rfl, rfl⟩
end Go.Proofs.YtgglhfbjbddjjaaDoor.ScStep

/- The scanner's hex digits; pos; the two makers of quoted tokens. -/
namespace Go.Proofs.YtgglhfbjbddjjaaDoor.ScHex
open Go.RowKit Go.Proofs.YtgglhfbjbddjjaaDoorW.PrintWords Go.Proofs.YtgglhfbjbddjjaaDoorW.PrintMore Go.Proofs.YtgglhfbjbddjjaaDoor.Utf Go.Proofs.YtgglhfbjbddjjaaDoor.Runes Go.Proofs.YtgglhfbjbddjjaaDoor.ScBase Go.Proofs.YtgglhfbjbddjjaaDoor.ScStep Go.Proofs.YtgglhfbjbddjjaaDoor.LnPure
set_option linter.unusedVariables false
set_option linter.unusedSimpArgs false
attribute [local go_sem ↓] Go.wp_at_zero Go.wp_at_succ

theorem hexToInt_any (c d : Int) (h : hx c = some d) (w : World) : Calls Tryd.prog 50 #[.int .i32 c] w fun e w' => e = .returned (.int .i64 d) ∧ w = w' := by
  unfold hx at h
  by_cases a : 48 ≤ c ∧ c ≤ 57
  · rw [if_pos a] at h
    injection h with h
    subst h
    obtain ⟨a1, a2⟩ := a
    have g1 : decide (65 ≤ c) = false := decide_eq_false (by omega)
    have g2 : decide (97 ≤ c) = false := decide_eq_false (by omega)
    have n1 : ¬ 65 ≤ c := by omega
    have n2 : ¬ 97 ≤ c := by omega
    go_enter Tryd.func50, Tryd.ntmps50
    go_wp2_with fail
    go_ret
    exact ⟨rfl, rfl⟩
  · rw [if_neg a] at h
    by_cases b : 97 ≤ c ∧ c ≤ 102
    · rw [if_pos b] at h
      injection h with h
      have e : c - 97 + 10 = d := by omega
      clear h
      obtain ⟨b1, b2⟩ := b
      have g1 : decide (65 ≤ c) = true := decide_eq_true (by omega)
      have g2 : decide (c ≤ 70) = false := decide_eq_false (by omega)
      have n1 : 65 ≤ c := by omega
      have n2 : ¬ c ≤ 70 := by omega
      clear a
      go_enter Tryd.func50, Tryd.ntmps50
      go_wp2_with fail
      go_ret
      exact ⟨rfl, rfl⟩
    · rw [if_neg b] at h
      by_cases f : 65 ≤ c ∧ c ≤ 70
      · rw [if_pos f] at h
        injection h with h
        have e : c - 65 + 10 = d := by omega
        clear h a b
        obtain ⟨f1, f2⟩ := f
        go_enter Tryd.func50, Tryd.ntmps50
        go_wp2_with fail
        go_ret
        exact ⟨rfl, rfl⟩
      · rw [if_neg f] at h; cases h
/-- A position in memory. -/
def PosB (w : World) (q : Nat) : Prop := ∃ a b c d f : Int, w.heap[q]? = some (.cells #[.int .i64 a, .int .i64 b, .int .i64 c, .int .i64 d, .int .i64 f] 97 (0, 0))
set_option maxHeartbeats 1000000 in
set_option maxRecDepth 100000 in
theorem pos_any (w : World) (S : Nat) (src : Value) (p : Int) (hS : SC w S src p) : Calls Tryd.prog 36 #[.pointer (some ⟨S, 0, none⟩)] w fun e w' => ∃ q, e = .returned (.pointer (some ⟨q, 0, none⟩)) ∧ w.heap.size ≤ q ∧ PosB w' q ∧ Below w.heap.size w w' := by
  obtain ⟨sz, ln, col, off, ldc, ind, pli, lvl, b1, b2, b3, b4, y1, y2, y3, y4, hs⟩ := hS
  have x3 := blk_cell hs 3
  have x4 := blk_cell hs 4
  have x5 := blk_cell hs 5
  have x7 := blk_cell hs 7
  have x9 := blk_cell hs 9
  simp only [List.getElem?_toArray, List.getElem?_cons_succ, List.getElem?_cons_zero] at x3 x4 x5 x7 x9
  clear hs
  go_enter Tryd.func36, Tryd.ntmps36
  go_wp2_with fail
  go_region_held3 (fun w' => w'.cell? ⟨S, 3, none⟩ = some (.int .i64 ln) ∧ w'.cell? ⟨S, 4, none⟩ = some (.int .i64 col) ∧ w'.cell? ⟨S, 5, none⟩ = some (.int .i64 off) ∧ w'.cell? ⟨S, 7, none⟩ = some (.int .i64 ind) ∧ w'.cell? ⟨S, 9, none⟩ = some (.int .i64 lvl)) (go_keep) (fail)
  all_goals
    go_wp2_with fail
    go_ret
    exact ⟨_, rfl, Nat.le_refl _, ⟨ln, col, off, ind, lvl, blk_new w _⟩, ((Below.refl _ w).alloc (Nat.le_refl _) _).drew⟩
def TokB (w : World) (t : Nat) (ty : Int) (v o : ByteArray) (q : Nat) : Prop := w.heap[t]? = some (.cells #[.int .i64 ty, .int .i64 0, .int .i64 6, .string v, .string o, .string ⟨#[]⟩, .pointer (some ⟨q, 0, none⟩), .pointer none, .pointer none] 71 (0, 0))
theorem double_tok (v o : ByteArray) (q : Nat) (w : World) : Calls Tryd.prog 44 #[.string v, .string o, .pointer (some ⟨q, 0, none⟩)] w fun e w' => ∃ t, e = .returned (.pointer (some ⟨t, 0, none⟩)) ∧ w.heap.size ≤ t ∧ TokB w' t 19 v o q ∧ Below w.heap.size w w' := by
  go_enter Tryd.func44, Tryd.ntmps44
  go_wp2_with fail
  go_ret
  exact ⟨_, rfl, Nat.le_refl _, blk_new w _, (Below.refl _ w).alloc (Nat.le_refl _) _⟩
theorem single_tok (v o : ByteArray) (q : Nat) (w : World) : Calls Tryd.prog 45 #[.string v, .string o, .pointer (some ⟨q, 0, none⟩)] w fun e w' => ∃ t, e = .returned (.pointer (some ⟨t, 0, none⟩)) ∧ w.heap.size ≤ t ∧ TokB w' t 18 v o q ∧ Below w.heap.size w w' := by
  go_enter Tryd.func45, Tryd.ntmps45
  go_wp2_with fail
  go_ret
  exact ⟨_, rfl, Nat.le_refl _, blk_new w _, (Below.refl _ w).alloc (Nat.le_refl _) _⟩
end Go.Proofs.YtgglhfbjbddjjaaDoor.ScHex

/- Plain: a text of four runes whose first three are points or dashes and whose fourth is no white keeps its length under a trim of white at its end. -/
namespace Go.Proofs.YtgglhfbjbddjjaaDoor.ScTrim
open Go Go.Lib Go.Proofs.YtgglhfbjbddjjaaDoor.Utf
set_option linter.unusedVariables false
set_option linter.unusedSimpArgs false

/-- White, for the scanner's look at a marker. -/
def wh (r : Nat) : Bool := r == 32 || r == 9 || r == 10 || r == 13
theorem start_lead (y : UInt8) (h : 192 ≤ y.toNat) : runeStartB y = true := by
  have := y.toNat_lt
  unfold runeStartB
  simp only [bne_iff_ne, ne_eq]; omega
theorem start_cont (y : UInt8) (h : 128 ≤ y.toNat ∧ y.toNat < 192) : runeStartB y = false := by
  unfold runeStartB
  simp only [bne_eq_false_iff_eq]; omega
theorem lastStart_enc (a b c : UInt8) (x : Int) (hs : Scalar x) (hx : 127 < x) : lastStart ([a, b, c] ++ encodeRune x) = 3 ∧ 128 ≤ ((([a, b, c] ++ encodeRune x).getD (([a, b, c] ++ encodeRune x).length - 1) 0)).toNat := by
  obtain ⟨h0, h1⟩ := hs
  by_cases b1 : x ≤ 2047
  · have e : encodeRune x = [(192 + x / 64).toNat.toUInt8, (128 + x % 64).toNat.toUInt8] := by unfold encodeRune; rw [encodeRuneZ_two (by omega) b1]; rfl
    have k0 := toByte' (192 + x / 64) (by omega) (by omega)
    have k1 := toByte' (128 + x % 64) (by omega) (by omega)
    rw [e]
    refine ⟨?_, ?_⟩
    · have s0 := start_lead (192 + x / 64).toNat.toUInt8 (by omega)
      simp [lastStart, s0]
    · simp only [List.cons_append, List.nil_append, List.length_cons, List.length_nil, List.getD_cons_succ, List.getD_cons_zero]
      simp [List.getD]; omega
  · by_cases c1 : x ≤ 65535
    · have e : encodeRune x = [(224 + x / 4096).toNat.toUInt8, (128 + x / 64 % 64).toNat.toUInt8, (128 + x % 64).toNat.toUInt8] := by unfold encodeRune; rw [encodeRuneZ_three (by omega)]; rfl
      have k0 := toByte' (224 + x / 4096) (by omega) (by omega)
      have k1 := toByte' (128 + x / 64 % 64) (by omega) (by omega)
      have k2 := toByte' (128 + x % 64) (by omega) (by omega)
      rw [e]
      refine ⟨?_, ?_⟩
      · have s0 := start_lead (224 + x / 4096).toNat.toUInt8 (by omega)
        have s1 := start_cont (128 + x / 64 % 64).toNat.toUInt8 (by omega)
        simp [lastStart, s0, s1]
      · simp [List.getD]; omega
    · have e : encodeRune x = [(240 + x / 262144).toNat.toUInt8, (128 + x / 4096 % 64).toNat.toUInt8, (128 + x / 64 % 64).toNat.toUInt8, (128 + x % 64).toNat.toUInt8] := by unfold encodeRune; rw [encodeRuneZ_four (by omega) (by omega)]; rfl
      have k0 := toByte' (240 + x / 262144) (by omega) (by omega)
      have k1 := toByte' (128 + x / 4096 % 64) (by omega) (by omega)
      have k2 := toByte' (128 + x / 64 % 64) (by omega) (by omega)
      have k3 := toByte' (128 + x % 64) (by omega) (by omega)
      rw [e]
      refine ⟨?_, ?_⟩
      · have s0 := start_lead (240 + x / 262144).toNat.toUInt8 (by omega)
        have s1 := start_cont (128 + x / 4096 % 64).toNat.toUInt8 (by omega)
        have s2 := start_cont (128 + x / 64 % 64).toNat.toUInt8 (by omega)
        simp [lastStart, s0, s1, s2]
      · simp [List.getD]; omega
theorem decodeLast_enc (a b c : UInt8) (x : Int) (hs : Scalar x) : decodeLastL ([a, b, c] ++ encodeRune x) = (x.toNat, (encodeRune x).length) := by
  unfold decodeLastL
  rw [if_neg (by simp)]
  by_cases h : x ≤ 127
  · have e := encodeRune_ascii x hs.1 h
    have k := toByte' x hs.1 (by omega)
    rw [e]
    simp only [List.cons_append, List.nil_append, List.length_cons, List.length_nil]
    have g : ([a, b, c, x.toNat.toUInt8].getD (0 + 1 + 1 + 1 + 1 - 1) 0) = x.toNat.toUInt8 := rfl
    rw [g, if_pos (by omega), k]
  · obtain ⟨h1, h2⟩ := lastStart_enc a b c x hs (by omega)
    rw [if_neg (by omega), h1]
    have hd : ([a, b, c] ++ encodeRune x).drop 3 = encodeRune x ++ [] := by simp
    simp only [hd]
    rw [decode_encode x hs []]
    simp
    intro h
    omega
theorem extract_size (s : ByteArray) (e : Nat) (h : s.size ≤ e) : s.extract 0 e = s := by
  refine eq_of_B ?_
  show (s.extract 0 e).data.toList = _
  rw [Lib.extract_data]
  simp only [List.drop_zero, Nat.sub_zero]
  rw [List.take_of_length_le (by rw [B_length]; exact h)]
theorem trim_keeps (a b c : UInt8) (x : Int) (hs : Scalar x) (hw : wh x.toNat = false) (s : ByteArray) (hB : B s = [a, b, c] ++ encodeRune x) : trimRightF wh s = s := by
  have hlen := encodeRune_length x
  have hsz : s.size = 3 + (encodeRune x).length := by rw [← B_length, hB]; simp; omega
  have hI : lastIdxFunc wh false s = 3 := by
    unfold lastIdxFunc
    obtain ⟨f, hf⟩ : ∃ f, s.size = f + 1 := ⟨s.size - 1, by omega⟩
    rw [hf, lastIdxFuncFrom, if_pos (by omega), ← hf]
    have ht : s.data.toList.take s.size = [a, b, c] ++ encodeRune x := by
      rw [← hB]; exact List.take_of_length_le (by rw [B_length]; exact Nat.le_refl _)
    rw [ht, decodeLast_enc a b c x hs, if_pos hw, hsz]
    simp
  unfold trimRightF rightEndF
  rw [hI, if_pos (by decide)]
  refine extract_size s _ ?_
  have hx : s.extract 3 s.size = ba (encodeRune x) := by
    refine eq_of_B ?_
    show (s.extract 3 s.size).data.toList = _
    rw [Lib.extract_data, show s.data.toList = [a, b, c] ++ encodeRune x from hB, hsz]
    simp
    rfl
  have hd : (decodeGoB (s.extract (3 : Int).toNat s.size)).2 = (encodeRune x).length := by
    show (decodeGoB (s.extract 3 s.size)).2 = _
    rw [hx]
    unfold decodeGoB
    rw [if_neg (by rw [ba_size]; omega)]
    have := decode_encode x hs []
    rw [List.append_nil] at this
    unfold decodeL at this
    exact congrArg Prod.snd this
  rw [hd, hsz]
  show 3 + _ ≤ 3 + _
  exact Nat.le_refl _
/-- The first rune, by the first byte. -/
theorem first_rune {a : Int} {r : List Int} {y : UInt8} {X : List UInt8} (hs : Scalar a) (hz : y.toNat < 128) (h : enc (a :: r) = y :: X) : a = (y.toNat : Int) ∧ enc r = X := by
  have hd := decode_encode a hs (enc r)
  rw [← enc_cons, h] at hd
  have h2 : decodeL (y :: X) = (y.toNat, 1) := by
    rw [decodeL_N]
    unfold decodeN
    simp only [List.getD_cons_zero]
    rw [if_pos hz]
  rw [h2] at hd
  injection hd with h3 h4
  have h0 := hs.1
  have ha : a = (y.toNat : Int) := by omega
  refine ⟨ha, ?_⟩
  rw [enc_cons, encodeRune_ascii a h0 (by omega)] at h
  injection h
/-- The look at a marker: what the text of four runes is after the trim. -/
theorem trim_not (L : List Int) (hs : ∀ r ∈ L, Scalar r) (hl : 4 ≤ L.length) (z : UInt8) (hz : z.toNat < 128) (hm : L.take 3 = [(z.toNat : Int), (z.toNat : Int), (z.toNat : Int)] → ∃ x r, L.drop 3 = x :: r ∧ wh x.toNat = false) : trimRightF wh (ba (enc (L.take 4))) ≠ ba [z, z, z] := by
  match L, hl with
  | a :: b :: c :: x :: r, _ =>
    intro h
    have e4 : (a :: b :: c :: x :: r).take 4 = [a, b, c, x] := by simp
    rw [e4] at h
    have hb : ∃ X, enc [a, b, c, x] = z :: z :: z :: X := by
      have h1 : (ba (enc [a, b, c, x])).extract 0 (rightEndF wh (ba (enc [a, b, c, x]))) = ba [z, z, z] := h
      have h2 : (enc [a, b, c, x]).take (rightEndF wh (ba (enc [a, b, c, x]))) = [z, z, z] := by
        have := congrArg (fun t : ByteArray => t.data.toList) h1
        change ((ba (enc [a, b, c, x])).extract 0 _).data.toList = _ at this
        rw [Lib.extract_data] at this
        simpa [ba] using this
      refine ⟨(enc [a, b, c, x]).drop (rightEndF wh (ba (enc [a, b, c, x]))), ?_⟩
      conv => lhs; rw [← List.take_append_drop (rightEndF wh (ba (enc [a, b, c, x]))) (enc [a, b, c, x]), h2]
      rfl
    obtain ⟨X, hX⟩ := hb
    have sa := hs a (by simp)
    have sb := hs b (by simp)
    have sc := hs c (by simp)
    have sx := hs x (by simp)
    obtain ⟨ha, hX⟩ := first_rune sa hz hX
    obtain ⟨hb, hX⟩ := first_rune sb hz hX
    obtain ⟨hc, hX⟩ := first_rune sc hz hX
    obtain ⟨x', r', hx1, hx2⟩ := hm (by rw [ha, hb, hc]; rfl)
    have : x' = x := by
      have : (a :: b :: c :: x :: r).drop 3 = x :: r := rfl
      rw [this] at hx1
      injection hx1 with h1 _
      exact h1.symm
    subst this
    have hB : B (ba (enc [a, b, c, x'])) = [z, z, z] ++ encodeRune x' := by
      have hzz : encodeRune (z.toNat : Int) = [z] := by
        rw [encodeRune_ascii _ (by omega) (by omega)]
        simp
      rw [B_ba, enc_cons, enc_cons, enc_cons, enc_cons, enc_nil, ha, hb, hc, hzz]
      simp
    rw [trim_keeps z z z x' sx hx2 _ hB] at h
    have hle := encodeRune_length x'
    have hq := congrArg B h
    rw [hB, B_ba] at hq
    have hq2 := congrArg List.length hq
    rw [List.length_append] at hq2
    simp only [List.length_cons, List.length_nil] at hq2
    omega
end Go.Proofs.YtgglhfbjbddjjaaDoor.ScTrim

/-
  DERIVED: THE SHELF's CONTRACTS AT THIS DUMP, IN PLAIN WORDS (tools/lay-plain.mjs out of 'TrydCutt.lean', which tools/lay-shelf.mjs wrote): THE SAME DECLARATIONS UNDER THE SAME NAMES: 'import', 'namespace', 'open', 'def', 'theorem' AND NOTHING ELSE: no command of the shelf's: FOR A HAND-IN. Each laying: the table of numbers ('.._ren') and one theorem, a field a fact of the dump's own or the kernel's comparison; each contract: ONE APPLICATION.
-/
namespace Go.Proofs
open Go.Shelf
def Tryd.laysTrim_ren : Go.Shelf.Ren := ⟨fun | 238 => 53 | 273 => 55 | 197 => 56 | 271 => 57 | 260 => 58 | 120 => 59 | n => n, fun | 9 => 9 | 40 => 44 | 4 => 4 | 3 => 3 | 105 => 104 | 21 => 21 | 5 => 5 | 119 => 75 | 0 => 0 | 46 => 79 | 139 => 78 | 138 => 77 | n => n, fun | 3 => 0 | 4 => 1 | n => n⟩
theorem Tryd.laysTrim : Go.Proofs.Lays.n238 Tryd.prog Tryd.laysTrim_ren := {
  mixed := by kernel_rfl
  f120 := Tryd.func59.trans (congrArg some (by kernel_rfl))
  f197 := Tryd.func56.trans (congrArg some (by kernel_rfl))
  f238 := Tryd.func53.trans (congrArg some (by kernel_rfl))
  f260 := Tryd.func58.trans (congrArg some (by kernel_rfl))
  f271 := Tryd.func57.trans (congrArg some (by kernel_rfl))
  f273 := Tryd.func55.trans (congrArg some (by kernel_rfl))
  t0 := Tryd.underlying0
  a0 := Tryd.isAgg0
  z0 := Tryd.sizeOf0
  v0 := Tryd.zeroValue0
  t3 := Tryd.underlying3
  a3 := Tryd.isAgg3
  z3 := Tryd.sizeOf3
  v3 := Tryd.zeroValue3
  t4 := Tryd.underlying4
  a4 := Tryd.isAgg4
  z4 := Tryd.sizeOf4
  v4 := Tryd.zeroValue4
  t5 := Tryd.underlying5
  a5 := Tryd.isAgg5
  z5 := Tryd.sizeOf5
  v5 := Tryd.zeroValue5
  t9 := Tryd.underlying9
  a9 := Tryd.isAgg9
  z9 := Tryd.sizeOf9
  v9 := Tryd.zeroValue9
  t21 := Tryd.underlying21
  a21 := Tryd.isAgg21
  z21 := Tryd.sizeOf21
  v21 := Tryd.zeroValue21
  t40 := Tryd.underlying44
  a40 := Tryd.isAgg44
  z40 := Tryd.sizeOf44
  v40 := Tryd.zeroValue44
  t46 := Tryd.underlying79
  a46 := Tryd.isAgg79
  z46 := Tryd.sizeOf79
  v46 := Tryd.zeroValue79
  t105 := Tryd.underlying104
  a105 := Tryd.isAgg104
  z105 := Tryd.sizeOf104
  v105 := Tryd.zeroValue104
  t119 := Tryd.underlying75
  a119 := Tryd.isAgg75
  z119 := Tryd.sizeOf75
  t138 := Tryd.underlying77
  a138 := Tryd.isAgg77
  z138 := Tryd.sizeOf77
  v138 := Tryd.zeroValue77
  t139 := Tryd.underlying78
  a139 := Tryd.isAgg78
  z139 := Tryd.sizeOf78
  v139 := Tryd.zeroValue78
  g3 := by kernel_rfl
  g4 := by kernel_rfl }
open Go.RowKit Go.Lib in
theorem Tryd.strings_TrimRightFunc (g : Nat) (lb : Array Value) (eg : ∀ args w, (callFunc g args).run Tryd.prog w = .ok (.enter g args) w) (p : Nat → Bool) (s : ByteArray) (w : World) (hs : s.size ≤ 9223372036854775807) (hT : Lib.Utf8Tabs 0 1 w) (hp : PredAt Tryd.prog g lb encR p w) :
    Calls Tryd.prog 53 #[.string s, .func (.func g) #[] lb] w fun e w' => e = .returned (.string (Lib.trimRightF p s)) ∧ Below w.heap.size w w' := Any.strings_TrimRightFunc Tryd.laysTrim g lb eg p s w hs hT hp
end Go.Proofs
