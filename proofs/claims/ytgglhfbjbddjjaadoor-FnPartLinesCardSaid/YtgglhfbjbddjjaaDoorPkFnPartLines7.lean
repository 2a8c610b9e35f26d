/- Parts of the proof of FnPartLines, one behind the other: LnEsc, U8Shelf, LRunes. Each part says ahead of itself what it proves. -/
import Derived.Test.YtgglhfbjbddjjaaDoorPkFnPartLines5
import Derived.Shelf.Unicode.ValidAny
import Derived.Test.YtgglhfbjbddjjaaDoorProg
import Derived.Test.YtgglhfbjbddjjaaDoorPkFnPartLines1
import Derived.Test.YtgglhfbjbddjjaaDoorPkFnPartLines2
import Derived.WalkKit
import Derived.Deep.LoopGhost
import Derived.Deep.QuietTactic
import Derived.BigQuiet
import Derived.WalkSpells
import Derived.WalkLawsBesides

/- Plain: the reference's escapes, as the printed functions compute them, in the words of LnPure. -/
namespace Go.Proofs.YtgglhfbjbddjjaaDoor.LnEsc
open Go.RowKit Go.Proofs.YtgglhfbjbddjjaaDoorW.PrintWords Go.Proofs.YtgglhfbjbddjjaaDoorW.PrintMore Go.Proofs.YtgglhfbjbddjjaaDoor.PFnPartLines Go.Proofs.YtgglhfbjbddjjaaDoor.LKnown Go.Proofs.YtgglhfbjbddjjaaDoor.LEscape Go.Proofs.YtgglhfbjbddjjaaDoor.Utf Go.Proofs.YtgglhfbjbddjjaaDoor.LnPure
set_option linter.unusedVariables false
set_option linter.unusedSimpArgs false

theorem long_f (c : Int) (h : c ≠ 85) : spec_scLong.f c = some (if c = 120 then 2 else if c = 117 then 4 else 0) := by
  unfold spec_scLong.f
  rw [if_neg (show ¬ c = 85 from h)]
  split
  · rfl
  · split <;> rfl
theorem named_f (k : Nat) (c : Int) (h9 : c ≠ 9) : spec_scNamed.f (k + 3) c = some (match named c with | some x => x | none => -1) := by
  have e9 : (c == 9) = false := by simpa using h9
  unfold spec_scNamed.f named
  by_cases a1 : c = 48
  · subst a1; rfl
  by_cases a2 : c = 97
  · subst a2; rfl
  by_cases a3 : c = 98
  · subst a3; rfl
  by_cases a4 : c = 116
  · subst a4; rfl
  rw [if_neg a1, if_neg a2, if_neg a3, if_neg a4, if_neg a1, if_neg a2, if_neg a3, if_neg a4, e9]
  simp only [spec_scNamed.j0]
  rw [if_neg (by decide)]
  by_cases a5 : c = 110
  · subst a5; rfl
  by_cases a6 : c = 118
  · subst a6; rfl
  by_cases a7 : c = 102
  · subst a7; rfl
  by_cases a8 : c = 114
  · subst a8; rfl
  by_cases a9 : c = 101
  · subst a9; rfl
  rw [if_neg a5, if_neg a6, if_neg a7, if_neg a8, if_neg a9, if_neg a5, if_neg a6, if_neg a7, if_neg a8, if_neg a9]
  by_cases b1 : c = 32
  · subst b1; rfl
  by_cases b2 : c = 34
  · subst b2; rfl
  by_cases b3 : c = 92
  · subst b3; rfl
  rw [if_neg b1, if_neg b2, if_neg b1, if_neg b2, if_neg b3, show (c == 92) = false by simpa using b3]
  simp only [spec_scNamed.j1]
  rw [if_neg (by decide)]
  by_cases b4 : c = 78
  · subst b4; rfl
  by_cases b5 : c = 95
  · subst b5; rfl
  by_cases b6 : c = 76
  · subst b6; rfl
  by_cases b7 : c = 80
  · subst b7; rfl
  rw [if_neg b4, if_neg b5, if_neg b6, if_neg b7, if_neg b4, if_neg b5, if_neg b6, if_neg b7]
theorem ite_some {p : Prop} [Decidable p] {a x : Int} {r : Option Int} (h : (if p then some a else r) = some x) : a = x ∨ r = some x := by
  split at h
  · injection h with h; exact .inl h
  · exact .inr h
theorem named_range {c x : Int} (h : named c = some x) : 0 ≤ x ∧ x ≤ 8233 := by
  unfold named at h
  iterate 16 (replace h := ite_some h; rcases h with h | h; · omega)
  cases h
theorem hx_range {c d : Int} (h : hx c = some d) : 0 ≤ d ∧ d ≤ 15 := by
  unfold hx at h
  repeat' split at h
  all_goals first
    | (injection h with h; omega)
    | cases h
theorem hex_f (k : Nat) (c : Int) (h0 : 0 ≤ c) (h1 : c ≤ 1114111) : spec_scHex.f (k + 2) c = some (match hx c with | some d => d | none => -1) := by
  unfold spec_scHex.f hx
  by_cases a : 48 ≤ c ∧ c ≤ 57
  · obtain ⟨a1, a2⟩ := a
    rw [if_pos (by omega), if_pos ⟨a1, a2⟩, decide_eq_true a2]
    simp only [spec_scHex.j0]
    rw [if_pos (by trivial)]
    congr 1; unfold wrap32; omega
  · have hj : (if c ≥ 48 then spec_scHex.j0 (k + 2) c (decide (c ≤ 57)) else spec_scHex.j0 (k + 2) c false) = spec_scHex.j0 (k + 2) c false := by
      split
      · rw [decide_eq_false (show ¬ c ≤ 57 by omega)]
      · rfl
    rw [hj, if_neg a]
    simp only [spec_scHex.j0]
    rw [if_neg (by decide)]
    by_cases b : 97 ≤ c ∧ c ≤ 102
    · rw [if_pos (by omega), if_pos b, decide_eq_true b.2]
      simp only [spec_scHex.j1]
      rw [if_pos (by trivial)]
      congr 1; unfold wrap32; omega
    · have hj : (if c ≥ 97 then spec_scHex.j1 (k + 1) c (decide (c ≤ 102)) else spec_scHex.j1 (k + 1) c false) = spec_scHex.j1 (k + 1) c false := by
        split
        · rw [decide_eq_false (show ¬ c ≤ 102 by omega)]
        · rfl
      rw [hj, if_neg b]
      simp only [spec_scHex.j1]
      rw [if_neg (by decide)]
      by_cases d : 65 ≤ c ∧ c ≤ 70
      · rw [if_pos (by omega), if_pos (by omega), if_pos d]
        congr 1; show wrap32 (wrap32 (c - 65) + 10) = c - 55; unfold wrap32; omega
      · rw [if_neg d]
        split
        · rw [if_neg (by omega)]
        · rfl
/-- What the digits' loop answers. -/
def hexE (y : Int) : Option Int → Int × Int × Bool
  | none => (0, 0, false)
  | some x => (x, y, decide (x < 55296 ∨ 57343 < x))
theorem hexs_l0 (L : List Int) (hL : L.length ≤ 4) (hc : ∀ c ∈ L, 0 ≤ c ∧ c ≤ 1114111) (x1 x7 : Int) : ∀ (d k j : Nat) (v : Int), L.length - j = d → j ≤ L.length → d + 3 ≤ k → 0 ≤ v → v < ((16 ^ j : Nat) : Int) →
    spec_scEscape.l0 k x1 x7 v L (L.length : Int) (j : Int) = some (hexE (wrap64 ((wrap64 (x1 + 2)) + x7)) (hexs (L.drop j) v))
  | 0, k, j, v, hd, hj, hk, h0, h1 => by
    obtain ⟨k, rfl⟩ : ∃ m, k = m + 1 := ⟨k - 1, by omega⟩
    obtain rfl : j = L.length := by omega
    have hp : 16 ^ L.length ≤ 16 ^ 4 := Nat.pow_le_pow_right (by decide) hL
    have hv : v < 65536 := by
      have : (16 ^ 4 : Nat) = 65536 := by decide
      omega
    simp only [spec_scEscape.l0]
    rw [if_neg (by omega), List.drop_length, if_pos (by omega), show mn v 1114112 = v by unfold mn; rw [if_neg (by omega)], show wrap32 v = v by unfold wrap32; omega]
    simp only [hexs, hexE]
    by_cases a : v < 55296
    · rw [if_pos a, decide_eq_true (Or.inl a)]
    · rw [if_neg a]
      congr 3
      rw [Bool.eq_iff_iff]; simp only [decide_eq_true_eq]; omega
  | d + 1, k, j, v, hd, hj, hk, h0, h1 => by
    obtain ⟨k, rfl⟩ : ∃ m, k = m + 1 := ⟨k - 1, by omega⟩
    have hlt : j < L.length := by omega
    have e : L.drop j = L[j] :: L.drop (j + 1) := List.drop_eq_getElem_cons hlt
    have hr : rd L (j : Int) = L[j] := by simp [rd, hlt]
    have hcj := hc L[j] (List.getElem_mem hlt)
    have hp : 16 ^ j ≤ 16 ^ 4 := Nat.pow_le_pow_right (by decide) (by omega)
    have hv : v < 65536 := by
      have : (16 ^ 4 : Nat) = 65536 := by decide
      omega
    simp only [spec_scEscape.l0]
    obtain ⟨k, rfl⟩ : ∃ m, k = m + 2 := ⟨k - 2, by omega⟩
    rw [if_pos (by omega), if_pos (by omega), if_pos (by omega), hr, hex_f k _ hcj.1 hcj.2, e]
    simp only [Option.bind_some, hexs]
    cases hx1 : hx L[j] with
    | none => rfl
    | some x =>
      have hxr := hx_range hx1
      simp only
      rw [if_neg (by omega), show wrap64 ((wrap64 (v * 16)) + (wrap64 x)) = v * 16 + x by unfold wrap64; omega, show wrap64 ((j : Int) + 1) = ((j + 1 : Nat) : Int) by unfold wrap64; omega]
      have hq : ((16 ^ (j + 1) : Nat) : Int) = ((16 ^ j : Nat) : Int) * 16 := by rw [Nat.pow_succ]; push_cast; rfl
      exact hexs_l0 L hL hc x1 x7 d (k + 2) (j + 1) (v * 16 + x) (by omega) (by omega) (by omega) (by omega) (by rw [hq]; omega)
theorem hexs_range : ∀ (L : List Int) (v x : Int) (P : Nat), 0 ≤ v → v < (P : Int) → hexs L v = some x → 0 ≤ x ∧ x < ((P * 16 ^ L.length : Nat) : Int)
  | [], v, x, P, h0, h1, h => by
    simp only [hexs] at h
    injection h with h
    subst h
    simpa using ⟨h0, h1⟩
  | c :: L, v, x, P, h0, h1, h => by
    simp only [hexs] at h
    split at h
    · cases h
    · rename_i d hd
      have hr := hx_range hd
      have := hexs_range L (v * 16 + d) x (P * 16) (by omega) (by push_cast; omega) h
      rw [List.length_cons, Nat.pow_succ, Nat.mul_comm (16 ^ L.length) 16, ← Nat.mul_assoc]
      exact this
set_option maxHeartbeats 1000000 in
theorem digits_f (l : List Int) (hl : l.length ≤ 65535) (hc : ∀ c ∈ l, Scalar c) (i n : Nat) (hi : i < l.length) (hn : n ≤ 4) (hn1 : 1 ≤ n) : ∃ (x : Int) (y : Int) (ok : Bool), (if (wrap64 (((i + 2 : Nat) : Int) + (n : Int))) > (l.length : Int) then (some (0, 0, false)) else (if 0 ≤ ((i + 2 : Nat) : Int) then (if ((i + 2 : Nat) : Int) ≤ (wrap64 (((i + 2 : Nat) : Int) + (n : Int))) then (if (wrap64 (((i + 2 : Nat) : Int) + (n : Int))) ≤ (l.length : Int) then (spec_scEscape.l0 (l.length + 5) (i : Int) (n : Int) 0 ((l.take ((wrap64 (((i + 2 : Nat) : Int) + (n : Int))) : Int).toNat).drop (((i + 2 : Nat) : Int) : Int).toNat) (((l.take ((wrap64 (((i + 2 : Nat) : Int) + (n : Int))) : Int).toNat).drop (((i + 2 : Nat) : Int) : Int).toNat).length : Int) 0) else (none)) else (none)) else (none))) = some (x, y, ok) ∧ (ok = true → n ≤ (l.drop (i + 2)).length ∧ y = ((i + 2 + n : Nat) : Int) ∧ hexs ((l.drop (i + 2)).take n) 0 = some x ∧ (x < 55296 ∨ 57343 < x) ∧ 0 ≤ x ∧ x < ((16 ^ n : Nat) : Int)) := by
    have hlen : (l.drop (i + 2)).length = l.length - (i + 2) := List.length_drop
    have hw : wrap64 (wrap64 ((i : Int) + 2) + (n : Int)) = ((i + 2 + n : Nat) : Int) := by
      rw [show wrap64 ((i : Int) + 2) = ((i + 2 : Nat) : Int) by unfold wrap64; omega]
      unfold wrap64; omega
    rw [show wrap64 (((i + 2 : Nat) : Int) + (n : Int)) = ((i + 2 + n : Nat) : Int) by unfold wrap64; omega]
    by_cases hb : i + 2 + n ≤ l.length
    · rw [if_neg (by omega), if_pos (by omega), if_pos (by omega), if_pos (by omega)]
      simp only [Int.toNat_natCast]
      have et : (l.take (i + 2 + n)).drop (i + 2) = (l.drop (i + 2)).take n := by rw [List.drop_take]; congr 1; omega
      rw [et]
      have hL : ((l.drop (i + 2)).take n).length = n := by rw [List.length_take, hlen]; omega
      have := hexs_l0 ((l.drop (i + 2)).take n) (by omega) (fun c hcm => by
        have := hc c (List.mem_of_mem_drop (List.mem_of_mem_take hcm))
        unfold Scalar at this; omega) (i : Int) (n : Int) n (l.length + 5) 0 0 (by omega) (by omega) (by omega) (by omega) (by decide)
      rw [show ((0 : Nat) : Int) = 0 from rfl] at this
      rw [this, List.drop_zero, hw]
      cases hh : hexs ((l.drop (i + 2)).take n) 0 with
      | none => exact ⟨0, 0, false, rfl, fun h => by cases h⟩
      | some x =>
        have hxr := hexs_range _ 0 x 1 (by omega) (by omega) hh
        rw [hL, Nat.one_mul] at hxr
        exact ⟨x, _, _, rfl, fun h => ⟨by omega, rfl, rfl, of_decide_eq_true h, hxr⟩⟩
    · rw [if_pos (by omega)]
      exact ⟨0, 0, false, rfl, fun h => by cases h⟩
set_option maxHeartbeats 1000000 in
theorem escape_f (l : List Int) (hl : l.length ≤ 65535) (hc : ∀ c ∈ l, Scalar c) (i : Nat) (hi : i < l.length) (hU : (l.drop (i + 1)).head? ≠ some 85) (h9 : (l.drop (i + 1)).head? ≠ some 9) :
    ∃ (x : Int) (y : Int) (ok : Bool), spec_scEscape.f (l.length + 5) l (i : Int) = some (x, y, ok) ∧ (ok = true → ∃ n : Nat, y = (n : Int) ∧ i + 2 ≤ n ∧ n ≤ l.length ∧ esc (l.drop (i + 1)) = some (x, l.drop n) ∧ Scalar x) := by
  unfold spec_scEscape.f
  rw [show wrap64 ((i : Int) + 1) = ((i + 1 : Nat) : Int) by unfold wrap64; omega, show wrap64 ((i : Int) + 2) = ((i + 2 : Nat) : Int) by unfold wrap64; omega]
  by_cases h1 : i + 1 = l.length
  · rw [if_pos (by omega)]
    exact ⟨0, 0, false, rfl, fun h => by cases h⟩
  have hlt : i + 1 < l.length := by omega
  have e : l.drop (i + 1) = l[i + 1] :: l.drop (i + 2) := List.drop_eq_getElem_cons hlt
  have hr : rd l ((i + 1 : Nat) : Int) = l[i + 1] := by unfold rd; rw [Int.toNat_natCast]; simp [List.getD, hlt]
  rw [if_neg (by omega), if_pos (by omega), if_pos (by omega), hr]
  rw [e] at hU h9
  rw [e]
  generalize l[i + 1] = c at hU h9
  have n85 : c ≠ 85 := fun h => hU (by rw [h]; rfl)
  have n9 : c ≠ 9 := fun h => h9 (by rw [h]; rfl)
  rw [long_f c n85]
  simp only [Option.bind_some]
  have hlen : (l.drop (i + 2)).length = l.length - (i + 2) := List.length_drop
  have digits := fun n h1 h2 => digits_f l hl hc i n hi h1 h2
  by_cases a1 : c = 120
  · subst a1
    rw [if_pos rfl, if_neg (by decide)]
    obtain ⟨x, y, ok, h2, h3⟩ := digits 2 (by omega) (by omega)
    refine ⟨x, y, ok, h2, fun h => ?_⟩
    obtain ⟨g1, g2, g3, g4, g5, g6⟩ := h3 h
    refine ⟨i + 2 + 2, g2, by omega, by omega, ?_, ?_⟩
    · simp only [esc]
      rw [if_pos (by trivial), if_pos g1, g3, List.drop_drop]
      rfl
    · have : ((16 ^ 2 : Nat) : Int) = 256 := by decide
      unfold Scalar; omega
  · rw [if_neg a1]
    by_cases a2 : c = 117
    · subst a2
      rw [if_pos rfl, if_neg (by decide)]
      obtain ⟨x, y, ok, h2, h3⟩ := digits 4 (by omega) (by omega)
      refine ⟨x, y, ok, h2, fun h => ?_⟩
      obtain ⟨g1, g2, g3, g4, g5, g6⟩ := h3 h
      refine ⟨i + 2 + 4, g2, by omega, by omega, ?_, ?_⟩
      · simp only [esc]
        rw [if_neg (by decide), if_pos (by trivial), if_pos g1, g3]
        simp only
        rw [if_pos g4, List.drop_drop]
      · have : ((16 ^ 4 : Nat) : Int) = 65536 := by decide
        unfold Scalar; omega
    · rw [if_neg a2, if_pos rfl, named_f (l.length + 2) c n9]
      simp only [Option.bind_some]
      refine ⟨_, _, _, rfl, fun h => ?_⟩
      have h := of_decide_eq_true h
      cases hn : named c with
      | none => rw [hn] at h; exact absurd h (by decide)
      | some x =>
        have hxr := named_range hn
        refine ⟨i + 2, rfl, by omega, by omega, ?_, ?_⟩
        · simp only [esc]
          rw [if_neg a1, if_neg a2, hn]; rfl
        · unfold Scalar; simp only; omega
end Go.Proofs.YtgglhfbjbddjjaaDoor.LnEsc

/-
  DERIVED: THE SHELF's CONTRACTS AT THIS DUMP, IN PLAIN WORDS (tools/lay-plain.mjs out of 'TrydCutv.lean', which tools/lay-shelf.mjs wrote): THE SAME DECLARATIONS UNDER THE SAME NAMES: 'import', 'namespace', 'open', 'def', 'theorem' AND NOTHING ELSE: no command of the shelf's: FOR A HAND-IN. Each laying: the table of numbers ('.._ren') and one theorem, a field a fact of the dump's own or the kernel's comparison; each contract: ONE APPLICATION.
-/
namespace Go.Proofs
open Go.Shelf
def Tryd.laysValid_ren : Go.Shelf.Ren := ⟨fun | 196 => 20 | 259 => 32 | n => n, fun | 9 => 9 | 4 => 4 | 3 => 3 | 5 => 5 | 12 => 12 | 119 => 75 | 0 => 0 | 46 => 79 | 139 => 78 | 138 => 77 | 53 => 98 | n => n, fun | 3 => 0 | 4 => 1 | n => n⟩
theorem Tryd.laysValid : Go.Proofs.Lays.n196 Tryd.prog Tryd.laysValid_ren := {
  mixed := by kernel_rfl
  f196 := Tryd.func20.trans (congrArg some (by kernel_rfl))
  f259 := Tryd.func32.trans (congrArg some (by kernel_rfl))
  t0 := Tryd.underlying0
  a0 := Tryd.isAgg0
  z0 := Tryd.sizeOf0
  v0 := Tryd.zeroValue0
  t3 := Tryd.underlying3
  a3 := Tryd.isAgg3
  z3 := Tryd.sizeOf3
  v3 := Tryd.zeroValue3
  t4 := Tryd.underlying4
  a4 := Tryd.isAgg4
  z4 := Tryd.sizeOf4
  v4 := Tryd.zeroValue4
  t5 := Tryd.underlying5
  a5 := Tryd.isAgg5
  z5 := Tryd.sizeOf5
  v5 := Tryd.zeroValue5
  t9 := Tryd.underlying9
  a9 := Tryd.isAgg9
  z9 := Tryd.sizeOf9
  v9 := Tryd.zeroValue9
  t12 := Tryd.underlying12
  a12 := Tryd.isAgg12
  z12 := Tryd.sizeOf12
  v12 := Tryd.zeroValue12
  t46 := Tryd.underlying79
  a46 := Tryd.isAgg79
  z46 := Tryd.sizeOf79
  v46 := Tryd.zeroValue79
  t53 := Tryd.underlying98
  a53 := Tryd.isAgg98
  z53 := Tryd.sizeOf98
  v53 := Tryd.zeroValue98
  t119 := Tryd.underlying75
  a119 := Tryd.isAgg75
  z119 := Tryd.sizeOf75
  t138 := Tryd.underlying77
  a138 := Tryd.isAgg77
  z138 := Tryd.sizeOf77
  v138 := Tryd.zeroValue77
  t139 := Tryd.underlying78
  a139 := Tryd.isAgg78
  z139 := Tryd.sizeOf78
  v139 := Tryd.zeroValue78
  g3 := by kernel_rfl
  g4 := by kernel_rfl }
open Go.RowKit in
theorem Tryd.utf8_ValidString (s : ByteArray) (w : World) (hs : s.size ≤ 9223372036854775807) (hT : Lib.Utf8Tabs 0 1 w) :
    Calls Tryd.prog 20 #[.string s] w fun e w' => e = .returned (.bool (Lib.validD s.data.toList)) ∧ Below w.heap.size w w' := Any.utf8_ValidString Tryd.laysValid s w hs hT
end Go.Proofs

/- The reference's own look at a text: scRunes and scAll, at every text. The tables of package unicode/utf8 hold what they were laid with. -/
namespace Go.Proofs.YtgglhfbjbddjjaaDoor.Runes
open Go.RowKit Go.Proofs.YtgglhfbjbddjjaaDoor.PFnPartLines Go.Proofs.YtgglhfbjbddjjaaDoor.LKnown Go.Proofs.YtgglhfbjbddjjaaDoorW.PrintWords Go.Proofs.YtgglhfbjbddjjaaDoor.Utf
set_option linter.unusedVariables false
set_option linter.unusedSimpArgs false

/-- The two tables. -/
def Tabs (w : World) : Prop := Lib.Utf8Tabs 0 1 w

theorem tabs_below {w w1 : World} (h : Tabs w) (hb : Below w.heap.size w w1) : Tabs w1 := Go.Proofs.Utf8Tabs_below h hb

theorem runes_size (s : ByteArray) : (Conv.runesFrom s s.size 0 #[]).size = (runes s s.size 0).length := by
  rw [runesFrom_eq]; simp

/-- A row of runes of the call's own: what is read of it. -/
def Reads (w : World) (g : Nat) (rs : List Int) : Prop := ∀ j, j < rs.length → w.cell? ⟨g, j, none⟩ = some (.int .i32 (rs.getD j 0))

theorem addr_add (g j : Nat) : Addr.add ⟨g, 0, none⟩ j = ⟨g, j, none⟩ := by
  cases j <;> simp [Addr.add]

theorem Reads.kd {w : World} {g : Nat} {rs : List Int} (h : Reads w g rs) (hl : rs.length ≤ 9223372036854775807) : Kd.C (Kd.int .i32) w (some ⟨g, 0, none⟩) rs.length rs :=
  Kd.C_of_reads (d := (0 : Int)) ⟨rfl, hl, fun _ => ⟨⟨g, 0, none⟩, rfl, fun j hj => by
    rw [addr_add]; exact h j hj⟩⟩

theorem Reads.below {w w1 : World} {g : Nat} {rs : List Int} (h : Reads w g rs) (hb : Below w.heap.size w w1) : Reads w1 g rs := fun j hj => pw_cell_below hb (h j hj)

theorem reads_new (s : ByteArray) (w : World) (rs : List Int) (hr : runes s s.size 0 = rs) (C : Array Value) (t : TypeId) :
    Reads (w.alloc (.cells (Conv.runesFrom s s.size 0 #[] ++ C) t)).drew w.heap.size rs := by
  subst hr
  intro j hj
  have h : (w.alloc (.cells (Conv.runesFrom s s.size 0 #[] ++ C) t)).cell? ⟨w.heap.size, j, none⟩ = (Conv.runesFrom s s.size 0 #[] ++ C)[j]? := World.cell?_alloc_mark w _ t _ j
  show (w.alloc _).cell? _ = _
  rw [h, runesFrom_eq, Array.getElem?_append_left (by simpa using hj)]
  simp [hj]

set_option maxHeartbeats 1000000 in
set_option maxRecDepth 100000 in
theorem scRunes_ok (s : ByteArray) (rs : List Int) (w : World) (hT : Tabs w) (hs : s.size ≤ 65536) (hsc : ∀ r ∈ rs, Scalar r) (he : B s = enc rs) :
    Calls Tryd.prog 11 #[.string s] w fun e w' => ∃ g cap : Nat, e = .returned (.tuple #[.slice (some ⟨g, 0, none⟩) rs.length cap, .bool true]) ∧ Reads w' g rs ∧ rs.length ≤ cap ∧ g < w'.heap.size ∧ w.heap.size ≤ g ∧ Below w.heap.size w w' := by
  have hv : Lib.validD s.data.toList = true := by rw [show s.data.toList = enc rs from he]; exact valid_of_enc rs hsc
  have CV := Aside0.mk (Tryd.utf8_ValidString s w (by omega) hT)
  rw [hv] at CV
  have hru := runes_of s rs hsc he
  have hl : rs.length ≤ 65536 := by have := runes_length s s.size 0; rw [hru] at this; omega
  have hrc := fun wx => run_runes_of_string (P := Tryd.prog) wx 9 32 21 s Tryd.underlying9 Tryd.underlying32 Tryd.underlying21 (by rw [runes_size, hru]; omega)
  rw [runes_size, hru] at hrc
  have HRC := Aside0.mk hrc
  have HRU := Aside0.mk hru
  clear hrc hru hv hsc he
  go_enter Tryd.func11, Tryd.ntmps11
  go_wp2_with fail
  refine CV.out.mono ?_
  rintro e w1 ⟨rfl, b1⟩
  have B1 := Aside0.mk b1
  clear b1
  have hrc := HRC.out w1
  go_wp2_with fail
  clear hrc
  go_ret2
  refine ⟨_, _, rfl, reads_new s w1 rs HRU.out _ _, grownCap_ge _ _ _ _, ?_, B1.out.size, ?_⟩
  · show _ < (w1.alloc _).heap.size
    simp
  · exact (B1.out.alloc B1.out.size _).drew

set_option maxHeartbeats 1000000 in
set_option maxRecDepth 100000 in
theorem scRunes_long (s : ByteArray) (w : World) (hs : 65536 < s.size) (hs2 : s.size ≤ 140737488351232) :
    Calls Tryd.prog 11 #[.string s] w fun e w' => e = .returned (.tuple #[.slice none 0 0, .bool false]) ∧ Below w.heap.size w w' := by
  go_enter Tryd.func11, Tryd.ntmps11
  go_wp2_with fail
  go_ret2
  exact ⟨rfl, Below.refl _ _⟩

set_option maxHeartbeats 1000000 in
set_option maxRecDepth 100000 in
theorem scRunes_bad (s : ByteArray) (w : World) (hT : Tabs w) (hs : s.size ≤ 65536) (hv : Lib.validD (B s) = false) :
    Calls Tryd.prog 11 #[.string s] w fun e w' => e = .returned (.tuple #[.slice none 0 0, .bool false]) ∧ Below w.heap.size w w' := by
  have CV := Aside0.mk (Tryd.utf8_ValidString s w (by omega) hT)
  rw [show Lib.validD s.data.toList = false from hv] at CV
  clear hv
  go_enter Tryd.func11, Tryd.ntmps11
  go_wp2_with fail
  refine CV.out.mono ?_
  rintro e w1 ⟨rfl, b1⟩
  have B1 := Aside0.mk b1
  clear b1
  go_wp2_with fail
  go_ret2
  exact ⟨rfl, B1.out⟩

/-! ### which characters may stand -/
def content (c : Int) : Bool :=
  if c = 9 ∨ (32 ≤ c ∧ c ≤ 126) ∨ (160 ≤ c ∧ c ≤ 55295) then decide (c ≠ 8232 ∧ c ≠ 8233)
  else if 57344 ≤ c ∧ c ≤ 65533 then decide (c ≠ 65279) else decide (65536 ≤ c ∧ c ≤ 1114111)

theorem content_f (k : Nat) (hk : 0 < k) (c : Int) : spec_scContent.f k c = some (content c) := by
  obtain ⟨k, rfl⟩ : ∃ m, k = m + 1 := ⟨k - 1, by omega⟩
  unfold spec_scContent.f content
  simp only [spec_scContent.j0]
  repeat' split
  all_goals (simp only [beq_iff_eq, decide_eq_true_eq, Bool.false_eq_true, not_false_eq_true, reduceCtorEq, not_true_eq_false] at *)
  all_goals first
    | (exfalso; omega)
    | (congr 1; rw [Bool.eq_iff_iff]; simp only [decide_eq_true_eq, bne_iff_ne, Bool.false_eq_true, ne_eq, false_iff, iff_false] <;> omega)

def all (feeds : Bool) (l : List Int) : Bool := l.all fun c => content c || (feeds && c == 10)

theorem all_cons (f : Bool) (c : Int) (t : List Int) : all f (c :: t) = ((content c || (f && c == 10)) && all f t) := rfl

theorem rd_nat (l : List Int) (i : Nat) : rd l (i : Int) = l.getD i 0 := by simp [rd]

theorem all_l0 (l : List Int) (feeds : Bool) (hl : l.length ≤ 9223372036854775806) (d : Nat) : ∀ (k i : Nat), i ≤ l.length → l.length - i = d → d + 1 < k →
    spec_scAll.l0 k feeds l (l.length : Int) (i : Int) = some (all feeds (l.drop i)) := by
  induction d with
  | zero =>
    intro k i h1 h2 h3
    obtain ⟨k, rfl⟩ : ∃ m, k = m + 1 := ⟨k - 1, by omega⟩
    simp only [spec_scAll.l0]
    rw [if_neg (by omega), List.drop_eq_nil_of_le (by omega)]
    rfl
  | succ d ih =>
    intro k i h1 h2 h3
    obtain ⟨k, rfl⟩ : ∃ m, k = m + 1 := ⟨k - 1, by omega⟩
    have hi : i < l.length := by omega
    have e : l.drop i = l.getD i 0 :: l.drop (i + 1) := by rw [List.drop_eq_getElem_cons hi]; simp [List.getD, hi]
    have r := ih k (i + 1) (by omega) (by omega) (by omega)
    simp only [spec_scAll.l0]
    rw [if_pos (by omega), if_pos (by omega), if_pos (by omega), content_f k (by omega), rd_nat, show wrap64 ((i : Int) + 1) = ((i + 1 : Nat) : Int) by unfold wrap64; omega, r, e, all_cons]
    simp only [Option.bind_some]
    generalize l.getD i 0 = c
    cases hc : content c with
    | true => rw [if_pos rfl]; simp
    | false =>
      rw [if_neg (by simp)]
      cases feeds with
      | false => rw [if_neg (by simp)]; simp
      | true =>
        rw [if_pos rfl]
        by_cases h10 : c = 10
        · rw [if_pos h10]; simp [h10]
        · rw [if_neg h10]; simp [h10]

theorem all_f (l : List Int) (feeds : Bool) (hl : l.length ≤ 9223372036854775806) : spec_scAll.f (l.length + 2) l feeds = some (all feeds l) :=
  all_l0 l feeds hl l.length (l.length + 2) 0 (by omega) (by omega) (by omega)

/-- May a text stand on a line, or in lines? -/
def mayStand (feeds : Bool) (s : ByteArray) : Prop := s.size ≤ 65536 ∧ ∃ rs : List Int, (∀ r ∈ rs, Scalar r) ∧ B s = enc rs ∧ all feeds rs = true

theorem stands_not (feeds : Bool) (s : ByteArray) (h : ¬ mayStand feeds s) : 65536 < s.size ∨ (s.size ≤ 65536 ∧ Lib.validD (B s) = false) ∨
    (s.size ≤ 65536 ∧ ∃ rs : List Int, (∀ r ∈ rs, Scalar r) ∧ B s = enc rs ∧ all feeds rs = false) := by
  by_cases h1 : 65536 < s.size
  · exact .inl h1
  · refine .inr ?_
    cases hv : Lib.validD (B s) with
    | false => exact .inl ⟨by omega, rfl⟩
    | true =>
      obtain ⟨rs, h2, h3⟩ := valid_enc (B s) hv
      refine .inr ⟨by omega, rs, h2, h3, ?_⟩
      cases ha : all feeds rs with
      | false => rfl
      | true => exact absurd ⟨by omega, rs, h2, h3, ha⟩ h

end Go.Proofs.YtgglhfbjbddjjaaDoor.Runes
