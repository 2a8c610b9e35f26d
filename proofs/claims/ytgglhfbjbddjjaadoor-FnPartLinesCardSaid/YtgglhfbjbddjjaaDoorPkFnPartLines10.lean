/- Parts of the proof of FnPartLines, one behind the other: LnText, LnNeat, ScBase. Each part says ahead of itself what it proves. -/
import Derived.Test.YtgglhfbjbddjjaaDoorPkFnPartLines1
import Derived.Test.YtgglhfbjbddjjaaDoorPFnPartLinesx1
import Derived.Test.YtgglhfbjbddjjaaDoorPFnPartLinesx2
import Derived.Test.YtgglhfbjbddjjaaDoorPkFnPartLines6
import Derived.Test.YtgglhfbjbddjjaaDoorPkFnPartLines7
import Derived.Deep.AppendLies
import Derived.Deep.RegionHeld3
import Derived.Deep.LoopGhost
import Derived.Deep.DrawnRows

/- Plain: what Has, Tidy, Steady and Calm tell of a text of at most 1000 bytes. -/
namespace Go.Proofs.YtgglhfbjbddjjaaDoor.LnText
open Go.RowKit Go.Proofs.YtgglhfbjbddjjaaDoorW.PrintWords Go.Proofs.YtgglhfbjbddjjaaDoorW.PrintMore Go.Proofs.YtgglhfbjbddjjaaDoor.PFnPartLines Go.Proofs.YtgglhfbjbddjjaaDoor.Utf Go.Proofs.YtgglhfbjbddjjaaDoor.LnPure
set_option linter.unusedVariables false
set_option linter.unusedSimpArgs false

theorem w1 {i : Nat} (h : i ≤ 65536) : wrap64 ((i : Int) + 1) = ((i + 1 : Nat) : Int) := by unfold wrap64; omega
theorem wm1 {i : Nat} (h : i ≤ 65536) (h1 : 1 ≤ i) : wrap64 ((i : Int) - 1) = ((i - 1 : Nat) : Int) := by unfold wrap64; omega
theorem wm2 {i : Nat} (h : i ≤ 65536) (h1 : 2 ≤ i) : wrap64 ((i : Int) - 2) = ((i - 2 : Nat) : Int) := by unfold wrap64; omega
theorem bt_split {s : ByteArray} {A C : List UInt8} {x : UInt8} (h : B s = A ++ x :: C) : bt s ((A.length : Nat) : Int) = (x.toNat : Int) ∧ A.length < s.size := by
  have hl := congrArg List.length h
  rw [B_length, List.length_append, List.length_cons] at hl
  have h1 : A.length < s.size := by omega
  refine ⟨?_, h1⟩
  unfold bt
  simp only [Int.toNat_natCast]
  rw [dif_pos h1]
  have : s[A.length]'h1 = (B s)[A.length]'(by rw [B_length]; exact h1) := by simp [B]; rfl
  rw [this]
  simp only [h]
  simp

/-! ### Has, for one character -/
theorem has_l1 (s : ByteArray) (hs : s.size ≤ 65536) (c : UInt8) (k i : Nat) (hi : i < s.size) : spec_Has.l1 (k + 2) s (ba [c]) (i : Int) 0 = if bt s (i : Int) = (c.toNat : Int) then some true else spec_Has.l0 k s (ba [c]) ((i + 1 : Nat) : Int) := by
  have e0 : bt (ba [c]) 0 = (c.toNat : Int) := (bt_split (s := ba [c]) (A := []) (C := []) (x := c) rfl).1
  have z : (ba [c]).size = 1 := rfl
  simp only [spec_Has.l1]
  rw [if_pos (by rw [z]; decide), if_pos (by omega), if_pos (by omega), if_pos (by decide), e0, show wrap64 (0 + 1) = 1 by unfold wrap64; omega, if_neg (show ¬ (1 : Int) < ((ba [c]).size : Int) by rw [z]; decide), w1 (by omega)]
theorem has_l0 (s : ByteArray) (hs : s.size ≤ 65536) (c : UInt8) : ∀ (d k i : Nat), s.size - i = d → i ≤ s.size → 3 * d + 1 ≤ k → ∃ r, spec_Has.l0 k s (ba [c]) (i : Int) = some r ∧ (r = false → ∀ j : Nat, i ≤ j → j < s.size → bt s (j : Int) ≠ (c.toNat : Int))
  | 0, k, i, hd, hi, hk => by
    obtain ⟨k, rfl⟩ : ∃ m, k = m + 1 := ⟨k - 1, by omega⟩
    simp only [spec_Has.l0]
    rw [if_neg (by omega)]
    exact ⟨false, rfl, fun _ j h1 h2 => by omega⟩
  | d + 1, k, i, hd, hi, hk => by
    obtain ⟨k, rfl⟩ : ∃ m, k = m + 3 := ⟨k - 3, by omega⟩
    have e := has_l1 s hs c k i (by omega)
    rw [show k + 3 = (k + 2) + 1 from rfl, spec_Has.l0, if_pos (by omega), e]
    by_cases h : bt s (i : Int) = (c.toNat : Int)
    · rw [if_pos h]; exact ⟨true, rfl, fun h => by cases h⟩
    · rw [if_neg h]
      obtain ⟨r, h1, h2⟩ := has_l0 s hs c d k (i + 1) (by omega) (by omega) (by omega)
      refine ⟨r, h1, fun hr j h3 h4 => ?_⟩
      by_cases hj : j = i
      · subst hj; exact h
      · exact h2 hr j (by omega) h4
theorem has_one (s : ByteArray) (hs : s.size ≤ 65536) (c : UInt8) : ∃ r, spec_Has.f (3 * s.size + 1) s (ba [c]) = some r ∧ (r = false → ∀ A C, B s ≠ A ++ c :: C) := by
  obtain ⟨r, h1, h2⟩ := has_l0 s hs c s.size (3 * s.size + 1) 0 (by omega) (by omega) (by omega)
  refine ⟨r, h1, fun hr A C h => ?_⟩
  obtain ⟨g1, g2⟩ := bt_split h
  exact h2 hr A.length (by omega) g2 g1

/-! ### Tidy -/
def TidyAt (s : ByteArray) (j : Nat) : Prop := bt s (j : Int) ≠ 9 ∧ (2 ≤ j → bt s (j : Int) = 10 → bt s ((j - 1 : Nat) : Int) = 10 → bt s ((j - 2 : Nat) : Int) ≠ 92) ∧ (bt s (j : Int) = 32 → j + 1 ≠ s.size ∧ bt s ((j + 1 : Nat) : Int) ≠ 10 ∧ (0 < j → bt s ((j - 1 : Nat) : Int) ≠ 92))
theorem tidy_j1 (s : ByteArray) (hs : s.size ≤ 65536) (k i : Nat) (hi : i < s.size) (b R : Bool) (hR : spec_Tidy.l0 k s ((i + 1 : Nat) : Int) = some R) : ∃ r, spec_Tidy.j1 (k + 1) s (i : Int) b = some r ∧ (r = true → b = false ∧ R = true ∧ bt s (i : Int) ≠ 9 ∧ (bt s (i : Int) = 32 → i + 1 ≠ s.size ∧ bt s ((i + 1 : Nat) : Int) ≠ 10 ∧ (0 < i → bt s ((i - 1 : Nat) : Int) ≠ 92))) := by
  simp only [spec_Tidy.j1]
  cases b with
  | true => exact ⟨false, rfl, fun h => by cases h⟩
  | false =>
    rw [if_neg (by decide), if_pos (by omega), if_pos (by omega), w1 (by omega)]
    by_cases h9 : bt s (i : Int) = 9
    · rw [if_pos h9]; exact ⟨false, rfl, fun h => by cases h⟩
    rw [if_neg h9]
    by_cases h32 : bt s (i : Int) = 32
    · rw [if_pos h32]
      by_cases he : i + 1 = s.size
      · rw [if_pos (by omega)]; exact ⟨false, rfl, fun h => by cases h⟩
      rw [if_neg (by omega), if_pos (by omega), if_pos (by omega)]
      by_cases h10 : bt s ((i + 1 : Nat) : Int) = 10
      · rw [if_pos h10]; exact ⟨false, rfl, fun h => by cases h⟩
      rw [if_neg h10]
      by_cases h0 : 0 < i
      · rw [if_pos (by omega), wm1 (by omega) (by omega), if_pos (by omega), if_pos (by omega)]
        by_cases h92 : bt s ((i - 1 : Nat) : Int) = 92
        · rw [if_pos h92]; exact ⟨false, rfl, fun h => by cases h⟩
        · rw [if_neg h92]; exact ⟨R, hR, fun h => ⟨rfl, h, h9, fun _ => ⟨he, h10, fun _ => h92⟩⟩⟩
      · rw [if_neg (by omega)]; exact ⟨R, hR, fun h => ⟨rfl, h, h9, fun _ => ⟨he, h10, fun h => absurd h h0⟩⟩⟩
    · rw [if_neg h32]; exact ⟨R, hR, fun h => ⟨rfl, h, h9, fun h => absurd h h32⟩⟩
theorem tidy_l0 (s : ByteArray) (hs : s.size ≤ 65536) : ∀ (d k i : Nat), s.size - i = d → i ≤ s.size → 2 * d + 1 ≤ k → ∃ r, spec_Tidy.l0 k s (i : Int) = some r ∧ (r = true → ∀ j : Nat, i ≤ j → j < s.size → TidyAt s j)
  | 0, k, i, hd, hi, hk => by
    obtain ⟨k, rfl⟩ : ∃ m, k = m + 1 := ⟨k - 1, by omega⟩
    simp only [spec_Tidy.l0]
    rw [if_neg (by omega)]
    exact ⟨true, rfl, fun _ j h1 h2 => by omega⟩
  | d + 1, k, i, hd, hi, hk => by
    obtain ⟨k, rfl⟩ : ∃ m, k = m + 2 := ⟨k - 2, by omega⟩
    obtain ⟨R, hR, hT⟩ := tidy_l0 s hs d k (i + 1) (by omega) (by omega) (by omega)
    have J := fun b => tidy_j1 s hs k i (by omega) b R hR
    have fin : ∀ b : Bool, (b = false → (2 ≤ i → bt s (i : Int) = 10 → bt s ((i - 1 : Nat) : Int) = 10 → bt s ((i - 2 : Nat) : Int) ≠ 92)) → ∃ r, spec_Tidy.j1 (k + 1) s (i : Int) b = some r ∧ (r = true → ∀ j : Nat, i ≤ j → j < s.size → TidyAt s j) := by
      intro b hb
      obtain ⟨r, h1, h2⟩ := J b
      refine ⟨r, h1, fun hr j h3 h4 => ?_⟩
      obtain ⟨g1, g2, g3, g4⟩ := h2 hr
      by_cases hj : j = i
      · subst hj; exact ⟨g3, hb g1, g4⟩
      · exact hT g2 j (by omega) h4
    rw [show k + 2 = (k + 1) + 1 from rfl, spec_Tidy.l0, if_pos (by omega)]
    by_cases h1 : 2 ≤ i
    · rw [if_pos (by omega), if_pos (by omega)]
      by_cases h10 : bt s (i : Int) = 10
      · rw [if_pos h10, wm1 (by omega) (by omega), if_pos (by omega), if_pos (by omega)]
        by_cases h11 : bt s ((i - 1 : Nat) : Int) = 10
        · rw [if_pos h11, wm2 (by omega) (by omega), if_pos (by omega), if_pos (by omega)]
          exact fin _ fun hb _ _ _ h => by rw [h] at hb; cases hb
        · rw [if_neg h11]; exact fin _ fun _ _ _ h => absurd h h11
      · rw [if_neg h10]; exact fin _ fun _ _ h => absurd h h10
    · rw [if_neg (by omega)]; exact fin _ fun _ h => absurd h h1
/-- What Tidy says of the bytes. -/
structure TidyB (l : List UInt8) : Prop where
  tab : ∀ A C, l ≠ A ++ 9 :: C
  sp10 : ∀ A C, l ≠ A ++ 32 :: 10 :: C
  spE : ∀ A, l ≠ A ++ [32]
  bs32 : ∀ A C, l ≠ A ++ 92 :: 32 :: C
  bs10 : ∀ A C, l ≠ A ++ 92 :: 10 :: 10 :: C
theorem tidy_f (s : ByteArray) (hs : s.size ≤ 65536) : ∃ r, spec_Tidy.f (2 * s.size + 1) s = some r ∧ (r = true → TidyB (B s)) := by
  obtain ⟨r, h1, h2⟩ := tidy_l0 s hs s.size (2 * s.size + 1) 0 (by omega) (by omega) (by omega)
  refine ⟨r, h1, fun hr => ?_⟩
  have h3 := fun j hj => h2 hr j (by omega) hj
  clear h1 h2
  refine ⟨fun A C h => ?_, fun A C h => ?_, fun A h => ?_, fun A C h => ?_, fun A C h => ?_⟩
  · obtain ⟨g1, g2⟩ := bt_split h
    exact (h3 _ g2).1 g1
  · obtain ⟨g1, g2⟩ := bt_split h
    obtain ⟨g3, g4⟩ := bt_split (show B s = (A ++ [32]) ++ 10 :: C by rw [h]; simp)
    simp only [List.length_append, List.length_cons, List.length_nil] at g3
    exact ((h3 _ g2).2.2 g1).2.1 g3
  · obtain ⟨g1, g2⟩ := bt_split h
    have hl := congrArg List.length h
    rw [B_length, List.length_append, List.length_cons] at hl
    exact ((h3 _ g2).2.2 g1).1 (by simpa using hl.symm)
  · obtain ⟨g1, g2⟩ := bt_split h
    obtain ⟨g3, g4⟩ := bt_split (show B s = (A ++ [92]) ++ 32 :: C by rw [h]; simp)
    simp only [List.length_append, List.length_cons, List.length_nil] at g3 g4
    have := ((h3 _ g4).2.2 g3).2.2 (by omega)
    rw [Nat.add_sub_cancel] at this
    exact this g1
  · obtain ⟨g1, g2⟩ := bt_split h
    obtain ⟨g3, g4⟩ := bt_split (show B s = (A ++ [92]) ++ 10 :: 10 :: C by rw [h]; simp)
    obtain ⟨g5, g6⟩ := bt_split (show B s = (A ++ [92, 10]) ++ 10 :: C by rw [h]; simp)
    simp only [List.length_append, List.length_cons, List.length_nil] at g3 g4 g5 g6
    exact (h3 _ g6).2.1 (by omega) g5 (by rw [show A.length + (0 + 1 + 1) - 1 = A.length + (0 + 1) by omega]; exact g3) (by rw [show A.length + (0 + 1 + 1) - 2 = A.length by omega]; exact g1)

/-! ### Steady -/
structure SteadyB (l : List UInt8) : Prop where
  x20 : ∀ A C, l ≠ A ++ 50 :: 48 :: 10 :: C
theorem extract_two (s : ByteArray) (A C : List UInt8) (x y : UInt8) (h : B s = A ++ x :: y :: C) : (s.extract A.length (A.length + 2)).toList = [x, y] := by
  rw [ByteArray.toList_eq]
  have : (s.extract A.length (A.length + 2)).data.toList = [x, y] := by
    rw [Lib.extract_data, show s.data.toList = A ++ x :: y :: C from h]
    simp
  exact this
theorem steady_l0 (s : ByteArray) (hs : s.size ≤ 65536) : ∀ (d k i : Nat), s.size - i = d → 2 ≤ i → d + 1 ≤ k → ∃ r, spec_Steady.l0 k s (i : Int) = some r ∧ (r = true → ∀ j : Nat, i ≤ j → j < s.size → bt s (j : Int) = 10 → (s.extract (j - 2) j).toList ≠ [50, 48])
  | 0, k, i, hd, hi, hk => by
    obtain ⟨k, rfl⟩ : ∃ m, k = m + 1 := ⟨k - 1, by omega⟩
    simp only [spec_Steady.l0]
    rw [if_neg (by omega)]
    exact ⟨true, rfl, fun _ j h1 h2 => by omega⟩
  | d + 1, k, i, hd, hi, hk => by
    obtain ⟨k, rfl⟩ : ∃ m, k = m + 1 := ⟨k - 1, by omega⟩
    obtain ⟨R, hR, hT⟩ := steady_l0 s hs d k (i + 1) (by omega) (by omega) (by omega)
    simp only [spec_Steady.l0]
    rw [if_pos (by omega), if_pos (by omega), w1 (by omega)]
    by_cases h10 : bt s (i : Int) = 10
    · rw [if_pos h10, wm2 (by omega) (by omega), if_pos (by omega), if_pos (by omega), if_pos (by omega)]
      simp only [Int.toNat_natCast]
      by_cases e1 : (s.extract (i - 2) i).toList = [50, 48]
      · rw [if_pos e1]; exact ⟨false, rfl, fun h => by cases h⟩
      rw [if_neg e1]
      by_cases e2 : (s.extract (i - 2) i).toList = [48, 57]
      · rw [if_pos e2]; exact ⟨false, rfl, fun h => by cases h⟩
      rw [if_neg e2]
      by_cases e3 : (s.extract (i - 2) i).toList = [92, 116]
      · rw [if_pos e3]; exact ⟨false, rfl, fun h => by cases h⟩
      rw [if_neg e3]
      refine ⟨R, hR, fun hr j h1 h2 h3 => ?_⟩
      by_cases hj : j = i
      · subst hj; exact e1
      · exact hT hr j (by omega) h2 h3
    · rw [if_neg h10]
      refine ⟨R, hR, fun hr j h1 h2 h3 => ?_⟩
      by_cases hj : j = i
      · subst hj; exact absurd h3 h10
      · exact hT hr j (by omega) h2 h3
theorem steady_f (s : ByteArray) (hs : s.size ≤ 65536) : ∃ r, spec_Steady.f (s.size + 1) s = some r ∧ (r = true → SteadyB (B s)) := by
  obtain ⟨r, h1, h2⟩ := steady_l0 s hs (s.size - 2) (s.size + 1) 2 (by omega) (by omega) (by omega)
  refine ⟨r, h1, fun hr => ⟨fun A C h => ?_⟩⟩
  obtain ⟨g1, g2⟩ := bt_split (show B s = (A ++ [50, 48]) ++ 10 :: C by rw [h]; simp)
  simp only [List.length_append, List.length_cons, List.length_nil] at g1 g2
  have := h2 hr (A.length + 2) (by omega) (by omega) g1
  rw [Nat.add_sub_cancel] at this
  exact this (extract_two s A (10 :: C) 50 48 h)

/-! ### Calm, and Has at any signs: they end -/
theorem hasl1_any (s t : ByteArray) (hs : s.size ≤ 65536) (ht : t.size ≤ 65536) (i : Nat) (hi : i < s.size) (K : Nat) (h0 : ∀ k, K ≤ k → ∃ r, spec_Has.l0 k s t ((i + 1 : Nat) : Int) = some r) : ∀ (d k j : Nat), t.size - j = d → j ≤ t.size → K + d + 1 ≤ k → ∃ r, spec_Has.l1 k s t (i : Int) (j : Int) = some r
  | 0, k, j, hd, hj, hk => by
    obtain ⟨k, rfl⟩ : ∃ m, k = m + 1 := ⟨k - 1, by omega⟩
    simp only [spec_Has.l1]
    rw [if_neg (by omega), w1 (by omega)]
    exact h0 k (by omega)
  | d + 1, k, j, hd, hj, hk => by
    obtain ⟨k, rfl⟩ : ∃ m, k = m + 1 := ⟨k - 1, by omega⟩
    simp only [spec_Has.l1]
    rw [if_pos (by omega), if_pos (by omega), if_pos (by omega), if_pos (by omega), w1 (show j ≤ 65536 by omega)]
    split
    · exact ⟨true, rfl⟩
    · exact hasl1_any s t hs ht i hi K h0 d k (j + 1) (by omega) (by omega) (by omega)
theorem hasl0_any (s t : ByteArray) (hs : s.size ≤ 65536) (ht : t.size ≤ 65536) : ∀ (d i : Nat), s.size - i = d → i ≤ s.size → ∀ k, d * (t.size + 2) + 1 ≤ k → ∃ r, spec_Has.l0 k s t (i : Int) = some r
  | 0, i, hd, hi, k, hk => by
    obtain ⟨k, rfl⟩ : ∃ m, k = m + 1 := ⟨k - 1, by omega⟩
    simp only [spec_Has.l0]
    rw [if_neg (by omega)]
    exact ⟨false, rfl⟩
  | d + 1, i, hd, hi, k, hk => by
    obtain ⟨k, rfl⟩ : ∃ m, k = m + 1 := ⟨k - 1, by omega⟩
    simp only [spec_Has.l0]
    rw [if_pos (by omega)]
    have e : (d + 1) * (t.size + 2) = d * (t.size + 2) + (t.size + 2) := by rw [Nat.add_mul, Nat.one_mul]
    exact hasl1_any s t hs ht i (by omega) (d * (t.size + 2) + 1) (fun k hk => hasl0_any s t hs ht d (i + 1) (by omega) (by omega) k hk) t.size k 0 (by omega) (by omega) (by omega)
theorem has_any (s t : ByteArray) (hs : s.size ≤ 65536) (ht : t.size ≤ 65536) (k : Nat) (hk : s.size * (t.size + 2) + 1 ≤ k) : ∃ r, spec_Has.f k s t = some r := hasl0_any s t hs ht s.size 0 (by omega) (by omega) k hk
theorem calm_l0 (s : ByteArray) (hs : s.size ≤ 65536) : ∀ (d k i : Nat) (b : Bool), s.size - i = d → i ≤ s.size → 2 * d + 100 ≤ k → ∃ r, spec_Calm.l0 k s b (i : Int) = some r
  | 0, k, i, b, hd, hi, hk => by
    obtain ⟨k, rfl⟩ : ∃ m, k = m + 1 := ⟨k - 1, by omega⟩
    simp only [spec_Calm.l0]
    rw [if_neg (by omega)]
    exact ⟨true, rfl⟩
  | d + 1, k, i, b, hd, hi, hk => by
    obtain ⟨k, rfl⟩ : ∃ m, k = m + 2 := ⟨k - 2, by omega⟩
    have ih := fun b k' (h : 2 * d + 100 ≤ k') => calm_l0 s hs d k' (i + 1) b (by omega) (by omega) h
    have hz : (s.extract i (i + 1)).size = 1 := by
      rw [ByteArray.size_extract]; omega
    have J : ∀ c : Bool, ∃ r, spec_Calm.j1 (k + 1) s b (i : Int) c = some r := by
      intro c
      simp only [spec_Calm.j1]
      rw [w1 (by omega)]
      cases c with
      | false => rw [if_neg (by decide)]; exact ih b k (by omega)
      | true =>
        rw [if_pos (by trivial), if_pos (by omega), if_pos (by omega), if_pos (by omega)]
        simp only [Int.toNat_natCast]
        obtain ⟨r, hr⟩ := has_any (s.extract i (i + 1)) ⟨#[45, 63, 58, 44, 91, 93, 123, 125, 35, 38, 42, 33, 124, 62, 39, 34, 37, 64, 96]⟩ (by omega) (by decide) k (by rw [hz, show (⟨#[45, 63, 58, 44, 91, 93, 123, 125, 35, 38, 42, 33, 124, 62, 39, 34, 37, 64, 96]⟩ : ByteArray).size = 19 from rfl]; omega)
        rw [hr]
        simp only [Option.bind_some]
        split
        · exact ⟨false, rfl⟩
        · exact ih false k (by omega)
    rw [show k + 2 = (k + 1) + 1 from rfl, spec_Calm.l0, if_pos (by omega), if_pos (by omega), w1 (by omega)]
    split
    · exact ih true (k + 1) (by omega)
    · split
      · exact J _
      · exact J _
theorem calm_f (s : ByteArray) (hs : s.size ≤ 65536) : ∃ r, spec_Calm.f (2 * s.size + 100) s = some r := calm_l0 s hs s.size _ 0 false (by omega) (by omega) (by omega)
end Go.Proofs.YtgglhfbjbddjjaaDoor.LnText

/- Plain: what Tidy and Steady tell of the bytes, said of the runes. -/
namespace Go.Proofs.YtgglhfbjbddjjaaDoor.LnNeat
open Go Go.Lib Go.Proofs.YtgglhfbjbddjjaaDoor.Utf Go.Proofs.YtgglhfbjbddjjaaDoor.Runes Go.Proofs.YtgglhfbjbddjjaaDoor.LnText Go.Proofs.YtgglhfbjbddjjaaDoor.LnRun
set_option linter.unusedVariables false
set_option linter.unusedSimpArgs false

theorem enc_asc (c : Int) (h0 : 0 ≤ c) (h1 : c ≤ 127) (r : List Int) : enc (c :: r) = c.toNat.toUInt8 :: enc r := by
  rw [enc_cons, encodeRune_ascii c h0 h1]; rfl
theorem neat_of {s : ByteArray} {rs : List Int} (he : B s = enc rs) (hal : all true rs = true) (hT : TidyB (B s)) (hS : SteadyB (B s)) : Neat rs := by
  rw [he] at hT hS
  refine ⟨fun A C h => ?_, fun A C h => ?_, fun A C h => ?_, fun A C h => ?_, fun A C h => ?_, fun A C h => ?_⟩
  · exact hT.tab (enc A) (enc C) (by rw [h, enc_append, enc_asc 9 (by omega) (by omega)]; rfl)
  · rw [h] at hal
    unfold all at hal
    have := List.all_eq_true.1 hal 13 (by simp)
    exact absurd this (by decide)
  · exact hT.sp10 (enc A) (enc C) (by rw [h, enc_append, enc_asc 32 (by omega) (by omega), enc_asc 10 (by omega) (by omega)]; rfl)
  · exact hT.bs32 (enc A) (enc C) (by rw [h, enc_append, enc_asc 92 (by omega) (by omega), enc_asc 32 (by omega) (by omega)]; rfl)
  · exact hT.bs10 (enc A) (enc C) (by rw [h, enc_append, enc_asc 92 (by omega) (by omega), enc_asc 10 (by omega) (by omega), enc_asc 10 (by omega) (by omega)]; rfl)
  · exact hS.x20 (enc A) (enc C) (by rw [h, enc_append, enc_asc 50 (by omega) (by omega), enc_asc 48 (by omega) (by omega), enc_asc 10 (by omega) (by omega)]; rfl)
/-- No byte of a character, no character. -/
theorem no_rune {s : ByteArray} {rs : List Int} (he : B s = enc rs) (c : Int) (h0 : 0 ≤ c) (h1 : c ≤ 127) (h : ∀ A C, B s ≠ A ++ c.toNat.toUInt8 :: C) : ∀ A C, rs ≠ A ++ c :: C := fun A C e => h (enc A) (enc C) (by rw [he, e, enc_append, enc_asc c h0 h1])
/-- The scanner's values are characters. -/
theorem tx_of (q : Int) (hq : q = 34 ∨ q = 39) {rs : List Int} (hsc : ∀ r ∈ rs, Scalar r) (hal : all true rs = true) : (∀ r ∈ q :: (rs ++ [q, 10]), Scalar r) ∧ (∀ r ∈ q :: (rs ++ [q, 10]), r ≠ 13) := by
  have hqs : Scalar q ∧ q ≠ 13 := by rcases hq with rfl | rfl <;> (unfold Scalar; omega)
  refine ⟨fun r hr => ?_, fun r hr => ?_⟩
  · simp only [List.mem_cons, List.mem_append, List.not_mem_nil, or_false] at hr
    rcases hr with rfl | hr | rfl | rfl
    · exact hqs.1
    · exact hsc r hr
    · exact hqs.1
    · unfold Scalar; omega
  · simp only [List.mem_cons, List.mem_append, List.not_mem_nil, or_false] at hr
    rcases hr with rfl | hr | rfl | rfl
    · exact hqs.2
    · intro e
      subst e
      unfold all at hal
      exact absurd (List.all_eq_true.1 hal 13 hr) (by decide)
    · exact hqs.2
    · decide
end Go.Proofs.YtgglhfbjbddjjaaDoor.LnNeat

/- The scanner and its context in memory: what is read of them, what a step may change; addOriginBuf. -/
namespace Go.Proofs.YtgglhfbjbddjjaaDoor.ScBase
open Go.RowKit Go.Proofs.YtgglhfbjbddjjaaDoorW.PrintWords Go.Proofs.YtgglhfbjbddjjaaDoorW.PrintMore Go.Proofs.YtgglhfbjbddjjaaDoor.Utf Go.Proofs.YtgglhfbjbddjjaaDoor.Runes
set_option linter.unusedVariables false
set_option linter.unusedSimpArgs false
attribute [local go_sem ↓] Go.wp_at_zero Go.wp_at_succ

/-- A step that leaves the blocks outside X as they were. -/
structure Fr (w w' : World) (X : Nat → Prop) : Prop where
  os : w'.os = w.os
  tape : w'.tape = w.tape
  output : w'.output = w.output
  size : w.heap.size ≤ w'.heap.size
  block : ∀ k, k < w.heap.size → ¬ X k → w'.heap[k]? = w.heap[k]?
theorem Fr.refl (w : World) (X : Nat → Prop) : Fr w w X := ⟨rfl, rfl, rfl, Nat.le_refl _, fun _ _ _ => rfl⟩
theorem Fr.trans {a b c : World} {X Y : Nat → Prop} (h : Fr a b X) (k : Fr b c Y) (hY : ∀ y, y < a.heap.size → Y y → X y) : Fr a c X :=
  ⟨k.os.trans h.os, k.tape.trans h.tape, k.output.trans h.output, Nat.le_trans h.size k.size, fun i hi hx => (k.block i (Nat.lt_of_lt_of_le hi h.size) (fun hy => hx (hY i hi hy))).trans (h.block i hi hx)⟩
theorem Fr.set {a w : World} {X : Nat → Prop} (h : Fr a w X) {p : Addr} (hp : X p.block) (u : Value) : Fr a (w.setCell p u) X := by
  have e : (w.setCell p u).heap.size = w.heap.size := by simp
  refine ⟨h.os, h.tape, h.output, ?_, fun k hk hx => ?_⟩
  · rw [e]; exact h.size
  · rw [Below.heap_setCell w p u k (fun e => hx (e ▸ hp))]
    exact h.block k hk hx
theorem Fr.drew {a w : World} {X : Nat → Prop} (h : Fr a w X) : Fr a w.drew X := ⟨h.os, h.tape, h.output, h.size, h.block⟩
theorem Fr.alloc {a w : World} {X : Nat → Prop} (h : Fr a w X) (o : Obj) : Fr a (w.alloc o) X := by
  refine ⟨h.os, h.tape, h.output, ?_, fun k hk hx => ?_⟩
  · have : (w.alloc o).heap.size = w.heap.size + 1 := by simp
    have := h.size
    omega
  · rw [Below.heap_alloc w o k (Nat.lt_of_lt_of_le hk h.size)]
    exact h.block k hk hx
theorem Fr.grown {a w w1 : World} {X : Nat → Prop} {row : Option Nat} (h : Fr a w X) (hg : w.grownBy w1 row) (hr : ∀ k, k < a.heap.size → row = some k → X k) : Fr a w1 X :=
  ⟨hg.os.trans h.os, hg.tape.trans h.tape, hg.output.trans h.output, Nat.le_trans h.size hg.size, fun k hk hx => (hg.block k (Nat.lt_of_lt_of_le hk h.size) (fun e => hx (hr k hk e.symm))).trans (h.block k hk hx)⟩
theorem Fr.of_below {w w' : World} (h : Below w.heap.size w w') (X : Nat → Prop) : Fr w w' X := ⟨h.os, h.tape, h.output, h.size, fun k hk _ => h.block k hk⟩
theorem Fr.blk {w w' : World} {X : Nat → Prop} (h : Fr w w' X) {g : Nat} {o : Obj} (hb : w.heap[g]? = some o) (hx : ¬ X g) : w'.heap[g]? = some o := (h.block g (blk_lt hb) hx).trans hb
theorem Fr.below {w w' : World} {X : Nat → Prop} (h : Fr w w' X) {B : Nat} (hB : B ≤ w.heap.size) (hx : ∀ k, k < B → ¬ X k) : Below B w w' := ⟨h.os, h.tape, h.output, h.size, fun k hk => h.block k (Nat.lt_of_lt_of_le hk hB) (hx k hk)⟩

/-- The scanner at block S: its source and how many runes were passed. -/
def SC (w : World) (S : Nat) (src : Value) (p : Int) : Prop := ∃ (sz ln col off ldc ind pli lvl : Int) (b1 b2 b3 b4 : Bool) (y1 y2 y3 y4 : Value),
  w.heap[S]? = some (.cells #[src, .int .i64 p, .int .i64 sz, .int .i64 ln, .int .i64 col, .int .i64 off, .int .i64 ldc, .int .i64 ind, .int .i64 pli, .int .i64 lvl, .bool b1, .bool b2, .bool b3, .bool b4, y1, y2, y3, y4] 61 (0, 0))
/-- The context at block C: its source and its buffer of origins. -/
def CX (w : World) (C : Nat) (ix : Int) (src O : Value) : Prop := ∃ (sz a b : Int) (y1 y2 y3 : Value),
  w.heap[C]? = some (.cells #[.int .i64 ix, .int .i64 sz, .int .i64 a, .int .i64 b, src, y1, O, y2, y3] 86 (0, 0))
/-- A row of runes that the call owns. -/
def Row (w : World) (base : Nat) (v : Value) (xs : List Int) : Prop := w.ownsRow base 21 1 v xs.length (nums .i32 xs)

def XO (C : Nat) (O : Value) (k : Nat) : Prop := k = C ∨ O.ownBlock = some k
/-- Where a row lies behind a step: where it lay, or in a new block. -/
def Moved (w : World) (O O' : Value) : Prop := O'.ownBlock = O.ownBlock ∨ ∃ b, O'.ownBlock = some b ∧ w.heap.size ≤ b
theorem Row.ne {w : World} {base : Nat} {v : Value} {xs : List Int} (h : Row w base v xs) {k : Nat} (hk : k < base) : some k ≠ v.ownBlock := fun e => by
  have := own_base h k e.symm
  omega
theorem info21 : (Tryd.prog.info? 21).map (fun i => (i.zero, i.size, i.bytes)) = some (some (.int .i32 0), 1, 4) := by kernel_rfl

theorem grownBy_set (w : World) (p : Addr) (u : Value) : w.grownBy (w.setCell p u) (some p.block) :=
  ⟨rfl, rfl, rfl, by simp, fun k hk hne => Below.heap_setCell w p u k (fun e => hne (by rw [e]))⟩
theorem Row.set {w : World} {base : Nat} {v : Value} {xs : List Int} (h : Row w base v xs) {p : Addr} (hp : p.block < base) (u : Value) : Row (w.setCell p u) base v xs :=
  World.ownsRow.kept h (grownBy_set w p u) (.inr fun e => h.ne hp e.symm)
theorem CX.set6 {w : World} {C : Nat} {ix : Int} {src O : Value} (h : CX w C ix src O) (u : Value) : CX (w.setCell ⟨C, 6, none⟩ u) C ix src u := by
  obtain ⟨sz, a, b, y1, y2, y3, hc⟩ := h
  exact ⟨sz, a, b, y1, y2, y3, by simpa using blk_set hc 6 u⟩
theorem CX.set3 {w : World} {C : Nat} {ix : Int} {src O : Value} (h : CX w C ix src O) (n : Int) : CX (w.setCell ⟨C, 3, none⟩ (.int .i64 n)) C ix src O := by
  obtain ⟨sz, a, b, y1, y2, y3, hc⟩ := h
  exact ⟨sz, a, n, y1, y2, y3, by simpa using blk_set hc 3 (.int .i64 n)⟩
theorem CX.blk {w w' : World} {C : Nat} {ix : Int} {src O : Value} (h : CX w C ix src O) (hb : w'.heap[C]? = w.heap[C]?) : CX w' C ix src O := by
  obtain ⟨sz, a, b, y1, y2, y3, hc⟩ := h
  exact ⟨sz, a, b, y1, y2, y3, hb.trans hc⟩
theorem SC.blk {w w' : World} {S : Nat} {src : Value} {p : Int} (h : SC w S src p) (hb : w'.heap[S]? = w.heap[S]?) : SC w' S src p := by
  obtain ⟨sz, ln, col, off, ldc, ind, pli, lvl, b1, b2, b3, b4, y1, y2, y3, y4, hc⟩ := h
  exact ⟨sz, ln, col, off, ldc, ind, pli, lvl, b1, b2, b3, b4, y1, y2, y3, y4, hb.trans hc⟩
theorem SC.lt {w : World} {S : Nat} {src : Value} {p : Int} (h : SC w S src p) : S < w.heap.size := by
  obtain ⟨sz, ln, col, off, ldc, ind, pli, lvl, b1, b2, b3, b4, y1, y2, y3, y4, hc⟩ := h
  exact blk_lt hc
theorem CX.lt {w : World} {C : Nat} {ix : Int} {src O : Value} (h : CX w C ix src O) : C < w.heap.size := by
  obtain ⟨sz, a, b, y1, y2, y3, hc⟩ := h
  exact blk_lt hc
def AddP (w : World) (base C : Nat) (ix : Int) (src O : Value) (xs : List Int) (c : Int) (e : Ending) (w' : World) : Prop :=
  e = .returned (.tuple #[]) ∧ ∃ O', CX w' C ix src O' ∧ Row w' base O' (xs ++ [c]) ∧ Moved w O O' ∧ Fr w w' (XO C O)
set_option maxHeartbeats 1000000 in
set_option maxRecDepth 100000 in
theorem add_any (w : World) (base C : Nat) (ix : Int) (src O : Value) (xs : List Int) (c : Int) (hC : CX w C ix src O) (hO : Row w base O xs) (hCb : C < base) (hb : base ≤ w.heap.size) (hn : xs.length ≤ 1000000) :
    Calls Tryd.prog 35 #[.pointer (some ⟨C, 0, none⟩), .int .i32 c] w (AddP w base C ix src O xs c) := by
  obtain ⟨sz, a, b, y1, y2, y3, hc⟩ := hC
  have z3 := blk_cell hc 3
  have z6 := blk_cell hc 6
  simp only [List.getElem?_toArray, List.getElem?_cons_succ, List.getElem?_cons_zero] at z3 z6
  have HC := Aside0.mk hc
  have HO := Aside0.mk hO
  have HB := Aside0.mk hb
  have HCB := Aside0.mk hCb
  clear hc hO hb
  go_enter Tryd.func35, Tryd.ntmps35
  go_wp2_with (at_builtin; refine print_append_num (w0 := w) base rfl (.tmp 8) _ 32 21 .i32 4 rfl Tryd.underlying32 info21 (by decide) O xs c rfl rfl HO.out (Below.refl _ _) HB.out (by omega) ?_; intro v1 w1 hown hB hg hat; obtain ⟨g, cap, rfl, hgb, hgl⟩ := hown.form (by simp); have hb1 := blk_grown HC.out hg (HO.out.ne HCB.out); have f3 := blk_frozen hb1 3; have f6 := blk_frozen hb1 6; have c3 := blk_cell hb1 3; have c6 := blk_cell hb1 6; simp only [List.getElem?_toArray, List.getElem?_cons_succ, List.getElem?_cons_zero] at c3 c6; have HOWN := Aside0.mk hown; have HG := Aside0.mk hg; have HAT := Aside0.mk hat; have HB1 := Aside0.mk hb1; clear hown hB hg hat hb1)
  all_goals
    have hcx : CX w1 C ix src O := ⟨sz, a, b, y1, y2, y3, HB1.out⟩
    have hr : Row w1 base (.slice (some ⟨g, 0, none⟩) (xs.length + 1) cap) (xs ++ [c]) := by have := HOWN.out; rw [List.length_append] at this; simpa [Row] using this
    have hm : Moved w O (.slice (some ⟨g, 0, none⟩) (xs.length + 1) cap) := HAT.out
    have hf : Fr w w1 (XO C O) := (Fr.refl w _).grown HG.out (fun k _ h => .inr h)
    go_end0
    first
      | exact ⟨rfl, _, hcx.set6 _, hr.set HCB.out _, hm, hf.set (.inl rfl) _⟩
      | exact ⟨rfl, _, (hcx.set6 _).set3 _, (hr.set HCB.out _).set HCB.out _, hm, (hf.set (.inl rfl) _).set (.inl rfl) _⟩
end Go.Proofs.YtgglhfbjbddjjaaDoor.ScBase
