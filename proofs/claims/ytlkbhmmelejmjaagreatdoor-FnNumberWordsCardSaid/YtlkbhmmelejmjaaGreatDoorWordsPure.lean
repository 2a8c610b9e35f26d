/- FnNumberWords: what the reference says of a text: 0, or the type of one of its words. (Written by wip/tools/words.py.) -/
import Derived.Test.YtlkbhmmelejmjaaGreatDoorWordsKnown
namespace Go.Proofs.YtlkbhmmelejmjaaGreatDoor.WordsPure
open Go.RowKit Go.Proofs.YtlkbhmmelejmjaaGreatDoorW.PrintWords Go.Proofs.YtlkbhmmelejmjaaGreatDoor.WordsKnown
set_option linter.unusedVariables false
set_option linter.unusedSimpArgs false

def words : List (List UInt8 × Int) := [([110, 117, 108, 108], 22), ([78, 117, 108, 108], 22), ([78, 85, 76, 76], 22), ([126], 22), ([116, 114, 117, 101], 32), ([84, 114, 117, 101], 32), ([84, 82, 85, 69], 32), ([102, 97, 108, 115, 101], 32), ([70, 97, 108, 115, 101], 32), ([70, 65, 76, 83, 69], 32), ([46, 105, 110, 102], 24), ([46, 73, 110, 102], 24), ([46, 73, 78, 70], 24), ([45, 46, 105, 110, 102], 24), ([45, 46, 73, 110, 102], 24), ([45, 46, 73, 78, 70], 24), ([46, 110, 97, 110], 25), ([46, 78, 97, 78], 25), ([46, 78, 65, 78], 25)]

theorem digit_some (c : Int) : ∃ b, spec_wrDigit.f c = some b := by unfold spec_wrDigit.f; split <;> exact ⟨_, rfl⟩

theorem digits_l0 (s : ByteArray) (hs : s.size ≤ 9223372036854775806) (a b : Int) (d : Nat) : ∀ (k i : Nat), i ≤ s.size → s.size - i = d → d < k →
    ∃ r, spec_wrDigits.l0 k s a b (i : Int) = some r ∧ (r = true → a ≤ (s.size : Int)) := by
  induction d with
  | zero =>
    intro k i h1 h2 h3
    obtain ⟨k, rfl⟩ : ∃ m, k = m + 1 := ⟨k - 1, by omega⟩
    simp only [spec_wrDigits.l0]
    rw [if_neg (by omega)]
    by_cases h : (s.size : Int) ≥ a
    · rw [if_pos h]; exact ⟨_, rfl, fun _ => h⟩
    · rw [if_neg h]; exact ⟨_, rfl, fun e => by cases e⟩
  | succ d ih =>
    intro k i h1 h2 h3
    obtain ⟨k, rfl⟩ : ∃ m, k = m + 1 := ⟨k - 1, by omega⟩
    have hw : wrap64 ((i : Int) + 1) = ((i + 1 : Nat) : Int) := by unfold wrap64; omega
    obtain ⟨c, hc⟩ := digit_some (bt s (i : Int))
    simp only [spec_wrDigits.l0, hw]
    rw [if_pos (by omega), if_pos (by omega), hc]
    simp only [Option.bind_some]
    cases c with
    | true => rw [if_pos rfl]; exact ih k (i + 1) (by omega) (by omega) (by omega)
    | false => rw [if_neg (by simp)]; exact ⟨_, rfl, fun e => by cases e⟩

theorem digits_f (s : ByteArray) (hs : s.size ≤ 9223372036854775806) (a b : Int) (k : Nat) (hk : s.size < k) : ∃ r, spec_wrDigits.f k s a b = some r ∧ (r = true → a ≤ (s.size : Int)) :=
  digits_l0 s hs a b s.size k 0 (by omega) (by omega) hk

theorem extract_le (s : ByteArray) (i j : Nat) : (s.extract i j).size ≤ s.size := by rw [ByteArray.size_extract]; omega

def Num (t : Int) : Prop := t = 0 ∨ t = 3 ∨ t = 4

theorem j4_some (s : ByteArray) (hs : s.size ≤ 9223372036854775806) (x : Int) (h0 : 0 ≤ x) (h1 : x ≤ s.size) (b : Bool) (k : Nat) (hk : s.size + 1 < k) : ∃ t, spec_wrNumber.j4 k s x b = some t ∧ Num t := by
  obtain ⟨k, rfl⟩ : ∃ m, k = m + 1 := ⟨k - 1, by omega⟩
  simp only [spec_wrNumber.j4]
  cases b with
  | true => rw [if_pos rfl]; exact ⟨_, rfl, .inl rfl⟩
  | false =>
    rw [if_neg (by simp)]
    by_cases he : x = (s.size : Int)
    · rw [if_pos he]; exact ⟨_, rfl, .inr (.inl rfl)⟩
    · have hw : wrap64 (x + 1) = x + 1 := by unfold wrap64; omega
      rw [if_neg he, hw, if_pos (by omega), if_pos (by omega)]
      obtain ⟨r, hr, _⟩ := digits_f (s.extract ((x + 1) : Int).toNat s.size) (by have := extract_le s ((x + 1) : Int).toNat s.size; omega) 1 6 k (by have := extract_le s ((x + 1) : Int).toNat s.size; omega)
      rw [hr]
      simp only [Option.bind_some]
      cases r with
      | true => rw [if_pos rfl]; exact ⟨_, rfl, .inr (.inr rfl)⟩
      | false => rw [if_neg (by simp)]; exact ⟨_, rfl, .inl rfl⟩

theorem j3_some (s : ByteArray) (hs : s.size ≤ 9223372036854775806) (x : Int) (h0 : 0 ≤ x) (h1 : x ≤ s.size) (k : Nat) (hk : s.size + 2 < k) : ∃ t, spec_wrNumber.j3 k s x = some t ∧ Num t := by
  obtain ⟨k, rfl⟩ : ∃ m, k = m + 1 := ⟨k - 1, by omega⟩
  simp only [spec_wrNumber.j3]
  rw [if_pos h0, if_pos h1]
  obtain ⟨r, hr, hr1⟩ := digits_f (s.extract 0 (x : Int).toNat) (by have := extract_le s 0 (x : Int).toNat; omega) 1 18 k (by have := extract_le s 0 (x : Int).toNat; omega)
  rw [hr]
  simp only [Option.bind_some]
  cases r with
  | true =>
    have := hr1 rfl
    rw [if_pos rfl, if_pos (by omega)]
    split
    · exact j4_some s hs x h0 h1 _ k (by omega)
    · exact j4_some s hs x h0 h1 _ k (by omega)
  | false =>
    rw [if_neg (by simp)]
    exact j4_some s hs x h0 h1 _ k (by omega)

theorem l0_some (s : ByteArray) (hs : s.size ≤ 9223372036854775806) (d : Nat) : ∀ (k i : Nat), i ≤ s.size → s.size - i = d → d + s.size + 3 < k → ∃ t, spec_wrNumber.l0 k s (i : Int) = some t ∧ Num t := by
  induction d with
  | zero =>
    intro k i h1 h2 h3
    obtain ⟨k, rfl⟩ : ∃ m, k = m + 1 := ⟨k - 1, by omega⟩
    simp only [spec_wrNumber.l0]
    rw [if_neg (by omega)]
    exact j3_some s hs _ (by omega) (by omega) k (by omega)
  | succ d ih =>
    intro k i h1 h2 h3
    obtain ⟨k, rfl⟩ : ∃ m, k = m + 1 := ⟨k - 1, by omega⟩
    have hw : wrap64 ((i : Int) + 1) = ((i + 1 : Nat) : Int) := by unfold wrap64; omega
    simp only [spec_wrNumber.l0, hw]
    rw [if_pos (by omega), if_pos (by omega)]
    split
    · exact j3_some s hs _ (by omega) (by omega) k (by omega)
    · exact ih k (i + 1) (by omega) (by omega) (by omega)

theorem j1_some (s : ByteArray) (hs : s.size ≤ 9223372036854775806) (k : Nat) (hk : 2 * s.size + 5 < k) : ∃ t, spec_wrNumber.j1 k s = some t ∧ Num t := by
  obtain ⟨k, rfl⟩ : ∃ m, k = m + 1 := ⟨k - 1, by omega⟩
  exact l0_some s hs s.size k 0 (by omega) (by omega) (by omega)

theorem j0_some (s : ByteArray) (hs : s.size ≤ 9223372036854775806) (b : Bool) (hb : b = true → 1 ≤ s.size) (k : Nat) (hk : 2 * s.size + 6 < k) : ∃ t, spec_wrNumber.j0 k s b = some t ∧ Num t := by
  obtain ⟨k, rfl⟩ : ∃ m, k = m + 1 := ⟨k - 1, by omega⟩
  simp only [spec_wrNumber.j0]
  cases b with
  | true =>
    have := hb rfl
    rw [if_pos rfl, if_pos (by omega)]
    exact j1_some _ (by have := extract_le s 1 s.size; omega) k (by have := extract_le s 1 s.size; omega)
  | false => rw [if_neg (by simp)]; exact j1_some s hs k (by omega)

theorem toList_nil (s : ByteArray) (h : s.toList ≠ []) : 0 < s.size := by
  refine Nat.pos_of_ne_zero fun e => h ?_
  rw [ByteArray.toList_eq]
  exact List.eq_nil_of_length_eq_zero (by rw [Array.length_toList]; exact e)

theorem number_some (s : ByteArray) (hs : s.size ≤ 9223372036854775806) (k : Nat) (hk : 2 * s.size + 6 < k) : ∃ t, spec_wrNumber.f k s = some t ∧ Num t := by
  unfold spec_wrNumber.f
  by_cases h : s.toList = ([] : List UInt8)
  · rw [if_pos h]; exact j0_some s hs _ (fun e => by cases e) k hk
  · have := toList_nil s h
    rw [if_neg h, if_pos (by omega)]
    split
    · exact j0_some s hs _ (fun _ => this) k hk
    · exact j0_some s hs _ (fun _ => this) k hk

theorem known_other (s : ByteArray) (hs : s.size ≤ 9223372036854775806) (h0 : s.toList ≠ [110, 117, 108, 108]) (h1 : s.toList ≠ [78, 117, 108, 108]) (h2 : s.toList ≠ [78, 85, 76, 76]) (h3 : s.toList ≠ [126]) (h4 : s.toList ≠ [116, 114, 117, 101]) (h5 : s.toList ≠ [84, 114, 117, 101]) (h6 : s.toList ≠ [84, 82, 85, 69]) (h7 : s.toList ≠ [102, 97, 108, 115, 101]) (h8 : s.toList ≠ [70, 97, 108, 115, 101]) (h9 : s.toList ≠ [70, 65, 76, 83, 69]) (h10 : s.toList ≠ [46, 105, 110, 102]) (h11 : s.toList ≠ [46, 73, 110, 102]) (h12 : s.toList ≠ [46, 73, 78, 70]) (h13 : s.toList ≠ [45, 46, 105, 110, 102]) (h14 : s.toList ≠ [45, 46, 73, 110, 102]) (h15 : s.toList ≠ [45, 46, 73, 78, 70]) (h16 : s.toList ≠ [46, 110, 97, 110]) (h17 : s.toList ≠ [46, 78, 97, 78]) (h18 : s.toList ≠ [46, 78, 65, 78]) (h19 : s.toList ≠ []) (h20 : s.toList ≠ [43, 46, 105, 110, 102]) (h21 : s.toList ≠ [43, 46, 73, 110, 102]) (h22 : s.toList ≠ [43, 46, 73, 78, 70]) : ∃ k, laws_nbKnown.f k s = some 0 := by
  obtain ⟨t, ht, hn⟩ := number_some s hs (2 * s.size + 7) (by omega)
  refine ⟨2 * s.size + 10, ?_⟩
  have hk : spec_Known.f (2 * s.size + 10) s = some t := by
    simp only [spec_Known.f, spec_Known.j0, spec_Known.j1, spec_Known.j2, h0, h1, h2, h3, h4, h5, h6, h7, h8, h9, h10, h11, h12, h13, h14, h15, h16, h17, h18, h19, h20, h21, h22, if_false, beq_eq_false_iff_ne.mpr h0, beq_eq_false_iff_ne.mpr h1, beq_eq_false_iff_ne.mpr h2, beq_eq_false_iff_ne.mpr h3, beq_eq_false_iff_ne.mpr h4, beq_eq_false_iff_ne.mpr h5, beq_eq_false_iff_ne.mpr h6, beq_eq_false_iff_ne.mpr h7, beq_eq_false_iff_ne.mpr h8, beq_eq_false_iff_ne.mpr h9, beq_eq_false_iff_ne.mpr h10, beq_eq_false_iff_ne.mpr h11, beq_eq_false_iff_ne.mpr h12, beq_eq_false_iff_ne.mpr h13, beq_eq_false_iff_ne.mpr h14, beq_eq_false_iff_ne.mpr h15, beq_eq_false_iff_ne.mpr h16, beq_eq_false_iff_ne.mpr h17, beq_eq_false_iff_ne.mpr h18, beq_eq_false_iff_ne.mpr h19, beq_eq_false_iff_ne.mpr h20, beq_eq_false_iff_ne.mpr h21, beq_eq_false_iff_ne.mpr h22, Bool.false_eq_true, ht, Option.bind_some]
  unfold laws_nbKnown.f
  rw [hk]
  simp only [Option.bind_some]
  rcases hn with rfl | rfl | rfl <;> rfl
theorem word0 : laws_nbKnown.f 5 ⟨#[110, 117, 108, 108]⟩ = some 22 := by decide +kernel
theorem word1 : laws_nbKnown.f 5 ⟨#[78, 117, 108, 108]⟩ = some 22 := by decide +kernel
theorem word2 : laws_nbKnown.f 5 ⟨#[78, 85, 76, 76]⟩ = some 22 := by decide +kernel
theorem word3 : laws_nbKnown.f 5 ⟨#[126]⟩ = some 22 := by decide +kernel
theorem word4 : laws_nbKnown.f 5 ⟨#[116, 114, 117, 101]⟩ = some 32 := by decide +kernel
theorem word5 : laws_nbKnown.f 5 ⟨#[84, 114, 117, 101]⟩ = some 32 := by decide +kernel
theorem word6 : laws_nbKnown.f 5 ⟨#[84, 82, 85, 69]⟩ = some 32 := by decide +kernel
theorem word7 : laws_nbKnown.f 5 ⟨#[102, 97, 108, 115, 101]⟩ = some 32 := by decide +kernel
theorem word8 : laws_nbKnown.f 5 ⟨#[70, 97, 108, 115, 101]⟩ = some 32 := by decide +kernel
theorem word9 : laws_nbKnown.f 5 ⟨#[70, 65, 76, 83, 69]⟩ = some 32 := by decide +kernel
theorem word10 : laws_nbKnown.f 5 ⟨#[46, 105, 110, 102]⟩ = some 24 := by decide +kernel
theorem word11 : laws_nbKnown.f 5 ⟨#[46, 73, 110, 102]⟩ = some 24 := by decide +kernel
theorem word12 : laws_nbKnown.f 5 ⟨#[46, 73, 78, 70]⟩ = some 24 := by decide +kernel
theorem word13 : laws_nbKnown.f 5 ⟨#[45, 46, 105, 110, 102]⟩ = some 24 := by decide +kernel
theorem word14 : laws_nbKnown.f 5 ⟨#[45, 46, 73, 110, 102]⟩ = some 24 := by decide +kernel
theorem word15 : laws_nbKnown.f 5 ⟨#[45, 46, 73, 78, 70]⟩ = some 24 := by decide +kernel
theorem word16 : laws_nbKnown.f 5 ⟨#[46, 110, 97, 110]⟩ = some 25 := by decide +kernel
theorem word17 : laws_nbKnown.f 5 ⟨#[46, 78, 97, 78]⟩ = some 25 := by decide +kernel
theorem word18 : laws_nbKnown.f 5 ⟨#[46, 78, 65, 78]⟩ = some 25 := by decide +kernel
theorem other0 : laws_nbKnown.f 30 ⟨#[]⟩ = some 0 := by decide +kernel
theorem other1 : laws_nbKnown.f 30 ⟨#[43, 46, 105, 110, 102]⟩ = some 0 := by decide +kernel
theorem other2 : laws_nbKnown.f 30 ⟨#[43, 46, 73, 110, 102]⟩ = some 0 := by decide +kernel
theorem other3 : laws_nbKnown.f 30 ⟨#[43, 46, 73, 78, 70]⟩ = some 0 := by decide +kernel

theorem of_toList (s : ByteArray) (l : List UInt8) (h : s.toList = l) : s = ⟨l.toArray⟩ := by
  rw [ByteArray.toList_eq] at h
  cases s with
  | mk a => subst h; simp

/-- A text is 0 to the reference, or one of the words. -/
theorem known_any (s : ByteArray) (hs : s.size ≤ 9223372036854775806) : ∃ k n, laws_nbKnown.f k s = some n ∧ (n = 0 ∨ (s.toList, n) ∈ words) := by
  by_cases h0 : s.toList = [110, 117, 108, 108]
  · have e := of_toList s _ h0
    refine ⟨5, 22, by rw [e]; exact word0, .inr (by rw [h0]; simp [words])⟩
  by_cases h1 : s.toList = [78, 117, 108, 108]
  · have e := of_toList s _ h1
    refine ⟨5, 22, by rw [e]; exact word1, .inr (by rw [h1]; simp [words])⟩
  by_cases h2 : s.toList = [78, 85, 76, 76]
  · have e := of_toList s _ h2
    refine ⟨5, 22, by rw [e]; exact word2, .inr (by rw [h2]; simp [words])⟩
  by_cases h3 : s.toList = [126]
  · have e := of_toList s _ h3
    refine ⟨5, 22, by rw [e]; exact word3, .inr (by rw [h3]; simp [words])⟩
  by_cases h4 : s.toList = [116, 114, 117, 101]
  · have e := of_toList s _ h4
    refine ⟨5, 32, by rw [e]; exact word4, .inr (by rw [h4]; simp [words])⟩
  by_cases h5 : s.toList = [84, 114, 117, 101]
  · have e := of_toList s _ h5
    refine ⟨5, 32, by rw [e]; exact word5, .inr (by rw [h5]; simp [words])⟩
  by_cases h6 : s.toList = [84, 82, 85, 69]
  · have e := of_toList s _ h6
    refine ⟨5, 32, by rw [e]; exact word6, .inr (by rw [h6]; simp [words])⟩
  by_cases h7 : s.toList = [102, 97, 108, 115, 101]
  · have e := of_toList s _ h7
    refine ⟨5, 32, by rw [e]; exact word7, .inr (by rw [h7]; simp [words])⟩
  by_cases h8 : s.toList = [70, 97, 108, 115, 101]
  · have e := of_toList s _ h8
    refine ⟨5, 32, by rw [e]; exact word8, .inr (by rw [h8]; simp [words])⟩
  by_cases h9 : s.toList = [70, 65, 76, 83, 69]
  · have e := of_toList s _ h9
    refine ⟨5, 32, by rw [e]; exact word9, .inr (by rw [h9]; simp [words])⟩
  by_cases h10 : s.toList = [46, 105, 110, 102]
  · have e := of_toList s _ h10
    refine ⟨5, 24, by rw [e]; exact word10, .inr (by rw [h10]; simp [words])⟩
  by_cases h11 : s.toList = [46, 73, 110, 102]
  · have e := of_toList s _ h11
    refine ⟨5, 24, by rw [e]; exact word11, .inr (by rw [h11]; simp [words])⟩
  by_cases h12 : s.toList = [46, 73, 78, 70]
  · have e := of_toList s _ h12
    refine ⟨5, 24, by rw [e]; exact word12, .inr (by rw [h12]; simp [words])⟩
  by_cases h13 : s.toList = [45, 46, 105, 110, 102]
  · have e := of_toList s _ h13
    refine ⟨5, 24, by rw [e]; exact word13, .inr (by rw [h13]; simp [words])⟩
  by_cases h14 : s.toList = [45, 46, 73, 110, 102]
  · have e := of_toList s _ h14
    refine ⟨5, 24, by rw [e]; exact word14, .inr (by rw [h14]; simp [words])⟩
  by_cases h15 : s.toList = [45, 46, 73, 78, 70]
  · have e := of_toList s _ h15
    refine ⟨5, 24, by rw [e]; exact word15, .inr (by rw [h15]; simp [words])⟩
  by_cases h16 : s.toList = [46, 110, 97, 110]
  · have e := of_toList s _ h16
    refine ⟨5, 25, by rw [e]; exact word16, .inr (by rw [h16]; simp [words])⟩
  by_cases h17 : s.toList = [46, 78, 97, 78]
  · have e := of_toList s _ h17
    refine ⟨5, 25, by rw [e]; exact word17, .inr (by rw [h17]; simp [words])⟩
  by_cases h18 : s.toList = [46, 78, 65, 78]
  · have e := of_toList s _ h18
    refine ⟨5, 25, by rw [e]; exact word18, .inr (by rw [h18]; simp [words])⟩
  by_cases h19 : s.toList = []
  · have e := of_toList s _ h19
    exact ⟨30, 0, by rw [e]; exact other0, .inl rfl⟩
  by_cases h20 : s.toList = [43, 46, 105, 110, 102]
  · have e := of_toList s _ h20
    exact ⟨30, 0, by rw [e]; exact other1, .inl rfl⟩
  by_cases h21 : s.toList = [43, 46, 73, 110, 102]
  · have e := of_toList s _ h21
    exact ⟨30, 0, by rw [e]; exact other2, .inl rfl⟩
  by_cases h22 : s.toList = [43, 46, 73, 78, 70]
  · have e := of_toList s _ h22
    exact ⟨30, 0, by rw [e]; exact other3, .inl rfl⟩
  obtain ⟨k, hk⟩ := known_other s hs h0 h1 h2 h3 h4 h5 h6 h7 h8 h9 h10 h11 h12 h13 h14 h15 h16 h17 h18 h19 h20 h21 h22
  exact ⟨k, 0, hk, .inl rfl⟩
end Go.Proofs.YtlkbhmmelejmjaaGreatDoor.WordsPure
