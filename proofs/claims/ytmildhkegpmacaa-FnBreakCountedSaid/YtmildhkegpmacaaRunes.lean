/- Plain facts: the runes of a string as a list, and how many line breaks a list of bytes or runes has. No condition. -/
import Derived.Laws.RangeAny
import Derived.Laws.IdiomStrings
namespace Go.Proofs.Ytmildhkegpmacaa.Runes
open Go

/-- The runes of a string from place i on, by at most 'fuel' of them. -/
def runes (s : ByteArray) : Nat → Nat → List Int
  | 0, _ => []
  | f + 1, i => if i < s.size then ((Utf8.decode s i).1 : Int) :: runes s f (i + (Utf8.decode s i).2) else []

theorem runesFrom_eq (s : ByteArray) : ∀ (f i : Nat) (acc : Array Value), Conv.runesFrom s f i acc = acc ++ ((runes s f i).map (Value.int .i32)).toArray
  | 0, _, acc => by simp [Conv.runesFrom, runes]
  | f + 1, i, acc => by
    unfold Conv.runesFrom runes
    by_cases h : i < s.size
    · simp only [h, if_true]
      rw [runesFrom_eq s f]
      simp
    · simp [h]

theorem runes_length (s : ByteArray) : ∀ (f i : Nat), (runes s f i).length ≤ f
  | 0, _ => by simp [runes]
  | f + 1, i => by
    unfold runes
    split
    · have := runes_length s f (i + (Utf8.decode s i).2); simp; omega
    · simp

/-- How many line breaks; the flag: a carriage return stands ahead. -/
def cnt : Bool → List Int → Nat
  | _, [] => 0
  | p, c :: t => (if c = 13 then 1 else if c = 10 ∧ p = false then 1 else 0) + cnt (decide (c = 13)) t

theorem cnt_le : ∀ (l : List Int) (p : Bool), cnt p l ≤ l.length
  | [], _ => by simp [cnt]
  | c :: t, p => by
    have := cnt_le t (decide (c = 13))
    unfold cnt
    split <;> (try split) <;> simp <;> omega

theorem cnt_flag (c : Int) (t : List Int) (h : c ≠ 10) (p q : Bool) : cnt p (c :: t) = cnt q (c :: t) := by
  unfold cnt; simp [h]

/-- Where no line feed is, the flag says nothing. -/
theorem cnt_true (l : List Int) (h : ∀ c ∈ l.head?, c ≠ 10) : cnt true l = cnt false l := by
  cases l with
  | nil => simp [cnt]
  | cons c t => exact cnt_flag c t (h c (by simp)) _ _

/-- Large numbers count for nothing. -/
theorem cnt_skip (xs t : List Int) (h : ∀ c ∈ xs, 128 ≤ c) (hne : xs ≠ []) (p : Bool) : cnt p (xs ++ t) = cnt false t := by
  induction xs generalizing p with
  | nil => exact absurd rfl hne
  | cons c r ih =>
    have hc := h c (by simp)
    have e1 : (c = 13) = False := by simp; omega
    have e2 : (c = 10) = False := by simp; omega
    simp only [List.cons_append, cnt, e1, e2, if_false, false_and, decide_false]
    by_cases hr : r = []
    · simp [hr]
    · rw [ih (fun x hx => h x (by simp [hx])) hr]; simp

/-- A string's bytes from place i on, as numbers. -/
def bytesAt (s : ByteArray) (i : Nat) : List Int := (s.data.toList.drop i).map fun b => (b.toNat : Int)

theorem bytesAt_cons (s : ByteArray) (i : Nat) (h : i < s.size) : bytesAt s i = ((s[i]'h).toNat : Int) :: bytesAt s (i + 1) := by
  unfold bytesAt
  have h' : i < s.data.toList.length := by simpa using h
  rw [List.drop_eq_getElem_cons h']
  rfl

theorem bytesAt_end (s : ByteArray) (i : Nat) (h : ¬ i < s.size) : bytesAt s i = [] := by
  unfold bytesAt
  rw [List.drop_eq_nil_of_le (by simp; exact Nat.le_of_not_lt h)]
  rfl

theorem get_high (n : Nat) (h : (n / 64 == 2) = true) : 128 ≤ n := by
  have : n / 64 = 2 := by simpa using h
  omega

theorem decode_width (s : ByteArray) (i : Nat) (h : i < s.size) (ha : 128 ≤ (s[i]'h).toNat) :
    i + (Utf8.decode s i).2 ≤ s.size ∧ ∀ k, k < (Utf8.decode s i).2 → 128 ≤ (s.get! (i + k)).toNat := by
  have hn : ¬ (s[i]'h).toNat < 128 := by omega
  have g0 : s.get! (i + 0) = s[i]'h := get_at s i h
  have one : i + 1 ≤ s.size ∧ ∀ k, k < 1 → 128 ≤ (s.get! (i + k)).toNat := ⟨h, fun k hk => by obtain rfl : k = 0 := by omega
                                                                                              rw [g0]; exact ha⟩
  simp only [Utf8.decode, g0, hn, if_false]
  split
  · rename_i h2
    simp only [Bool.and_eq_true, decide_eq_true_eq] at h2
    split
    · refine ⟨by omega, fun k hk => ?_⟩
      match k, hk with
      | 0, _ => rw [g0]; exact ha
      | 1, _ => exact get_high _ h2.2.2
    · exact one
  · split
    · rename_i h2
      simp only [Bool.and_eq_true, decide_eq_true_eq] at h2
      split
      · refine ⟨by omega, fun k hk => ?_⟩
        match k, hk with
        | 0, _ => rw [g0]; exact ha
        | 1, _ => exact get_high _ h2.1.2.2
        | 2, _ => exact get_high _ h2.2.2
      · exact one
    · split
      · rename_i h2
        simp only [Bool.and_eq_true, decide_eq_true_eq] at h2
        split
        · refine ⟨by omega, fun k hk => ?_⟩
          match k, hk with
          | 0, _ => rw [g0]; exact ha
          | 1, _ => exact get_high _ h2.1.1.2.2
          | 2, _ => exact get_high _ h2.1.2.2
          | 3, _ => exact get_high _ h2.2.2
        · exact one
      · exact one

/-- The bytes from i on: those of one rune, and those behind. -/
theorem bytesAt_split (s : ByteArray) : ∀ (n i : Nat), i + n ≤ s.size → (∀ k, k < n → 128 ≤ (s.get! (i + k)).toNat) → ∃ xs : List Int, bytesAt s i = xs ++ bytesAt s (i + n) ∧ xs.length = n ∧ ∀ c ∈ xs, 128 ≤ c
  | 0, i, _, _ => ⟨[], by simp, rfl, by simp⟩
  | n + 1, i, h, hk => by
    obtain ⟨xs, e, hl, hx⟩ := bytesAt_split s n (i + 1) (by omega) (fun k h' => by have := hk (k + 1) (by omega); rwa [show i + 1 + k = i + (k + 1) by omega])
    have hi : i < s.size := by omega
    refine ⟨((s[i]'hi).toNat : Int) :: xs, ?_, by simp [hl], ?_⟩
    · rw [bytesAt_cons s i hi, e, show i + 1 + n = i + (n + 1) by omega]; rfl
    · intro c hc
      rcases List.mem_cons.1 hc with rfl | hc
      · have := hk 0 (by omega)
        rw [get_at s i hi] at this
        omega
      · exact hx c hc

/-- As many breaks in the runes as in the bytes. -/
theorem cnt_runes (s : ByteArray) : ∀ (f i : Nat) (p : Bool), s.size ≤ i + f → cnt p (runes s f i) = cnt p (bytesAt s i)
  | 0, i, p, h => by rw [bytesAt_end s i (by omega)]; rfl
  | f + 1, i, p, h => by
    unfold runes
    by_cases hi : i < s.size
    · rw [if_pos hi]
      by_cases ha : (s[i]'hi).toNat < 128
      · rw [decode_ascii s i hi ha, bytesAt_cons s i hi]
        simp only [cnt]
        rw [cnt_runes s f (i + 1) _ (by omega)]
      · obtain ⟨hw, hb⟩ := decode_width s i hi (by omega)
        obtain ⟨hr, h1⟩ := decode_high s i hi (by omega)
        obtain ⟨xs, e, hl, hx⟩ := bytesAt_split s _ i hw hb
        rw [e, cnt_skip xs _ hx (by intro h0; simp [h0] at hl; omega)]
        rw [← cnt_runes s f (i + (Utf8.decode s i).2) false (by omega)]
        exact cnt_skip [((Utf8.decode s i).1 : Int)] _ (by intro c hc; simp at hc; omega) (by simp) p
    · rw [if_neg hi, bytesAt_end s i hi]

end Go.Proofs.Ytmildhkegpmacaa.Runes
