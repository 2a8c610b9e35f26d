/- Plain facts on UTF-8: a valid text is the encodings of its runes, one behind the other, and back. No program in sight; no condition. -/
import Derived.Lib.MapLaws
import Derived.Lib.ValidU
import Derived.Laws.RangeAny
import Derived.Laws.IdiomStrings
namespace Go.Proofs.YtmildhkegpmacaaDoor.Utf
open Go Go.Lib
set_option linter.unusedVariables false
set_option linter.unusedSimpArgs false

abbrev B (s : ByteArray) : List UInt8 := s.data.toList
def ba (l : List UInt8) : ByteArray := ⟨l.toArray⟩
theorem B_ba (l : List UInt8) : B (ba l) = l := rfl
theorem ba_B (s : ByteArray) : ba (B s) = s := by cases s; simp [ba, B]
theorem ba_size (l : List UInt8) : (ba l).size = l.length := by simp [ba, ByteArray.size]
theorem B_length (s : ByteArray) : (B s).length = s.size := by simp [B]
theorem eq_of_B {s t : ByteArray} (h : B s = B t) : s = t := by rw [← ba_B s, ← ba_B t, h]

/-- A character that has an encoding of its own. -/
def Scalar (r : Int) : Prop := 0 ≤ r ∧ (r < 55296 ∨ (57344 ≤ r ∧ r ≤ 1114111))

/-- The encodings of characters. -/
def enc (rs : List Int) : List UInt8 := rs.flatMap encodeRune
theorem enc_nil : enc [] = [] := rfl
theorem enc_cons (r : Int) (rs : List Int) : enc (r :: rs) = encodeRune r ++ enc rs := by simp [enc]
theorem enc_append (a b : List Int) : enc (a ++ b) = enc a ++ enc b := by simp [enc]

theorem encodeRune_length (r : Int) : 1 ≤ (encodeRune r).length ∧ (encodeRune r).length ≤ 4 := by
  unfold encodeRune; rw [List.length_map]; exact encodeRuneZ_length r

theorem encodeRune_ascii (r : Int) (h0 : 0 ≤ r) (h1 : r ≤ 127) : encodeRune r = [r.toNat.toUInt8] := by
  unfold encodeRune; rw [encodeRuneZ_one h0 h1]; rfl

theorem toByte' (z : Int) (h0 : 0 ≤ z) (h1 : z < 256) : (z.toNat.toUInt8).toNat = z.toNat := by
  simp [UInt8.toNat_ofNat']; omega

theorem decode_ge (n b0 b1 b2 b3 m : Nat) (h : n ≤ m) (h4 : 1 ≤ (decodeN n b0 b1 b2 b3).2) (e : decodeN n b0 b1 b2 b3 ≠ (65533, 1)) : decodeN m b0 b1 b2 b3 = decodeN n b0 b1 b2 b3 := by
  rcases decodeN_shape n b0 b1 b2 b3 with ⟨c, e'⟩ | ⟨c1, c2, c3, cv, e'⟩ | ⟨c1, c2, c3, c4, cv, cs, e'⟩ | ⟨c1, c2, c3, c4, c5, cv, cw, e'⟩ | e'
  · rw [e']; unfold decodeN; rw [if_pos c]
  · rw [e']; unfold decodeN; rw [if_neg (by omega), if_pos (by omega), if_pos (by omega)]
  · rw [e']; unfold decodeN; rw [if_neg (by omega), if_neg (by omega), if_pos (by omega), if_pos (by omega)]
  · rw [e']; unfold decodeN; rw [if_neg (by omega), if_neg (by omega), if_neg (by omega), if_pos (by omega), if_pos (by omega)]
  · exact absurd e' e

/-- What is decoded behind an encoding's beginning is what was encoded. -/
theorem decode_encode (r : Int) (h : Scalar r) (t : List UInt8) : decodeL (encodeRune r ++ t) = (r.toNat, (encodeRune r).length) := by
  obtain ⟨h0, h1⟩ := h
  rw [decodeL_N]
  by_cases a : r ≤ 127
  · have e : encodeRune r = [r.toNat.toUInt8] := encodeRune_ascii r h0 a
    rw [e]
    have := toByte' r h0 (by omega)
    simp only [List.cons_append, List.nil_append, List.getD_cons_zero, List.length_cons]
    unfold decodeN
    rw [if_pos (by omega)]
    simp [this]
  · by_cases b : r ≤ 2047
    · have e : encodeRune r = [(192 + r / 64).toNat.toUInt8, (128 + r % 64).toNat.toUInt8] := by unfold encodeRune; rw [encodeRuneZ_two (by omega) b]; rfl
      rw [e]
      have k0 := toByte' (192 + r / 64) (by omega) (by omega)
      have k1 := toByte' (128 + r % 64) (by omega) (by omega)
      simp only [List.cons_append, List.nil_append, List.getD_cons_zero, List.getD_cons_succ, List.length_cons, k0, k1]
      unfold decodeN
      rw [if_neg (by omega), if_pos (by omega), if_pos (by omega)]
      simp; omega
    · by_cases c : r ≤ 65535
      · have e : encodeRune r = [(224 + r / 4096).toNat.toUInt8, (128 + r / 64 % 64).toNat.toUInt8, (128 + r % 64).toNat.toUInt8] := by unfold encodeRune; rw [encodeRuneZ_three (by omega)]; rfl
        rw [e]
        have k0 := toByte' (224 + r / 4096) (by omega) (by omega)
        have k1 := toByte' (128 + r / 64 % 64) (by omega) (by omega)
        have k2 := toByte' (128 + r % 64) (by omega) (by omega)
        simp only [List.cons_append, List.nil_append, List.getD_cons_zero, List.getD_cons_succ, List.length_cons, k0, k1, k2]
        unfold decodeN
        rw [if_neg (by omega), if_neg (by omega), if_pos (by omega), if_pos (by omega)]
        simp; omega
      · have e : encodeRune r = [(240 + r / 262144).toNat.toUInt8, (128 + r / 4096 % 64).toNat.toUInt8, (128 + r / 64 % 64).toNat.toUInt8, (128 + r % 64).toNat.toUInt8] := by unfold encodeRune; rw [encodeRuneZ_four (by omega) (by omega)]; rfl
        rw [e]
        have k0 := toByte' (240 + r / 262144) (by omega) (by omega)
        have k1 := toByte' (128 + r / 4096 % 64) (by omega) (by omega)
        have k2 := toByte' (128 + r / 64 % 64) (by omega) (by omega)
        have k3 := toByte' (128 + r % 64) (by omega) (by omega)
        simp only [List.cons_append, List.nil_append, List.getD_cons_zero, List.getD_cons_succ, List.length_cons, k0, k1, k2, k3]
        unfold decodeN
        rw [if_neg (by omega), if_neg (by omega), if_neg (by omega), if_pos (by omega), if_pos (by omega)]
        simp; omega

/-- A rune that was decoded from valid bytes is a character. -/
theorem scalar_decode (l : List UInt8) (hv : ¬ ((decodeL l).1 = 65533 ∧ (decodeL l).2 = 1)) : Scalar ((decodeL l).1 : Int) := by
  rw [decodeL_N] at hv ⊢
  unfold Scalar
  have k0 := (l.getD 0 0).toNat_lt
  rcases decodeN_shape l.length (l.getD 0 0).toNat (l.getD 1 0).toNat (l.getD 2 0).toNat (l.getD 3 0).toNat with ⟨c, e⟩ | ⟨c1, c2, c3, cv, e⟩ | ⟨c1, c2, c3, c4, cv, cs, e⟩ | ⟨c1, c2, c3, c4, c5, cv, cw, e⟩ | e
  · rw [e]; dsimp only; omega
  · rw [e]; dsimp only; omega
  · rw [e]; dsimp only; omega
  · rw [e]; dsimp only; omega
  · rw [e] at hv; exact absurd ⟨rfl, rfl⟩ hv

theorem validGo_enc : ∀ (n : Nat) (l : List UInt8), l.length ≤ n → validGoD n l = true → ∃ rs : List Int, (∀ r ∈ rs, Scalar r) ∧ l = enc rs
  | 0, l, h, _ => ⟨[], by simp, by have e : l = [] := List.eq_nil_of_length_eq_zero (by omega)
                                   rw [e]; rfl⟩
  | n + 1, l, h, hv => by
    unfold validGoD at hv
    by_cases hl : l = []
    · exact ⟨[], by simp, by rw [hl]; rfl⟩
    · rw [if_neg hl] at hv
      by_cases hd : (decodeL l).1 = 65533 ∧ (decodeL l).2 = 1
      · rw [if_pos hd] at hv; cases hv
      · rw [if_neg hd] at hv
        have hw := decodeL_width l
        obtain ⟨rs, h1, h2⟩ := validGo_enc n (l.drop (decodeL l).2) (by rw [List.length_drop]; omega) hv
        refine ⟨((decodeL l).1 : Int) :: rs, ?_, ?_⟩
        · intro r hr
          rcases List.mem_cons.1 hr with rfl | hr
          · exact scalar_decode l hd
          · exact h1 r hr
        · rw [enc_cons, encode_decode l hl hd, ← h2, List.take_append_drop]

/-- A valid text is the encodings of its runes. -/
theorem valid_enc (l : List UInt8) (h : validD l = true) : ∃ rs : List Int, (∀ r ∈ rs, Scalar r) ∧ l = enc rs := validGo_enc l.length l (Nat.le_refl _) h

theorem scalar_not_bad (r : Int) (h : Scalar r) : ¬ (r.toNat = 65533 ∧ (encodeRune r).length = 1) := by
  rintro ⟨h1, h2⟩
  have : r = 65533 := by have := h.1; omega
  subst this
  unfold encodeRune at h2
  rw [encodeRuneZ_three (by omega)] at h2
  simp at h2

theorem validGo_of_enc : ∀ (n : Nat) (rs : List Int), (∀ r ∈ rs, Scalar r) → validGoD n (enc rs) = true
  | 0, _, _ => rfl
  | n + 1, [], _ => by simp [validGoD, enc_nil]
  | n + 1, r :: rs, h => by
    unfold validGoD
    have hr := h r (by simp)
    rw [enc_cons, decode_encode r hr]
    split
    · rfl
    · rw [if_neg (scalar_not_bad r hr)]
      dsimp only
      rw [List.drop_left]
      exact validGo_of_enc n rs (fun x hx => h x (by simp [hx]))

theorem valid_of_enc (rs : List Int) (h : ∀ r ∈ rs, Scalar r) : validD (enc rs) = true := validGo_of_enc _ rs h

/-! ### the runes of a string, as the conversion makes them -/
def runes (s : ByteArray) : Nat → Nat → List Int
  | 0, _ => []
  | f + 1, i => if i < s.size then ((Utf8.decode s i).1 : Int) :: runes s f (i + (Utf8.decode s i).2) else []

theorem runesFrom_eq (s : ByteArray) : ∀ (f i : Nat) (acc : Array Value), Conv.runesFrom s f i acc = acc ++ ((runes s f i).map (Value.int .i32)).toArray
  | 0, _, acc => by simp [Conv.runesFrom, runes]
  | f + 1, i, acc => by
    unfold Conv.runesFrom runes
    by_cases h : i < s.size
    · simp only [h, if_true]
      rw [runesFrom_eq s f]
      simp
    · simp [h]

theorem runes_length (s : ByteArray) : ∀ (f i : Nat), (runes s f i).length ≤ f
  | 0, _ => by simp [runes]
  | f + 1, i => by
    unfold runes
    split
    · have := runes_length s f (i + (Utf8.decode s i).2); simp; omega
    · simp

theorem decode_drop (s : ByteArray) (i : Nat) : Utf8.decode s i = decodeL ((B s).drop i) := by
  rw [decode_N, decodeL_N]
  simp [List.getD, List.getElem?_drop]

theorem runes_enc (s : ByteArray) : ∀ (f i : Nat) (rs : List Int), (∀ r ∈ rs, Scalar r) → (B s).drop i = enc rs → s.size ≤ i + f → runes s f i = rs
  | 0, i, [], _, _, _ => rfl
  | 0, i, r :: rs, _, he, hf => by
    have h1 : (B s).drop i = [] := List.drop_eq_nil_of_le (by rw [B_length]; omega)
    rw [h1, enc_cons] at he
    have := (encodeRune_length r).1
    have := congrArg List.length he
    simp at this
    omega
  | f + 1, i, rs, h, he, hf => by
    unfold runes
    by_cases hi : i < s.size
    · rw [if_pos hi, decode_drop, he]
      cases rs with
      | nil =>
        have := congrArg List.length he
        simp [enc_nil, B_length] at this
        omega
      | cons r rs =>
        have hr := h r (by simp)
        rw [enc_cons, decode_encode r hr]
        dsimp only
        have hd : (B s).drop (i + (encodeRune r).length) = enc rs := by
          rw [← List.drop_drop, he, enc_cons, List.drop_left]
        rw [runes_enc s f (i + (encodeRune r).length) rs (fun x hx => h x (by simp [hx])) hd (by have := (encodeRune_length r).1; omega)]
        congr 1
        have := hr.1
        omega
    · rw [if_neg hi]
      have h1 : (B s).drop i = [] := List.drop_eq_nil_of_le (by rw [B_length]; omega)
      rw [h1] at he
      cases rs with
      | nil => rfl
      | cons r rs =>
        rw [enc_cons] at he
        have := (encodeRune_length r).1
        have := congrArg List.length he
        simp at this
        omega

/-- The runes of the encodings of characters. -/
theorem runes_of (s : ByteArray) (rs : List Int) (h : ∀ r ∈ rs, Scalar r) (he : B s = enc rs) : runes s s.size 0 = rs :=
  runes_enc s s.size 0 rs h (by rw [List.drop_zero]; exact he) (by omega)

theorem enc_length (rs : List Int) : rs.length ≤ (enc rs).length ∧ (enc rs).length ≤ 4 * rs.length := by
  induction rs with
  | nil => simp [enc_nil]
  | cons r rs ih =>
    have := encodeRune_length r
    rw [enc_cons]
    simp
    omega
end Go.Proofs.YtmildhkegpmacaaDoor.Utf
