/- Parts of the proof of FnPartLines, one behind the other: QUtf, LnPure. Each part says ahead of itself what it proves. -/
import Derived.Lib.MapLaws
import Derived.Lib.ValidU
import Derived.Laws.RangeAny
import Derived.Laws.IdiomStrings

/- Plain facts on UTF-8: a valid text is the encodings of its runes, one behind the other, and back. No program in sight; no condition. -/
namespace Go.Proofs.YtgglhfbjbddjjaaDoor.Utf
open Go Go.Lib
set_option linter.unusedVariables false
set_option linter.unusedSimpArgs false

abbrev B (s : ByteArray) : List UInt8 := s.data.toList
def ba (l : List UInt8) : ByteArray := ⟨l.toArray⟩
theorem B_ba (l : List UInt8) : B (ba l) = l := rfl
theorem ba_B (s : ByteArray) : ba (B s) = s := by cases s; simp [ba, B]
theorem ba_size (l : List UInt8) : (ba l).size = l.length := by simp [ba, ByteArray.size]
theorem B_length (s : ByteArray) : (B s).length = s.size := by simp [B]
theorem eq_of_B {s t : ByteArray} (h : B s = B t) : s = t := by rw [← ba_B s, ← ba_B t, h]

/-- A character that has an encoding of its own. -/
def Scalar (r : Int) : Prop := 0 ≤ r ∧ (r < 55296 ∨ (57344 ≤ r ∧ r ≤ 1114111))

/-- The encodings of characters. -/
def enc (rs : List Int) : List UInt8 := rs.flatMap encodeRune
theorem enc_nil : enc [] = [] := rfl
theorem enc_cons (r : Int) (rs : List Int) : enc (r :: rs) = encodeRune r ++ enc rs := by simp [enc]
theorem enc_append (a b : List Int) : enc (a ++ b) = enc a ++ enc b := by simp [enc]

theorem encodeRune_length (r : Int) : 1 ≤ (encodeRune r).length ∧ (encodeRune r).length ≤ 4 := by
  unfold encodeRune; rw [List.length_map]; exact encodeRuneZ_length r

theorem encodeRune_ascii (r : Int) (h0 : 0 ≤ r) (h1 : r ≤ 127) : encodeRune r = [r.toNat.toUInt8] := by
  unfold encodeRune; rw [encodeRuneZ_one h0 h1]; rfl

theorem toByte' (z : Int) (h0 : 0 ≤ z) (h1 : z < 256) : (z.toNat.toUInt8).toNat = z.toNat := by
  simp [UInt8.toNat_ofNat']; omega

theorem decode_ge (n b0 b1 b2 b3 m : Nat) (h : n ≤ m) (h4 : 1 ≤ (decodeN n b0 b1 b2 b3).2) (e : decodeN n b0 b1 b2 b3 ≠ (65533, 1)) : decodeN m b0 b1 b2 b3 = decodeN n b0 b1 b2 b3 := by
  rcases decodeN_shape n b0 b1 b2 b3 with ⟨c, e'⟩ | ⟨c1, c2, c3, cv, e'⟩ | ⟨c1, c2, c3, c4, cv, cs, e'⟩ | ⟨c1, c2, c3, c4, c5, cv, cw, e'⟩ | e'
  · rw [e']; unfold decodeN; rw [if_pos c]
  · rw [e']; unfold decodeN; rw [if_neg (by omega), if_pos (by omega), if_pos (by omega)]
  · rw [e']; unfold decodeN; rw [if_neg (by omega), if_neg (by omega), if_pos (by omega), if_pos (by omega)]
  · rw [e']; unfold decodeN; rw [if_neg (by omega), if_neg (by omega), if_neg (by omega), if_pos (by omega), if_pos (by omega)]
  · exact absurd e' e

/-- What is decoded behind an encoding's beginning is what was encoded. -/
theorem decode_encode (r : Int) (h : Scalar r) (t : List UInt8) : decodeL (encodeRune r ++ t) = (r.toNat, (encodeRune r).length) := by
  obtain ⟨h0, h1⟩ := h
  rw [decodeL_N]
  by_cases a : r ≤ 127
  · have e : encodeRune r = [r.toNat.toUInt8] := encodeRune_ascii r h0 a
    rw [e]
    have := toByte' r h0 (by omega)
    simp only [List.cons_append, List.nil_append, List.getD_cons_zero, List.length_cons]
    unfold decodeN
    rw [if_pos (by omega)]
    simp [this]
  · by_cases b : r ≤ 2047
    · have e : encodeRune r = [(192 + r / 64).toNat.toUInt8, (128 + r % 64).toNat.toUInt8] := by unfold encodeRune; rw [encodeRuneZ_two (by omega) b]; rfl
      rw [e]
      have k0 := toByte' (192 + r / 64) (by omega) (by omega)
      have k1 := toByte' (128 + r % 64) (by omega) (by omega)
      simp only [List.cons_append, List.nil_append, List.getD_cons_zero, List.getD_cons_succ, List.length_cons, k0, k1]
      unfold decodeN
      rw [if_neg (by omega), if_pos (by omega), if_pos (by omega)]
      simp; omega
    · by_cases c : r ≤ 65535
      · have e : encodeRune r = [(224 + r / 4096).toNat.toUInt8, (128 + r / 64 % 64).toNat.toUInt8, (128 + r % 64).toNat.toUInt8] := by unfold encodeRune; rw [encodeRuneZ_three (by omega)]; rfl
        rw [e]
        have k0 := toByte' (224 + r / 4096) (by omega) (by omega)
        have k1 := toByte' (128 + r / 64 % 64) (by omega) (by omega)
        have k2 := toByte' (128 + r % 64) (by omega) (by omega)
        simp only [List.cons_append, List.nil_append, List.getD_cons_zero, List.getD_cons_succ, List.length_cons, k0, k1, k2]
        unfold decodeN
        rw [if_neg (by omega), if_neg (by omega), if_pos (by omega), if_pos (by omega)]
        simp; omega
      · have e : encodeRune r = [(240 + r / 262144).toNat.toUInt8, (128 + r / 4096 % 64).toNat.toUInt8, (128 + r / 64 % 64).toNat.toUInt8, (128 + r % 64).toNat.toUInt8] := by unfold encodeRune; rw [encodeRuneZ_four (by omega) (by omega)]; rfl
        rw [e]
        have k0 := toByte' (240 + r / 262144) (by omega) (by omega)
        have k1 := toByte' (128 + r / 4096 % 64) (by omega) (by omega)
        have k2 := toByte' (128 + r / 64 % 64) (by omega) (by omega)
        have k3 := toByte' (128 + r % 64) (by omega) (by omega)
        simp only [List.cons_append, List.nil_append, List.getD_cons_zero, List.getD_cons_succ, List.length_cons, k0, k1, k2, k3]
        unfold decodeN
        rw [if_neg (by omega), if_neg (by omega), if_neg (by omega), if_pos (by omega), if_pos (by omega)]
        simp; omega

/-- A rune that was decoded from valid bytes is a character. -/
theorem scalar_decode (l : List UInt8) (hv : ¬ ((decodeL l).1 = 65533 ∧ (decodeL l).2 = 1)) : Scalar ((decodeL l).1 : Int) := by
  rw [decodeL_N] at hv ⊢
  unfold Scalar
  have k0 := (l.getD 0 0).toNat_lt
  rcases decodeN_shape l.length (l.getD 0 0).toNat (l.getD 1 0).toNat (l.getD 2 0).toNat (l.getD 3 0).toNat with ⟨c, e⟩ | ⟨c1, c2, c3, cv, e⟩ | ⟨c1, c2, c3, c4, cv, cs, e⟩ | ⟨c1, c2, c3, c4, c5, cv, cw, e⟩ | e
  · rw [e]; dsimp only; omega
  · rw [e]; dsimp only; omega
  · rw [e]; dsimp only; omega
  · rw [e]; dsimp only; omega
  · rw [e] at hv; exact absurd ⟨rfl, rfl⟩ hv

theorem validGo_enc : ∀ (n : Nat) (l : List UInt8), l.length ≤ n → validGoD n l = true → ∃ rs : List Int, (∀ r ∈ rs, Scalar r) ∧ l = enc rs
  | 0, l, h, _ => ⟨[], by simp, by have e : l = [] := List.eq_nil_of_length_eq_zero (by omega)
                                   rw [e]; rfl⟩
  | n + 1, l, h, hv => by
    unfold validGoD at hv
    by_cases hl : l = []
    · exact ⟨[], by simp, by rw [hl]; rfl⟩
    · rw [if_neg hl] at hv
      by_cases hd : (decodeL l).1 = 65533 ∧ (decodeL l).2 = 1
      · rw [if_pos hd] at hv; cases hv
      · rw [if_neg hd] at hv
        have hw := decodeL_width l
        obtain ⟨rs, h1, h2⟩ := validGo_enc n (l.drop (decodeL l).2) (by rw [List.length_drop]; omega) hv
        refine ⟨((decodeL l).1 : Int) :: rs, ?_, ?_⟩
        · intro r hr
          rcases List.mem_cons.1 hr with rfl | hr
          · exact scalar_decode l hd
          · exact h1 r hr
        · rw [enc_cons, encode_decode l hl hd, ← h2, List.take_append_drop]

/-- A valid text is the encodings of its runes. -/
theorem valid_enc (l : List UInt8) (h : validD l = true) : ∃ rs : List Int, (∀ r ∈ rs, Scalar r) ∧ l = enc rs := validGo_enc l.length l (Nat.le_refl _) h

theorem scalar_not_bad (r : Int) (h : Scalar r) : ¬ (r.toNat = 65533 ∧ (encodeRune r).length = 1) := by
  rintro ⟨h1, h2⟩
  have : r = 65533 := by have := h.1; omega
  subst this
  unfold encodeRune at h2
  rw [encodeRuneZ_three (by omega)] at h2
  simp at h2

theorem validGo_of_enc : ∀ (n : Nat) (rs : List Int), (∀ r ∈ rs, Scalar r) → validGoD n (enc rs) = true
  | 0, _, _ => rfl
  | n + 1, [], _ => by simp [validGoD, enc_nil]
  | n + 1, r :: rs, h => by
    unfold validGoD
    have hr := h r (by simp)
    rw [enc_cons, decode_encode r hr]
    split
    · rfl
    · rw [if_neg (scalar_not_bad r hr)]
      dsimp only
      rw [List.drop_left]
      exact validGo_of_enc n rs (fun x hx => h x (by simp [hx]))

theorem valid_of_enc (rs : List Int) (h : ∀ r ∈ rs, Scalar r) : validD (enc rs) = true := validGo_of_enc _ rs h

/-! ### the runes of a string, as the conversion makes them -/
def runes (s : ByteArray) : Nat → Nat → List Int
  | 0, _ => []
  | f + 1, i => if i < s.size then ((Utf8.decode s i).1 : Int) :: runes s f (i + (Utf8.decode s i).2) else []

theorem runesFrom_eq (s : ByteArray) : ∀ (f i : Nat) (acc : Array Value), Conv.runesFrom s f i acc = acc ++ ((runes s f i).map (Value.int .i32)).toArray
  | 0, _, acc => by simp [Conv.runesFrom, runes]
  | f + 1, i, acc => by
    unfold Conv.runesFrom runes
    by_cases h : i < s.size
    · simp only [h, if_true]
      rw [runesFrom_eq s f]
      simp
    · simp [h]

theorem runes_length (s : ByteArray) : ∀ (f i : Nat), (runes s f i).length ≤ f
  | 0, _ => by simp [runes]
  | f + 1, i => by
    unfold runes
    split
    · have := runes_length s f (i + (Utf8.decode s i).2); simp; omega
    · simp

theorem decode_drop (s : ByteArray) (i : Nat) : Utf8.decode s i = decodeL ((B s).drop i) := by
  rw [decode_N, decodeL_N]
  simp [List.getD, List.getElem?_drop]

theorem runes_enc (s : ByteArray) : ∀ (f i : Nat) (rs : List Int), (∀ r ∈ rs, Scalar r) → (B s).drop i = enc rs → s.size ≤ i + f → runes s f i = rs
  | 0, i, [], _, _, _ => rfl
  | 0, i, r :: rs, _, he, hf => by
    have h1 : (B s).drop i = [] := List.drop_eq_nil_of_le (by rw [B_length]; omega)
    rw [h1, enc_cons] at he
    have := (encodeRune_length r).1
    have := congrArg List.length he
    simp at this
    omega
  | f + 1, i, rs, h, he, hf => by
    unfold runes
    by_cases hi : i < s.size
    · rw [if_pos hi, decode_drop, he]
      cases rs with
      | nil =>
        have := congrArg List.length he
        simp [enc_nil, B_length] at this
        omega
      | cons r rs =>
        have hr := h r (by simp)
        rw [enc_cons, decode_encode r hr]
        dsimp only
        have hd : (B s).drop (i + (encodeRune r).length) = enc rs := by
          rw [← List.drop_drop, he, enc_cons, List.drop_left]
        rw [runes_enc s f (i + (encodeRune r).length) rs (fun x hx => h x (by simp [hx])) hd (by have := (encodeRune_length r).1; omega)]
        congr 1
        have := hr.1
        omega
    · rw [if_neg hi]
      have h1 : (B s).drop i = [] := List.drop_eq_nil_of_le (by rw [B_length]; omega)
      rw [h1] at he
      cases rs with
      | nil => rfl
      | cons r rs =>
        rw [enc_cons] at he
        have := (encodeRune_length r).1
        have := congrArg List.length he
        simp at this
        omega

/-- The runes of the encodings of characters. -/
theorem runes_of (s : ByteArray) (rs : List Int) (h : ∀ r ∈ rs, Scalar r) (he : B s = enc rs) : runes s s.size 0 = rs :=
  runes_enc s s.size 0 rs h (by rw [List.drop_zero]; exact he) (by omega)

theorem enc_length (rs : List Int) : rs.length ≤ (enc rs).length ∧ (enc rs).length ≤ 4 * rs.length := by
  induction rs with
  | nil => simp [enc_nil]
  | cons r rs ih =>
    have := encodeRune_length r
    rw [enc_cons]
    simp
    omega
end Go.Proofs.YtgglhfbjbddjjaaDoor.Utf

/- Plain: what the scanner makes of the runes behind the opening quote, and what the reference makes of empty lines. No program in sight. -/
namespace Go.Proofs.YtgglhfbjbddjjaaDoor.LnPure
open Go.Proofs.YtgglhfbjbddjjaaDoor.Utf
set_option linter.unusedVariables false
set_option linter.unusedSimpArgs false

/-- A line that is the marker of a document's beginning or end. -/
def mkr (l : List Int) : Bool := (l.take 3 == [45, 45, 45] || l.take 3 == [46, 46, 46]) && ((l.drop 3).head? == some 32 || (l.drop 3).head? == some 9 || (l.drop 3).head? == some 10)
/-- A text without the spaces at its end. -/
def trim (v : List Int) : List Int := (v.reverse.dropWhile (· == 32)).reverse
/-- The character that a letter behind a backslash stands for. -/
def named (c : Int) : Option Int :=
  if c = 48 then some 0 else if c = 97 then some 7 else if c = 98 then some 8 else if c = 116 then some 9 else if c = 110 then some 10 else if c = 118 then some 11 else if c = 102 then some 12 else if c = 114 then some 13 else if c = 101 then some 27 else if c = 32 then some 32 else if c = 34 then some 34 else if c = 92 then some 92 else if c = 78 then some 133 else if c = 95 then some 160 else if c = 76 then some 8232 else if c = 80 then some 8233 else none
/-- The worth of a hex digit. -/
def hx (c : Int) : Option Int := if 48 ≤ c ∧ c ≤ 57 then some (c - 48) else if 97 ≤ c ∧ c ≤ 102 then some (c - 87) else if 65 ≤ c ∧ c ≤ 70 then some (c - 55) else none
/-- What the hex digits spell. -/
def hexs : List Int → Int → Option Int
  | [], a => some a
  | c :: r, a => match hx c with
    | none => none
    | some d => hexs r (a * 16 + d)
/-- An escape behind its backslash: its character, and what stands behind it. -/
def esc : List Int → Option (Int × List Int)
  | [] => none
  | d :: r =>
    if d = 120 then (if 2 ≤ r.length then (hexs (r.take 2) 0).map fun x => (x, r.drop 2) else none)
    else if d = 117 then (if 4 ≤ r.length then (match hexs (r.take 4) 0 with
      | some x => if x < 55296 ∨ 57343 < x then some (x, r.drop 4) else none
      | none => none) else none)
    else (named d).map fun x => (x, r)
theorem esc_len {l r : List Int} {x : Int} (h : esc l = some (x, r)) : r.length < l.length := by
  cases l with
  | nil => cases h
  | cons d t =>
    simp only [esc] at h
    simp only [List.length_cons]
    split at h
    · split at h
      · simp only [Option.map_eq_some_iff, Prod.mk.injEq] at h
        obtain ⟨a, _, _, rfl⟩ := h
        simp; omega
      · cases h
    · split at h
      · split at h
        · split at h
          · split at h
            · injection h with h; injection h with _ h; subst h; simp; omega
            · cases h
          · cases h
        · cases h
      · simp only [Option.map_eq_some_iff, Prod.mk.injEq] at h
        obtain ⟨a, _, _, rfl⟩ := h
        omega
/-- The scanner's steps behind the opening quote q (34 or 39), with what it has read and whether it stands at the beginning of a further line: what it has read at the quote that ends the text but for a line feed. Nothing is said of a text with tabs, carriage returns, markers, wrong escapes. -/
def scan (q : Int) : Nat → List Int → List Int → Bool → Option (List Int)
  | 0, _, _, _ => none
  | n + 1, [], _, _ => none
  | n + 1, c :: r, v, f =>
    if c = 10 then (if mkr r = true then none else scan q n r (trim v ++ [if f = true then 10 else 32]) true)
    else if c = 13 then none
    else if f = true ∧ c = 32 then scan q n r v true
    else if c = 9 then none
    else if q = 34 ∧ c = 92 then
      (if r.head? = some 10 then scan q n (r.drop 1) v true
       else match esc r with
        | some (x, t) => scan q n t (v ++ [x]) false
        | none => none)
    else if c = q then (if r = [10] then some v else none)
    else scan q n r (v ++ [c]) false

/-- A text without the white at its beginning. -/
def skip : List Int → List Int
  | [] => []
  | c :: r => if c = 32 ∨ c = 9 then skip r else c :: r
theorem skip_len : ∀ l : List Int, (skip l).length ≤ l.length
  | [] => Nat.le_refl _
  | c :: r => by
    unfold skip
    split
    · have := skip_len r; simp; omega
    · exact Nat.le_refl _
/-- Empty lines from the beginning of a line on, 'a' of them before: how many, and what stands behind them and the white there. None: one of these lines is a marker. -/
def empt : Nat → Nat → List Int → Option (Nat × List Int)
  | 0, _, _ => none
  | k + 1, a, l => if mkr l = true then none else if (skip l).head? = some 10 then empt k (a + 1) ((skip l).drop 1) else some (a, skip l)
theorem empt_len : ∀ (k a : Nat) (l : List Int) {n : Nat} {r : List Int}, empt k a l = some (n, r) → r.length ≤ l.length ∧ a ≤ n ∧ n + r.length ≤ a + l.length
  | 0, _, _, _, _, h => by cases h
  | k + 1, a, l, n, r, h => by
    unfold empt at h
    have h1 := skip_len l
    split at h
    · cases h
    · split at h
      · rename_i hh
        have h2 := empt_len k (a + 1) _ h
        have h3 : 1 ≤ (skip l).length := by
          cases e : skip l with
          | nil => rw [e] at hh; cases hh
          | cons c t => simp
        simp only [List.length_drop] at h2
        omega
      · injection h with h; injection h with h2 h3; subst h2; subst h3; omega

theorem trim_nil : trim [] = [] := rfl
theorem trim_space (v : List Int) : trim (v ++ [32]) = trim v := by simp [trim]
theorem trim_other (v : List Int) (c : Int) (h : c ≠ 32) : trim (v ++ [c]) = v ++ [c] := by simp [trim, List.dropWhile, h]
end Go.Proofs.YtgglhfbjbddjjaaDoor.LnPure
