/- Plain facts for FnIndentBack: the lines of a text, indented and joined, and what zzIndex, zzSplit and normalizeNewLineChars come to. For texts of at most 8796093022000 bytes. -/
import Derived.Test.YtmildhkegpmacaaPFnIndentBackx1
import Derived.Lib.Strings
import Derived.Lib.Join
namespace Go.Proofs.Ytmildhkegpmacaa.IndentPure
open Go.RowKit Go.Proofs.Ytmildhkegpmacaa.PFnIndentBack Go.Proofs.YtmildhkegpmacaaW.PrintWords Go.Proofs.YtmildhkegpmacaaW.PrintLast

/-- A string's bytes. -/
abbrev B (s : ByteArray) : List UInt8 := s.data.toList
def ba (l : List UInt8) : ByteArray := ⟨l.toArray⟩
theorem B_ba (l : List UInt8) : B (ba l) = l := rfl
theorem ba_B (s : ByteArray) : ba (B s) = s := by cases s; simp [ba, B]
theorem ba_size (l : List UInt8) : (ba l).size = l.length := by simp [ba, ByteArray.size]
theorem B_length (s : ByteArray) : (B s).length = s.size := by simp [B]
theorem eq_of_B {s t : ByteArray} (h : B s = B t) : s = t := by rw [← ba_B s, ← ba_B t, h]

/-- What stands from i on, as long as the text that is looked for, is that text. -/
def hit (s sep : ByteArray) (i : Nat) : Prop := ((B s).drop i).take sep.size = B sep

theorem round_hit (s sep : ByteArray) (i : Nat) : (s.extract ((i : Int)).toNat (((i + sep.size : Nat) : Int)).toNat).toList = sep.toList ↔ hit s sep i := by
  rw [ByteArray.toList_eq, ByteArray.toList_eq, Lib.extract_data]
  rw [show (((i + sep.size : Nat) : Int)).toNat - ((i : Int)).toNat = sep.size by omega, show ((i : Int)).toNat = i by omega]
  rfl

theorem index_none (s sep : ByteArray) (hs : s.size ≤ 8796093022208) (hp : sep.size ≤ 8) (hno : ∀ j, j + sep.size ≤ s.size → ¬ hit s sep j) (d : Nat) :
    ∀ (k i : Nat), i ≤ s.size + 1 → s.size + 1 - i = d → d < k → format_zzIndex.l0 k s sep (i : Int) = some (-1) := by
  induction d with
  | zero =>
    intro k i h0 h1 h2
    obtain ⟨k, rfl⟩ : ∃ m, k = m + 1 := ⟨k - 1, by omega⟩
    have hw : wrap64 ((i : Int) + (sep.size : Int)) = ((i + sep.size : Nat) : Int) := by unfold wrap64; omega
    simp only [format_zzIndex.l0, hw]
    rw [if_neg (by omega)]
  | succ d ih =>
    intro k i h0 h1 h2
    obtain ⟨k, rfl⟩ : ∃ m, k = m + 1 := ⟨k - 1, by omega⟩
    have hw : wrap64 ((i : Int) + (sep.size : Int)) = ((i + sep.size : Nat) : Int) := by unfold wrap64; omega
    simp only [format_zzIndex.l0, hw]
    by_cases hle : i + sep.size ≤ s.size
    · rw [if_pos (by omega), if_pos (by omega), if_pos (by omega), if_neg (fun e => hno i hle ((round_hit s sep i).1 e)), show wrap64 ((i : Int) + 1) = ((i + 1 : Nat) : Int) by unfold wrap64; omega]
      exact ih k (i + 1) (by omega) (by omega) (by omega)
    · rw [if_neg (by omega)]

theorem index_none_f (s sep : ByteArray) (hs : s.size ≤ 8796093022208) (hp : sep.size ≤ 8) (hno : ∀ j, j + sep.size ≤ s.size → ¬ hit s sep j) (k : Nat) (hk : s.size + 1 < k) :
    format_zzIndex.f k s sep = some (-1) := index_none s sep hs hp hno _ k 0 (by omega) rfl (by omega)

theorem index_at (s sep : ByteArray) (hs : s.size ≤ 8796093022208) (hp : sep.size ≤ 8) (p : Nat) (hpl : p + sep.size ≤ s.size) (hh : hit s sep p) (hno : ∀ j, j < p → ¬ hit s sep j) (d : Nat) :
    ∀ (k i : Nat), i ≤ p → p - i = d → d < k → format_zzIndex.l0 k s sep (i : Int) = some (p : Int) := by
  induction d with
  | zero =>
    intro k i h0 h1 h2
    obtain ⟨k, rfl⟩ : ∃ m, k = m + 1 := ⟨k - 1, by omega⟩
    obtain rfl : i = p := by omega
    have hw : wrap64 ((i : Int) + (sep.size : Int)) = ((i + sep.size : Nat) : Int) := by unfold wrap64; omega
    simp only [format_zzIndex.l0, hw]
    rw [if_pos (by omega), if_pos (by omega), if_pos (by omega), if_pos ((round_hit s sep i).2 hh)]
  | succ d ih =>
    intro k i h0 h1 h2
    obtain ⟨k, rfl⟩ : ∃ m, k = m + 1 := ⟨k - 1, by omega⟩
    have hw : wrap64 ((i : Int) + (sep.size : Int)) = ((i + sep.size : Nat) : Int) := by unfold wrap64; omega
    simp only [format_zzIndex.l0, hw]
    rw [if_pos (by omega), if_pos (by omega), if_pos (by omega), if_neg (fun e => hno i (by omega) ((round_hit s sep i).1 e)), show wrap64 ((i : Int) + 1) = ((i + 1 : Nat) : Int) by unfold wrap64; omega]
    exact ih k (i + 1) (by omega) (by omega) (by omega)

theorem index_at_f (s sep : ByteArray) (hs : s.size ≤ 8796093022208) (hp : sep.size ≤ 8) (p : Nat) (hpl : p + sep.size ≤ s.size) (hh : hit s sep p) (hno : ∀ j, j < p → ¬ hit s sep j) (k : Nat) (hk : p < k) :
    format_zzIndex.f k s sep = some (p : Int) := index_at s sep hs hp p hpl hh hno _ k 0 (by omega) rfl (by omega)

/-! ### normalizeNewLineChars of a text without carriage returns -/
theorem no_hit_cr (s sep : ByteArray) (r : List UInt8) (hB : B sep = 13 :: r) (h : (13 : UInt8) ∉ B s) (j : Nat) : ¬ hit s sep j := by
  intro e
  unfold hit at e
  rw [hB] at e
  have : (13 : UInt8) ∈ ((B s).drop j).take sep.size := by rw [e]; simp
  exact h (List.mem_of_mem_drop (List.mem_of_mem_take this))

theorem strOfNums_bytesOf (s : ByteArray) : strOfNums (bytesOf s) = s := by
  refine eq_of_B ?_
  show (strOfNums (bytesOf s)).data.toList = _
  rw [strOfNums_data]
  unfold bytesOf
  rw [List.map_map]
  conv => rhs; rw [← List.map_id (B s)]
  refine List.map_congr_left fun c _ => ?_
  simp

theorem replace_cr (s sep new : ByteArray) (r : List UInt8) (hB : B sep = 13 :: r) (hs : s.size ≤ 8796093022208) (hp : sep.size ≤ 8) (h : (13 : UInt8) ∉ B s) (k : Nat) (hk : s.size + 2 < k) :
    format_zzReplaceAll.f k s sep new = some s := by
  obtain ⟨k, rfl⟩ : ∃ m, k = m + 1 := ⟨k - 1, by omega⟩
  simp only [format_zzReplaceAll.f, format_zzReplaceAll.l0]
  rw [index_none_f s sep hs hp (fun j _ => no_hit_cr s sep r hB h j) k (by omega)]
  simp only [Option.bind_some]
  rw [if_pos (by omega), if_pos (by simp; omega)]
  simp [strOfNums_bytesOf]

theorem normal_f (s : ByteArray) (hs : s.size ≤ 8796093022208) (h : (13 : UInt8) ∉ B s) (k : Nat) (hk : s.size + 2 < k) : format_normalizeNewLineChars.f k s = some s := by
  simp only [format_normalizeNewLineChars.f]
  rw [replace_cr s ⟨#[13, 10]⟩ _ [10] rfl hs (by decide) h k hk]
  simp only [Option.bind_some]
  rw [replace_cr s ⟨#[13]⟩ _ [] rfl hs (by decide) h k hk]
  rfl

/-! ### the lines of a text -/
def lines : List UInt8 → List (List UInt8)
  | [] => [[]]
  | c :: t => if c = 10 then [] :: lines t else match lines t with
    | [] => [[c]]
    | h :: r => (c :: h) :: r

theorem lines_ne : ∀ l, lines l ≠ []
  | [] => by simp [lines]
  | c :: t => by
    unfold lines
    split
    · simp
    · split <;> simp

theorem lines_none : ∀ (l : List UInt8), (10 : UInt8) ∉ l → lines l = [l]
  | [], _ => rfl
  | c :: t, h => by
    have hc : c ≠ 10 := fun e => h (by simp [e])
    rw [lines, if_neg hc, lines_none t (fun e => h (by simp [e]))]

theorem lines_app : ∀ (a b : List UInt8), (10 : UInt8) ∉ a → lines (a ++ 10 :: b) = a :: lines b
  | [], b, _ => by simp [lines]
  | c :: t, b, h => by
    have hc : c ≠ 10 := fun e => h (by simp [e])
    rw [List.cons_append, lines, if_neg hc, lines_app t b (fun e => h (by simp [e]))]

theorem lines_length : ∀ (l : List UInt8), (lines l).length ≤ l.length + 1
  | [] => by simp [lines]
  | c :: t => by
    have := lines_length t
    unfold lines
    split
    · simp; omega
    · split
      · simp
      · rename_i h; rw [h] at this; simp at this ⊢; omega

/-- Lines, joined by line feeds. -/
abbrev joined (ls : List (List UInt8)) : List UInt8 := Lib.join ls [10]

theorem joined_cons (x : List UInt8) (y : List UInt8) (r : List (List UInt8)) : joined (x :: y :: r) = x ++ 10 :: joined (y :: r) := by
  unfold joined
  rw [Lib.join_cons, Lib.join_cons]
  simp [Lib.joinTail]

theorem joined_one (x : List UInt8) : joined [x] = x := Lib.join_one x [10]

/-- A text, by its first line feed. -/
theorem by_feed (P : List UInt8 → Prop) (h0 : ∀ l, (10 : UInt8) ∉ l → P l) (h1 : ∀ a b, (10 : UInt8) ∉ a → P b → P (a ++ 10 :: b)) : ∀ (n : Nat) (l : List UInt8), l.length ≤ n → P l
  | n, l, hn => by
    by_cases h : (10 : UInt8) ∈ l
    · obtain ⟨a, b, rfl, ha⟩ := List.eq_append_cons_of_mem h
      match n, hn with
      | n + 1, hn => exact h1 a b ha (by_feed P h0 h1 n b (by simp at hn; omega))
      | 0, hn => simp at hn
    · exact h0 l h

theorem joined_lines (l : List UInt8) : joined (lines l) = l := by
  refine by_feed (fun l => joined (lines l) = l) ?_ ?_ l.length l (Nat.le_refl _)
  · intro l h; rw [lines_none l h, joined_one]
  · intro a b ha hb
    rw [lines_app a b ha]
    cases e : lines b with
    | nil => exact absurd e (lines_ne b)
    | cons y r => rw [joined_cons, ← e, hb]

theorem lines_joined : ∀ (ls : List (List UInt8)), ls ≠ [] → (∀ x ∈ ls, (10 : UInt8) ∉ x) → lines (joined ls) = ls
  | [], h, _ => absurd rfl h
  | [x], _, h => by rw [joined_one]; exact lines_none x (h x (by simp))
  | x :: y :: r, _, h => by
    rw [joined_cons, lines_app x _ (h x (by simp)), lines_joined (y :: r) (by simp) (fun z hz => h z (List.mem_cons_of_mem _ hz))]

theorem lines_mem (l : List UInt8) : ∀ x ∈ lines l, (10 : UInt8) ∉ x ∧ ∀ c ∈ x, c ∈ l := by
  refine by_feed (fun l => ∀ x ∈ lines l, (10 : UInt8) ∉ x ∧ ∀ c ∈ x, c ∈ l) ?_ ?_ l.length l (Nat.le_refl _)
  · intro l h x hx
    rw [lines_none l h] at hx
    simp at hx; subst hx
    exact ⟨h, fun c hc => hc⟩
  · intro a b ha hb x hx
    rw [lines_app a b ha] at hx
    rcases List.mem_cons.1 hx with rfl | hx
    · exact ⟨ha, fun c hc => by simp [hc]⟩
    · exact ⟨(hb x hx).1, fun c hc => by have := (hb x hx).2 c hc; simp [this]⟩

theorem lines_len (l : List UInt8) : ∀ x ∈ lines l, x.length ≤ l.length := by
  refine by_feed (fun l => ∀ x ∈ lines l, x.length ≤ l.length) ?_ ?_ l.length l (Nat.le_refl _)
  · intro l h x hx
    rw [lines_none l h] at hx
    simp at hx; subst hx
    exact Nat.le_refl _
  · intro a b ha hb x hx
    rw [lines_app a b ha] at hx
    rcases List.mem_cons.1 hx with rfl | hx
    · simp
    · have := hb x hx; simp; omega

/-- zzSplit at line feeds. -/
theorem split_l0 : ∀ (n : Nat) (s : ByteArray) (acc : List ByteArray) (k : Nat), s.size ≤ n → n + 2 < k → acc.length + n + 1 ≤ 8796093022208 →
    format_zzSplit.l0 k s ⟨#[10]⟩ acc = some (acc ++ (lines (B s)).map ba)
  | n, s, acc, k, hn, hk, ha => by
    obtain ⟨k, rfl⟩ : ∃ m, k = m + 1 := ⟨k - 1, by omega⟩
    have hz : ((⟨#[10]⟩ : ByteArray).size) = 1 := rfl
    simp only [format_zzSplit.l0]
    by_cases h : (10 : UInt8) ∈ B s
    · obtain ⟨a, b, hab, hna⟩ := List.eq_append_cons_of_mem h
      have hsz : s.size = a.length + 1 + b.length := by rw [← B_length, hab]; simp; omega
      have hi : format_zzIndex.f k s ⟨#[10]⟩ = some (a.length : Int) := by
        refine index_at_f s _ (by omega) (by decide) a.length (by rw [hz]; omega) ?_ ?_ k (by omega)
        · unfold hit; rw [hab, hz]; simp
        · intro j hj e
          unfold hit at e
          rw [hab, hz, List.drop_append_of_le_length (by omega)] at e
          have hj2 : (a.drop j) ≠ [] := by simp; omega
          obtain ⟨c, r, hcr⟩ := List.exists_cons_of_ne_nil hj2
          rw [hcr] at e
          simp at e
          have ec : c = 10 := by simpa [B] using e
          exact hna (ec ▸ List.mem_of_mem_drop (hcr ▸ List.mem_cons_self))
      have e1 : s.extract 0 ((a.length : Int)).toNat = ba a := by
        refine eq_of_B ?_
        show (s.extract 0 _).data.toList = a
        rw [Lib.extract_data, show s.data.toList = a ++ 10 :: b from hab]
        simp
      have hw : wrap64 ((a.length : Int) + ((⟨#[10]⟩ : ByteArray).size : Int)) = ((a.length + 1 : Nat) : Int) := by rw [hz]; unfold wrap64; omega
      have e2 : s.extract (((a.length + 1 : Nat) : Int)).toNat s.size = ba b := by
        refine eq_of_B ?_
        show (s.extract _ _).data.toList = b
        rw [Lib.extract_data, show s.data.toList = a ++ 10 :: b from hab, show (((a.length + 1 : Nat) : Int)).toNat = a.length + 1 by omega]
        rw [show a ++ 10 :: b = (a ++ [10]) ++ b by simp, List.drop_append_of_le_length (by simp)]
        rw [List.drop_eq_nil_of_le (by simp), List.nil_append, List.take_of_length_le (by omega)]
      rw [hi]
      simp only [Option.bind_some]
      rw [if_neg (by omega), if_pos (by omega), if_pos (by omega), if_pos (by omega), hw, if_pos (by omega), if_pos (by omega), e1, e2]
      match n, hn with
      | n + 1, hn =>
        rw [split_l0 n (ba b) _ k (by rw [ba_size]; omega) (by omega) (by simp; omega), B_ba]
        rw [show (B s) = a ++ 10 :: b from hab, lines_app a b hna]
        simp
      | 0, hn => omega
    · have hi : format_zzIndex.f k s ⟨#[10]⟩ = some (-1) := by
        refine index_none_f s _ (by omega) (by decide) ?_ k (by omega)
        intro j hj e
        unfold hit at e
        have : (10 : UInt8) ∈ ((B s).drop j).take (⟨#[10]⟩ : ByteArray).size := by rw [e]; exact List.mem_singleton.2 rfl
        exact h (List.mem_of_mem_drop (List.mem_of_mem_take this))
      rw [hi]
      simp only [Option.bind_some]
      rw [if_pos (by omega), if_pos (by omega), lines_none _ h]
      simp [ba_B]

theorem split_f (s : ByteArray) (hs : s.size ≤ 8796093022000) : ∃ k, format_zzSplit.f k s ⟨#[10]⟩ = some ((lines (B s)).map ba) :=
  ⟨s.size + 3, by rw [format_zzSplit.f, split_l0 s.size s [] (s.size + 3) (Nat.le_refl _) (by omega) (by simp; omega)]; rfl⟩

/-! ### indented lines -/
def ind (n : Nat) (x : List UInt8) : List UInt8 := if x = [] then [] else List.replicate n 32 ++ x

theorem ind_mem (n : Nat) (x : List UInt8) (c : UInt8) (h : c ∈ ind n x) : c = 32 ∨ c ∈ x := by
  unfold ind at h
  split at h
  · simp at h
  · rcases List.mem_append.1 h with h | h
    · exact .inl (List.eq_of_mem_replicate h)
    · exact .inr h

theorem ind_length (n : Nat) (x : List UInt8) : (ind n x).length ≤ (n + 1) * x.length := by
  unfold ind
  split
  · simp
  · rename_i h
    have : 1 ≤ x.length := by cases x <;> simp_all
    simp
    have h2 : n * 1 ≤ n * x.length := Nat.mul_le_mul_left n this
    rw [Nat.add_mul]; omega

theorem joined_length : ∀ (ls : List (List UInt8)) (n : Nat), (joined (ls.map (ind n))).length ≤ (n + 1) * (joined ls).length
  | [], n => by simp [joined, Lib.join_nil]
  | [x], n => by simp only [List.map_cons, List.map_nil, joined_one]; exact ind_length n x
  | x :: y :: r, n => by
    have h1 := ind_length n x
    have h2 := joined_length (y :: r) n
    simp only [List.map_cons] at h2 ⊢
    rw [joined_cons, joined_cons]
    simp only [List.length_append, List.length_cons]
    rw [Nat.mul_add, Nat.mul_add]
    omega

def indented (n : Nat) (l : List UInt8) : List UInt8 := joined ((lines l).map (ind n))

theorem lines_indented (n : Nat) (l : List UInt8) : lines (indented n l) = (lines l).map (ind n) := by
  unfold indented
  refine lines_joined _ (by simp [lines_ne]) ?_
  intro x hx
  obtain ⟨y, hy, rfl⟩ := List.mem_map.1 hx
  intro h
  rcases ind_mem n y 10 h with h | h
  · exact absurd h (by decide)
  · exact (lines_mem l y hy).1 h

theorem joined_mem : ∀ (ls : List (List UInt8)) (c : UInt8), c ∈ joined ls → c = 10 ∨ ∃ x ∈ ls, c ∈ x
  | [], c, h => by simp [joined, Lib.join_nil] at h
  | [x], c, h => by rw [joined_one] at h; exact .inr ⟨x, by simp, h⟩
  | x :: y :: r, c, h => by
    rw [joined_cons] at h
    rcases List.mem_append.1 h with h | h
    · exact .inr ⟨x, by simp, h⟩
    · rcases List.mem_cons.1 h with h | h
      · exact .inl h
      · rcases joined_mem (y :: r) c h with h | ⟨z, hz, h⟩
        · exact .inl h
        · exact .inr ⟨z, List.mem_cons_of_mem _ hz, h⟩

theorem indented_no_cr (n : Nat) (l : List UInt8) (h : (13 : UInt8) ∉ l) : (13 : UInt8) ∉ indented n l := by
  intro hm
  rcases joined_mem _ _ hm with e | ⟨x, hx, hc⟩
  · exact absurd e (by decide)
  · obtain ⟨y, hy, rfl⟩ := List.mem_map.1 hx
    rcases ind_mem n y 13 hc with e | e
    · exact absurd e (by decide)
    · exact h ((lines_mem l y hy).2 _ e)

theorem indented_length (n : Nat) (l : List UInt8) : (indented n l).length ≤ (n + 1) * l.length := by
  have := joined_length (lines l) n
  rw [joined_lines] at this
  exact this

end Go.Proofs.Ytmildhkegpmacaa.IndentPure
