/- Plain facts for FnPartQuotes: what zzIndex and zzReplaceAll come to where a single quote is doubled. For texts of at most 8796093022208 bytes. -/
import Derived.Test.YtmildhkegpmacaaDoorQuotePure
import Derived.Lib.Strings
namespace Go.Proofs.YtmildhkegpmacaaDoor.QuoteFind
open Go.RowKit Go.Proofs.YtmildhkegpmacaaDoor.PFnPartQuotes Go.Proofs.YtmildhkegpmacaaDoorW.PrintWords Go.Proofs.YtmildhkegpmacaaDoor.Utf Go.Proofs.YtmildhkegpmacaaDoor.QuotePure
set_option linter.unusedVariables false
set_option linter.unusedSimpArgs false

/-- What stands from i on, as long as the text that is looked for, is that text. -/
def hit (s sep : ByteArray) (i : Nat) : Prop := ((B s).drop i).take sep.size = B sep

theorem round_hit (s sep : ByteArray) (i : Nat) : (s.extract ((i : Int)).toNat (((i + sep.size : Nat) : Int)).toNat).toList = sep.toList ↔ hit s sep i := by
  rw [ByteArray.toList_eq, ByteArray.toList_eq, Lib.extract_data]
  rw [show (((i + sep.size : Nat) : Int)).toNat - ((i : Int)).toNat = sep.size by omega, show ((i : Int)).toNat = i by omega]
  rfl

theorem index_none (s sep : ByteArray) (hs : s.size ≤ 8796093022208) (hp : sep.size ≤ 8) (hno : ∀ j, j + sep.size ≤ s.size → ¬ hit s sep j) (d : Nat) :
    ∀ (k i : Nat), i ≤ s.size + 1 → s.size + 1 - i = d → d < k → ast_zzIndex.l0 k s sep (i : Int) = some (-1) := by
  induction d with
  | zero =>
    intro k i h0 h1 h2
    obtain ⟨k, rfl⟩ : ∃ m, k = m + 1 := ⟨k - 1, by omega⟩
    have hw : wrap64 ((i : Int) + (sep.size : Int)) = ((i + sep.size : Nat) : Int) := by unfold wrap64; omega
    simp only [ast_zzIndex.l0, hw]
    rw [if_neg (by omega)]
  | succ d ih =>
    intro k i h0 h1 h2
    obtain ⟨k, rfl⟩ : ∃ m, k = m + 1 := ⟨k - 1, by omega⟩
    have hw : wrap64 ((i : Int) + (sep.size : Int)) = ((i + sep.size : Nat) : Int) := by unfold wrap64; omega
    simp only [ast_zzIndex.l0, hw]
    by_cases hle : i + sep.size ≤ s.size
    · rw [if_pos (by omega), if_pos (by omega), if_pos (by omega), if_neg (fun e => hno i hle ((round_hit s sep i).1 e)), show wrap64 ((i : Int) + 1) = ((i + 1 : Nat) : Int) by unfold wrap64; omega]
      exact ih k (i + 1) (by omega) (by omega) (by omega)
    · rw [if_neg (by omega)]

theorem index_none_f (s sep : ByteArray) (hs : s.size ≤ 8796093022208) (hp : sep.size ≤ 8) (hno : ∀ j, j + sep.size ≤ s.size → ¬ hit s sep j) (k : Nat) (hk : s.size + 1 < k) :
    ast_zzIndex.f k s sep = some (-1) := index_none s sep hs hp hno _ k 0 (by omega) rfl (by omega)

theorem index_at (s sep : ByteArray) (hs : s.size ≤ 8796093022208) (hp : sep.size ≤ 8) (p : Nat) (hpl : p + sep.size ≤ s.size) (hh : hit s sep p) (hno : ∀ j, j < p → ¬ hit s sep j) (d : Nat) :
    ∀ (k i : Nat), i ≤ p → p - i = d → d < k → ast_zzIndex.l0 k s sep (i : Int) = some (p : Int) := by
  induction d with
  | zero =>
    intro k i h0 h1 h2
    obtain ⟨k, rfl⟩ : ∃ m, k = m + 1 := ⟨k - 1, by omega⟩
    obtain rfl : i = p := by omega
    have hw : wrap64 ((i : Int) + (sep.size : Int)) = ((i + sep.size : Nat) : Int) := by unfold wrap64; omega
    simp only [ast_zzIndex.l0, hw]
    rw [if_pos (by omega), if_pos (by omega), if_pos (by omega), if_pos ((round_hit s sep i).2 hh)]
  | succ d ih =>
    intro k i h0 h1 h2
    obtain ⟨k, rfl⟩ : ∃ m, k = m + 1 := ⟨k - 1, by omega⟩
    have hw : wrap64 ((i : Int) + (sep.size : Int)) = ((i + sep.size : Nat) : Int) := by unfold wrap64; omega
    simp only [ast_zzIndex.l0, hw]
    rw [if_pos (by omega), if_pos (by omega), if_pos (by omega), if_neg (fun e => hno i (by omega) ((round_hit s sep i).1 e)), show wrap64 ((i : Int) + 1) = ((i + 1 : Nat) : Int) by unfold wrap64; omega]
    exact ih k (i + 1) (by omega) (by omega) (by omega)

theorem index_at_f (s sep : ByteArray) (hs : s.size ≤ 8796093022208) (hp : sep.size ≤ 8) (p : Nat) (hpl : p + sep.size ≤ s.size) (hh : hit s sep p) (hno : ∀ j, j < p → ¬ hit s sep j) (k : Nat) (hk : p < k) :
    ast_zzIndex.f k s sep = some (p : Int) := index_at s sep hs hp p hpl hh hno _ k 0 (by omega) rfl (by omega)


def ints (l : List UInt8) : List Int := l.map fun b => (b.toNat : Int)
theorem bytesOf_eq (s : ByteArray) : bytesOf s = ints (B s) := rfl
theorem ints_append (a b : List UInt8) : ints (a ++ b) = ints a ++ ints b := by simp [ints]
theorem ints_length (a : List UInt8) : (ints a).length = a.length := by simp [ints]

theorem strOfNums_ints (l : List UInt8) : strOfNums (ints l) = ba l := by
  refine eq_of_B ?_
  show (strOfNums (ints l)).data.toList = l
  rw [strOfNums_data]
  unfold ints
  rw [List.map_map]
  conv => rhs; rw [← List.map_id l]
  refine List.map_congr_left fun c _ => ?_
  simp

theorem replace_l0 : ∀ (n : Nat) (s : ByteArray) (acc : List UInt8) (k : Nat), s.size ≤ n → n + 2 < k → acc.length + 2 * s.size + 1 ≤ 8796093022208 →
    ast_zzReplaceAll.l0 k s ⟨#[39]⟩ ⟨#[39, 39]⟩ (ints acc) = some (ba (acc ++ dqB (B s)))
  | n, s, acc, k, hn, hk, ha => by
    obtain ⟨k, rfl⟩ : ∃ m, k = m + 1 := ⟨k - 1, by omega⟩
    have hz : ((⟨#[39]⟩ : ByteArray).size) = 1 := rfl
    simp only [ast_zzReplaceAll.l0]
    by_cases h : (39 : UInt8) ∈ B s
    · obtain ⟨a, b, hab, hna⟩ := List.eq_append_cons_of_mem h
      have hsz : s.size = a.length + 1 + b.length := by rw [← B_length, hab, List.length_append, List.length_cons]; omega
      have hi : ast_zzIndex.f k s ⟨#[39]⟩ = some (a.length : Int) := by
        refine index_at_f s _ (by omega) (by decide) a.length (by rw [hz]; omega) ?_ ?_ k (by omega)
        · unfold hit; rw [hab, hz]; simp
        · intro j hj e
          unfold hit at e
          rw [hab, hz, List.drop_append_of_le_length (by omega)] at e
          have hj2 : (a.drop j) ≠ [] := by simp; omega
          obtain ⟨c, r, hcr⟩ := List.exists_cons_of_ne_nil hj2
          rw [hcr] at e
          have ec : c = 39 := by simpa [B] using e
          exact hna (ec ▸ List.mem_of_mem_drop (hcr ▸ List.mem_cons_self))
      have e1 : s.extract 0 ((a.length : Int)).toNat = ba a := by
        refine eq_of_B ?_
        show (s.extract 0 _).data.toList = a
        rw [Lib.extract_data, show s.data.toList = a ++ 39 :: b from hab]
        simp
      have hw : wrap64 ((a.length : Int) + ((⟨#[39]⟩ : ByteArray).size : Int)) = ((a.length + 1 : Nat) : Int) := by rw [hz]; unfold wrap64; omega
      have e2 : s.extract (((a.length + 1 : Nat) : Int)).toNat s.size = ba b := by
        refine eq_of_B ?_
        show (s.extract _ _).data.toList = b
        rw [Lib.extract_data, show s.data.toList = a ++ 39 :: b from hab, show (((a.length + 1 : Nat) : Int)).toNat = a.length + 1 by omega]
        rw [show a ++ 39 :: b = (a ++ [39]) ++ b by simp, List.drop_append_of_le_length (by simp)]
        rw [List.drop_eq_nil_of_le (by simp), List.nil_append, List.take_of_length_le (by omega)]
      rw [hi]
      simp only [Option.bind_some]
      rw [if_neg (by omega), if_pos (by omega), if_pos (by omega), e1, ba_size, ints_length, if_pos (by omega), if_pos (by have : (⟨#[39, 39]⟩ : ByteArray).size = 2 := rfl; rw [List.length_append, bytesOf_length, ba_size, ints_length, this]; omega), hw, if_pos (by omega), if_pos (by omega), e2]
      have e3 : ints acc ++ bytesOf (ba a) ++ bytesOf (⟨#[39, 39]⟩ : ByteArray) = ints (acc ++ a ++ [39, 39]) := by
        rw [bytesOf_eq, bytesOf_eq, B_ba, ints_append, ints_append]
      rw [e3]
      match n, hn with
      | n + 1, hn =>
        rw [replace_l0 n (ba b) _ k (by rw [ba_size]; omega) (by omega) (by rw [ba_size]; simp; omega), B_ba]
        rw [show (B s) = a ++ 39 :: b from hab, dqB_append, dqB_none a hna]
        have : dqB (39 :: b) = [39, 39] ++ dqB b := by simp [dqB]
        rw [this]
        simp
      | 0, hn => omega
    · have hi : ast_zzIndex.f k s ⟨#[39]⟩ = some (-1) := by
        refine index_none_f s _ (by omega) (by decide) ?_ k (by omega)
        intro j hj e
        unfold hit at e
        have : (39 : UInt8) ∈ ((B s).drop j).take (⟨#[39]⟩ : ByteArray).size := by rw [e]; exact List.mem_singleton.2 rfl
        exact h (List.mem_of_mem_drop (List.mem_of_mem_take this))
      rw [hi]
      simp only [Option.bind_some]
      rw [if_pos (by omega), ints_length, if_pos (by omega), bytesOf_eq, ← ints_append, strOfNums_ints, dqB_none _ h]

theorem replace_f (s : ByteArray) (hs : s.size ≤ 4398046511000) : ∃ k, ast_zzReplaceAll.f k s ⟨#[39]⟩ ⟨#[39, 39]⟩ = some (ba (dqB (B s))) :=
  ⟨s.size + 3, by
    have := replace_l0 s.size s [] (s.size + 3) (Nat.le_refl _) (by omega) (by simp; omega)
    simpa [ast_zzReplaceAll.f, ints] using this⟩

/-- The text between quotes is found. -/
theorem inside_f (l : List UInt8) (hl : l.length ≤ 4398046511000) : laws_lxInside.f (ba (39 :: (l ++ [39]))) ⟨#[39]⟩ = some (ba l, true) := by
  unfold laws_lxInside.f
  have hs : (ba (39 :: (l ++ [39]))).size = l.length + 2 := by rw [ba_size]; simp
  have hw : wrap64 (((ba (39 :: (l ++ [39]))).size : Int) - 1) = ((l.length + 1 : Nat) : Int) := by rw [hs]; unfold wrap64; omega
  have e1 : ((ba (39 :: (l ++ [39]))).extract 0 1).toList = (⟨#[39]⟩ : ByteArray).toList := by
    rw [ByteArray.toList_eq, ByteArray.toList_eq, Lib.extract_data]; rfl
  have e2 : ((ba (39 :: (l ++ [39]))).extract (((l.length + 1 : Nat) : Int)).toNat (ba (39 :: (l ++ [39]))).size).toList = (⟨#[39]⟩ : ByteArray).toList := by
    rw [ByteArray.toList_eq, ByteArray.toList_eq, Lib.extract_data, hs]
    show ((39 :: (l ++ [39])).drop _).take _ = [39]
    rw [show (((l.length + 1 : Nat) : Int)).toNat = l.length + 1 by omega]
    simp
  have e3 : (ba (39 :: (l ++ [39]))).extract 1 (((l.length + 1 : Nat) : Int)).toNat = ba l := by
    refine eq_of_B ?_
    show ((ba (39 :: (l ++ [39]))).extract _ _).data.toList = l
    rw [Lib.extract_data]
    show ((39 :: (l ++ [39])).drop 1).take _ = l
    rw [show (((l.length + 1 : Nat) : Int)).toNat - 1 = l.length by omega]
    simp
  rw [hw, e1, e2, e3, if_neg (by omega), if_pos (by omega), if_pos (by omega), if_pos rfl, if_pos (by omega), if_pos (by omega), if_pos rfl, if_pos (by omega)]
end Go.Proofs.YtmildhkegpmacaaDoor.QuoteFind
