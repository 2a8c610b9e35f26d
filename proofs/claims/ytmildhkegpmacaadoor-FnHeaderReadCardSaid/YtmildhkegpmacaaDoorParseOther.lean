/- spec.Other at a text of at most three bytes: false where each byte is a digit or a sign. -/
import Derived.Test.YtmildhkegpmacaaDoorUtf
import Derived.Test.YtmildhkegpmacaaDoorPFnHeaderReadx1
import Derived.Lib.Strings
namespace Go.Proofs.YtmildhkegpmacaaDoor.ParseOther
open Go.RowKit Go.Proofs.YtmildhkegpmacaaDoorW.PrintWords Go.Proofs.YtmildhkegpmacaaDoor.Utf Go.Proofs.YtmildhkegpmacaaDoor.PFnHeaderRead
set_option linter.unusedVariables false
set_option linter.unusedSimpArgs false

def signs : ByteArray := ⟨#[48, 49, 50, 51, 52, 53, 54, 55, 56, 57, 43, 45]⟩
def isSign (c : UInt8) : Bool := (48 ≤ c && c ≤ 57) || c == 43 || c == 45

theorem has_f (c : UInt8) : spec_Has.f 20 (ba [c]) signs = some (isSign c) := by
  have h : ∀ n, n < 256 → spec_Has.f 20 (ba [UInt8.ofNat n]) signs = some (isSign (UInt8.ofNat n)) := by decide +kernel
  have := h c.toNat c.toNat_lt
  simpa using this

theorem has_ge (c : UInt8) (d : Nat) : spec_Has.f (20 + d) (ba [c]) signs = some (isSign c) := by
  induction d with
  | zero => exact has_f c
  | succ d ih => exact spec_Has.mono _ _ _ _ ih

theorem other_l0 (s : ByteArray) (hs : s.size ≤ 65536) (d : Nat) : ∀ (k i : Nat), i ≤ s.size → s.size - i = d → d + 21 ≤ k →
    spec_Other.l0 k s signs (i : Int) = some (((B s).drop i).any fun c => !isSign c) := by
  induction d with
  | zero =>
    intro k i h1 h2 h3
    obtain ⟨k, rfl⟩ : ∃ m, k = m + 1 := ⟨k - 1, by omega⟩
    simp only [spec_Other.l0]
    rw [if_neg (by omega), List.drop_eq_nil_of_le (by rw [B_length]; omega)]
    rfl
  | succ d ih =>
    intro k i h1 h2 h3
    obtain ⟨k, rfl⟩ : ∃ m, k = m + 1 := ⟨k - 1, by omega⟩
    have hi : i < s.size := by omega
    have hiB : i < (B s).length := by rw [B_length]; exact hi
    have e : (B s).drop i = (B s)[i] :: (B s).drop (i + 1) := List.drop_eq_getElem_cons hiB
    have hw : wrap64 ((i : Int) + 1) = ((i + 1 : Nat) : Int) := by unfold wrap64; omega
    have ex : s.extract ((i : Int)).toNat (((i + 1 : Nat) : Int)).toNat = ba [(B s)[i]] := by
      refine eq_of_B ?_
      show (s.extract _ _).data.toList = [(B s)[i]]
      rw [Lib.extract_data, show ((i : Int)).toNat = i by omega, show (((i + 1 : Nat) : Int)).toNat = i + 1 by omega, show s.data.toList.drop i = (B s)[i] :: (B s).drop (i + 1) from e]
      simp
    obtain ⟨q, hq⟩ : ∃ q, k = 20 + q := ⟨k - 20, by omega⟩
    simp only [spec_Other.l0, hw]
    rw [if_pos (by omega), if_pos (by omega), if_pos (by omega), if_pos (by omega), ex, hq, has_ge, ← hq]
    simp only [Option.bind_some]
    rw [ih k (i + 1) (by omega) (by omega) (by omega), e, List.any_cons]
    cases isSign (B s)[i] with
    | true => rw [if_pos rfl]; rfl
    | false => rw [if_neg (by simp)]; rfl

theorem other_f (s : ByteArray) (hs : s.size ≤ 65536) : spec_Other.f (s.size + 21) s signs = some ((B s).any fun c => !isSign c) :=
  other_l0 s hs s.size _ 0 (by omega) (by omega) (by omega)
end Go.Proofs.YtmildhkegpmacaaDoor.ParseOther
