/- The pure statement behind FnNamesDiffer: two types of tokens from 0 to 33 that are not the same have two names. No condition beyond that the two are ints. By running all pairs. -/
import Derived.Test.YtmildhkegpmacaaPFnNamesDifferx1
namespace Go.Proofs.Ytmildhkegpmacaa.Pure
open Go.RowKit Go.Proofs.Ytmildhkegpmacaa.PFnNamesDiffer Go.Proofs.YtmildhkegpmacaaW.PrintWords Go.Proofs.YtmildhkegpmacaaW.PrintLast

set_option maxRecDepth 100000 in
theorem all_pairs : ∀ i : Fin 34, ∀ j : Fin 34, laws_FnNamesDiffer.f (i.val : Int) (j.val : Int) = some true := by decide +kernel

theorem FnNamesDiffer : laws_FnNamesDiffer.Pure := by
  intro a b _ _
  by_cases h : 0 ≤ a ∧ a ≤ 33 ∧ 0 ≤ b ∧ b ≤ 33
  · obtain ⟨h1, h2, h3, h4⟩ := h
    obtain ⟨i, rfl⟩ := Int.eq_ofNat_of_zero_le (show 0 ≤ a by omega)
    obtain ⟨j, rfl⟩ := Int.eq_ofNat_of_zero_le (show 0 ≤ b by omega)
    exact all_pairs ⟨i, by omega⟩ ⟨j, by omega⟩
  · unfold laws_FnNamesDiffer.f
    by_cases c1 : a < 0
    · simp [c1]
    · by_cases c2 : a > 33
      · simp [c1, c2]
      · by_cases c3 : b < 0
        · simp [c1, c2, c3]
        · have c4 : b > 33 := by omega
          simp [c1, c2, c3, c4]

end Go.Proofs.Ytmildhkegpmacaa.Pure
