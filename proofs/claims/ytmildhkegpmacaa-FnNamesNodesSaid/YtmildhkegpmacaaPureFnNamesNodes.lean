/- The pure statement behind FnNamesNodes: two node types from 1 to 14 that are not the same have two names. No condition beyond that the two are ints. By running all pairs. -/
import Derived.Test.YtmildhkegpmacaaPFnNamesNodesx1
namespace Go.Proofs.Ytmildhkegpmacaa.Pure
open Go.RowKit Go.Proofs.Ytmildhkegpmacaa.PFnNamesNodes Go.Proofs.YtmildhkegpmacaaW.PrintWords Go.Proofs.YtmildhkegpmacaaW.PrintLast

set_option maxRecDepth 100000 in
theorem all_pairs : ∀ i : Fin 15, ∀ j : Fin 15, laws_FnNamesNodes.f (i.val : Int) (j.val : Int) = some true := by decide +kernel

theorem FnNamesNodes : laws_FnNamesNodes.Pure := by
  intro a b _ _
  by_cases h : 1 ≤ a ∧ a ≤ 14 ∧ 1 ≤ b ∧ b ≤ 14
  · obtain ⟨h1, h2, h3, h4⟩ := h
    obtain ⟨i, rfl⟩ := Int.eq_ofNat_of_zero_le (show 0 ≤ a by omega)
    obtain ⟨j, rfl⟩ := Int.eq_ofNat_of_zero_le (show 0 ≤ b by omega)
    exact all_pairs ⟨i, by omega⟩ ⟨j, by omega⟩
  · unfold laws_FnNamesNodes.f
    by_cases c1 : a < 1
    · simp [c1]
    · by_cases c2 : a > 14
      · simp [c1, c2]
      · by_cases c3 : b < 1
        · simp [c1, c2, c3]
        · have c4 : b > 14 := by omega
          simp [c1, c2, c3, c4]

end Go.Proofs.Ytmildhkegpmacaa.Pure
