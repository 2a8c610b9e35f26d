/- Bytes that are digits and signs, as runes. -/
import Derived.Test.YtmildhkegpmacaaDoorParseOther
namespace Go.Proofs.YtmildhkegpmacaaDoor.ParseKinds
open Go.Proofs.YtmildhkegpmacaaDoor.Utf Go.Proofs.YtmildhkegpmacaaDoor.ParseOther
set_option linter.unusedVariables false

def nums (l : List UInt8) : List Int := l.map fun c => (c.toNat : Int)

theorem sign_range (c : UInt8) (h : isSign c = true) : ((49 ≤ (c.toNat : Int) ∧ (c.toNat : Int) ≤ 57) ∨ (c.toNat : Int) = 48 ∨ (c.toNat : Int) = 43 ∨ (c.toNat : Int) = 45) := by
  have h2 : ∀ n, n < 256 → isSign (UInt8.ofNat n) = true → ((49 ≤ n ∧ n ≤ 57) ∨ n = 48 ∨ n = 43 ∨ n = 45) := by decide +kernel
  have := h2 c.toNat c.toNat_lt (by simpa using h)
  omega

theorem enc_nums (l : List UInt8) (h : (l.any fun c => !isSign c) = false) : enc (nums l) = l := by
  induction l with
  | nil => rfl
  | cons c t ih =>
    simp only [List.any_cons, Bool.or_eq_false_iff, Bool.not_eq_false'] at h
    have hr := sign_range c h.1
    show enc ((c.toNat : Int) :: nums t) = c :: t
    rw [enc_cons, ih h.2, encodeRune_ascii _ (by omega) (by omega)]
    simp

theorem kinds (l : List UInt8) (h : (l.any fun c => !isSign c) = false) : ∀ r ∈ nums l, ((49 ≤ r ∧ r ≤ 57) ∨ r = 48 ∨ r = 43 ∨ r = 45) := by
  intro r hr
  obtain ⟨c, hc, rfl⟩ := List.mem_map.1 hr
  refine sign_range c ?_
  rw [List.any_eq_false] at h
  simpa using h c hc
end Go.Proofs.YtmildhkegpmacaaDoor.ParseKinds
