/- The option behind a header's sign: what the trims leave of it, and what is read of that (functions 65 and 66). -/
import Derived.Test.YtmildhkegpmacaaDoorUtf
import Derived.Test.YtmildhkegpmacaaDoorParseShelf
import Derived.Test.YtmildhkegpmacaaDoorPFnHeaderReadx2
namespace Go.Proofs.YtmildhkegpmacaaDoor.ParseOpt
open Go.RowKit Go.Proofs.YtmildhkegpmacaaDoorW.PrintWords Go.Proofs.YtmildhkegpmacaaDoor.Utf Go.Proofs.YtmildhkegpmacaaDoor.PFnHeaderRead
set_option linter.unusedVariables false
set_option linter.unusedSimpArgs false

/-- What the four trims leave. -/
def trims (s : ByteArray) : Option ByteArray :=
  (strings_TrimPrefix.f s ⟨#[45]⟩).bind fun a => (strings_TrimPrefix.f a ⟨#[43]⟩).bind fun b => (strings_TrimSuffix.f b ⟨#[45]⟩).bind fun c => strings_TrimSuffix.f c ⟨#[43]⟩

def dg (n : Nat) : UInt8 := UInt8.ofNat (49 + n)
theorem trims_nil : trims ⟨#[]⟩ = some ⟨#[]⟩ := by decide +kernel
theorem trims_plus : trims ⟨#[43]⟩ = some ⟨#[]⟩ := by decide +kernel
theorem trims_minus : trims ⟨#[45]⟩ = some ⟨#[]⟩ := by decide +kernel
theorem trims_d : ∀ n, n < 9 → trims ⟨#[dg n]⟩ = some ⟨#[dg n]⟩ := by decide +kernel
theorem trims_dp : ∀ n, n < 9 → trims ⟨#[dg n, 43]⟩ = some ⟨#[dg n]⟩ := by decide +kernel
theorem trims_dm : ∀ n, n < 9 → trims ⟨#[dg n, 45]⟩ = some ⟨#[dg n]⟩ := by decide +kernel
theorem trims_pd : ∀ n, n < 9 → trims ⟨#[43, dg n]⟩ = some ⟨#[dg n]⟩ := by decide +kernel
theorem trims_md : ∀ n, n < 9 → trims ⟨#[45, dg n]⟩ = some ⟨#[dg n]⟩ := by decide +kernel
theorem parse_d : ∀ n, n < 9 → Lib.parseIntB 64 [dg n] = .ok ((n : Int) + 1) := by decide +kernel
theorem one_d : ∀ n, n < 9 → (([dg n] : List UInt8) == [48]) = false := by decide +kernel
end Go.Proofs.YtmildhkegpmacaaDoor.ParseOpt
