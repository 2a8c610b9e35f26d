/- Numbers: the digits that the reference writes, and what they are read as. -/
import Derived.Test.YtlkbhmmelejmjaaDoorNumPure
import Derived.Test.YtlkbhmmelejmjaaDoorNumParse
namespace Go.Proofs.YtlkbhmmelejmjaaDoor.NumDec
open Go.RowKit Go.Proofs.YtlkbhmmelejmjaaDoorW.PrintWords Go.Proofs.YtlkbhmmelejmjaaDoor.NumKnown Go.Proofs.YtlkbhmmelejmjaaDoor.NumPure Go.Proofs.YtlkbhmmelejmjaaDoor.NumParse
set_option linter.unusedVariables false
set_option linter.unusedSimpArgs false

/-- The character of a digit. -/
def hx (d : Nat) : UInt8 := UInt8.ofNat (if d < 10 then 48 + d else 87 + d)
theorem hx_dg : ∀ d, d < 16 → dg (hx d).toNat = some d := by decide
theorem hx_in : ∀ d, d < 16 → (48 ≤ (hx d).toNat ∧ (hx d).toNat ≤ 57) ∨ (97 ≤ (hx d).toNat ∧ (hx d).toNat ≤ 102) := by decide
theorem hx_ten : ∀ d, d < 10 → 48 ≤ (hx d).toNat ∧ (hx d).toNat ≤ 57 := by decide
theorem hx_zero : ∀ d, d < 16 → d ≠ 0 → hx d ≠ 48 := by decide

/-- The digits of a number, m of them at most. -/
def digs (b : Nat) : Nat → Nat → List UInt8
  | 0, n => [hx n]
  | m + 1, n => if n < b then [hx n] else digs b m (n / b) ++ [hx (n % b)]

theorem pu_snoc (b : Nat) (c : UInt8) : ∀ (l : List UInt8) (acc v : Nat), pu b acc l = .ok v → pu b acc (l ++ [c]) = pu b v [c]
  | [], acc, v, h => by simp only [pu] at h; injection h with h; subst h; rfl
  | x :: l, acc, v, h => by
    rw [List.cons_append]
    cases hd : dg x.toNat with
    | none => simp only [pu, hd] at h; cases h
    | some d =>
      simp only [pu, hd] at h ⊢
      by_cases h1 : b ≤ d
      · rw [if_pos h1] at h; cases h
      · rw [if_neg h1] at h ⊢
        by_cases h2 : cut b ≤ acc
        · rw [if_pos h2] at h; cases h
        · rw [if_neg h2] at h ⊢
          by_cases h3 : 18446744073709551616 ≤ acc * b + d
          · rw [if_pos h3] at h; cases h
          · rw [if_neg h3] at h ⊢
            exact pu_snoc b c l _ v h

theorem pu_one {b d v : Nat} (hd : d < b) (hb : b ≤ 16) (hv : v * b + d < 18446744073709551616) : pu b v [hx d] = .ok (v * b + d) := by
  have h0 : 0 < b := by omega
  have hc : ¬ cut b ≤ v := by
    unfold cut
    intro h
    have h1 : v * b ≤ 18446744073709551615 := by omega
    have h2 : v ≤ 18446744073709551615 / b := (Nat.le_div_iff_mul_le h0).2 h1
    omega
  rw [pu_step (hx_dg d (by omega)) (by omega) hc (by omega)]
  rfl

theorem digs_pu {b : Nat} (hb : 2 ≤ b) (hb16 : b ≤ 16) : ∀ (m n : Nat), n < b ^ (m + 1) → n < 18446744073709551616 → pu b 0 (digs b m n) = .ok n
  | 0, n, h, hn => by
    rw [Nat.zero_add, Nat.pow_one] at h
    have := pu_one (v := 0) h hb16 (by omega)
    simpa [digs] using this
  | m + 1, n, h, hn => by
    unfold digs
    by_cases hlt : n < b
    · rw [if_pos hlt]
      have := pu_one (v := 0) hlt hb16 (by omega)
      simpa using this
    · rw [if_neg hlt]
      have hq : n / b < b ^ (m + 1) := by
        rw [Nat.div_lt_iff_lt_mul (by omega)]
        rwa [Nat.pow_succ] at h
      have hle : n / b ≤ n := Nat.div_le_self _ _
      rw [pu_snoc b _ _ _ _ (digs_pu hb hb16 m (n / b) hq (by omega))]
      have hmod : n % b < b := Nat.mod_lt _ (by omega)
      have hdm : n / b * b + n % b = n := by rw [Nat.mul_comm]; exact Nat.div_add_mod n b
      rw [pu_one hmod hb16 (by omega), hdm]

theorem digs_len (b : Nat) : ∀ (m n : Nat), 1 ≤ (digs b m n).length ∧ (digs b m n).length ≤ m + 1
  | 0, n => ⟨Nat.le_refl _, Nat.le_refl _⟩
  | m + 1, n => by
    unfold digs
    split
    · exact ⟨Nat.le_refl _, by simp⟩
    · have := digs_len b m (n / b)
      rw [List.length_append]
      simp only [List.length_singleton]
      omega

theorem digs_mem {b : Nat} (hb : 2 ≤ b) : ∀ (m n : Nat), n < b ^ (m + 1) → ∀ c ∈ digs b m n, ∃ d, d < b ∧ c = hx d
  | 0, n, h, c, hc => by
    rw [Nat.zero_add, Nat.pow_one] at h
    simp only [digs, List.mem_singleton] at hc
    exact ⟨n, h, hc⟩
  | m + 1, n, h, c, hc => by
    unfold digs at hc
    split at hc
    · next h1 => exact ⟨n, h1, by simpa using hc⟩
    · rw [List.mem_append] at hc
      rcases hc with hc | hc
      · refine digs_mem hb m (n / b) ?_ c hc
        rw [Nat.div_lt_iff_lt_mul (by omega)]
        rwa [Nat.pow_succ] at h
      · exact ⟨n % b, Nat.mod_lt _ (by omega), by simpa using hc⟩

/-- A number of several digits does not begin with 0. -/
theorem digs_head {b : Nat} (hb : 2 ≤ b) (hb16 : b ≤ 16) : ∀ (m n : Nat), n < b ^ (m + 1) → (digs b m n).length = 1 ∨ ∃ c r, digs b m n = c :: r ∧ c ≠ 48
  | 0, n, h => .inl rfl
  | m + 1, n, h => by
    unfold digs
    split
    · exact .inl rfl
    · next h1 =>
      right
      have hq : n / b < b ^ (m + 1) := by
        rw [Nat.div_lt_iff_lt_mul (by omega)]
        rwa [Nat.pow_succ] at h
      have h1' : 1 ≤ n / b := by
        rw [Nat.le_div_iff_mul_le (by omega)]; omega
      rcases digs_head hb hb16 m (n / b) hq with hl | ⟨c, r, he, hc⟩
      · -- one digit: it is n / b itself
        have e : digs b m (n / b) = [hx (n / b)] := by
          cases m with
          | zero => rfl
          | succ m =>
            unfold digs at hl ⊢
            split at hl
            · next h2 => rw [if_pos h2]
            · rw [List.length_append] at hl
              have := (digs_len b m (n / b / b)).1
              simp only [List.length_singleton] at hl
              omega
        have hlt : n / b < b := by
          cases m with
          | zero => simpa using hq
          | succ m =>
            unfold digs at e
            split at e
            · next h2 => exact h2
            · exfalso
              have := congrArg List.length e
              rw [List.length_append] at this
              have h3 := (digs_len b m (n / b / b)).1
              simp only [List.length_singleton] at this
              omega
        exact ⟨hx (n / b), [hx (n % b)], by rw [e]; rfl, hx_zero _ (by omega) (by omega)⟩
      · exact ⟨c, r ++ [hx (n % b)], by rw [he]; rfl, hc⟩

def ba (l : List UInt8) : ByteArray := ⟨l.toArray⟩
theorem ba_data (l : List UInt8) : (ba l).data.toList = l := rfl
theorem ba_size (l : List UInt8) : (ba l).size = l.length := by rw [Lib.size_eq, ba_data]
theorem ba_append (a b : List UInt8) : ba a ++ ba b = ba (a ++ b) := by
  have : (ba a ++ ba b).data.toList = a ++ b := by rw [ByteArray.data_append]; simp [ba]
  unfold ba at this ⊢
  rw [← this]

theorem strOf_one (n : Nat) (h : n < 10) : strOfNums [(IntKind.u64.wrap (48 + (n : Int))) % 256] = ba [hx n] := by
  have : n = 0 ∨ n = 1 ∨ n = 2 ∨ n = 3 ∨ n = 4 ∨ n = 5 ∨ n = 6 ∨ n = 7 ∨ n = 8 ∨ n = 9 := by omega
  rcases this with rfl | rfl | rfl | rfl | rfl | rfl | rfl | rfl | rfl | rfl <;> rfl

/-- What spec.Decimal writes. -/
theorem dec_f : ∀ (m n : Nat), n < 10 ^ (m + 1) → n < 18446744073709551616 → ∀ k, m < k → m ≤ 1000 → spec_Decimal.f k (n : Int) = some (ba (digs 10 m n))
  | 0, n, h, hn, k, hk, hm => by
    obtain ⟨k, rfl⟩ : ∃ j, k = j + 1 := ⟨k - 1, by omega⟩
    simp only [spec_Decimal.f]
    rw [if_pos (by omega), strOf_one n (by omega)]
    rfl
  | m + 1, n, h, hn, k, hk, hm => by
    obtain ⟨k, rfl⟩ : ∃ j, k = j + 1 := ⟨k - 1, by omega⟩
    simp only [spec_Decimal.f]
    by_cases hlt : n < 10
    · rw [if_pos (by omega), strOf_one n hlt]
      unfold digs
      rw [if_pos hlt]
    · have e1 : IntKind.u64.wrap (Int.tdiv (n : Int) 10) = ((n / 10 : Nat) : Int) := by
        rw [IntKind.wrap_u64, Int.tdiv_eq_ediv_of_nonneg (by omega)]; omega
      have e2 : Int.tmod (n : Int) 10 = ((n % 10 : Nat) : Int) := by
        rw [Int.tmod_eq_emod_of_nonneg (by omega)]; omega
      have h1 := dec_f m (n / 10) (by rw [Nat.div_lt_iff_lt_mul (by omega)]; rwa [Nat.pow_succ] at h) (by omega) k (by omega) (by omega)
      have h2 : spec_Decimal.f k ((n % 10 : Nat) : Int) = some (ba [hx (n % 10)]) := by
        obtain ⟨k, rfl⟩ : ∃ j, k = j + 1 := ⟨k - 1, by omega⟩
        simp only [spec_Decimal.f]
        rw [if_pos (by omega), strOf_one _ (Nat.mod_lt _ (by omega))]
      rw [if_neg (by omega), e1, e2, h1, h2]
      simp only [Option.bind_some]
      have hl := (digs_len 10 m (n / 10)).2
      rw [if_pos (by rw [ba_size, ba_size]; simp only [List.length_singleton]; omega), ba_append]
      have hd : digs 10 (m + 1) n = digs 10 m (n / 10) ++ [hx (n % 10)] := by
        conv => lhs; unfold digs
        rw [if_neg hlt]
      rw [hd]
end Go.Proofs.YtlkbhmmelejmjaaDoor.NumDec
