/- Plain facts for FnPartQuotes: quotes doubled, in bytes and in runes. -/
import Derived.Test.YtmildhkegpmacaaDoorRunes
namespace Go.Proofs.YtmildhkegpmacaaDoor.QuotePure
open Go.RowKit Go.Proofs.YtmildhkegpmacaaDoor.PFnPartQuotes Go.Proofs.YtmildhkegpmacaaDoorW.PrintWords Go.Proofs.YtmildhkegpmacaaDoor.Utf Go.Proofs.YtmildhkegpmacaaDoor.Runes
set_option linter.unusedVariables false
set_option linter.unusedSimpArgs false

def dq (rs : List Int) : List Int := rs.flatMap fun c => if c = 39 then [39, 39] else [c]
theorem dq_cons (c : Int) (t : List Int) : dq (c :: t) = (if c = 39 then [39, 39] else [c]) ++ dq t := by simp [dq]
theorem dq_append (a b : List Int) : dq (a ++ b) = dq a ++ dq b := by simp [dq]
theorem dq_length (rs : List Int) : rs.length ≤ (dq rs).length ∧ (dq rs).length ≤ 2 * rs.length := by
  induction rs with
  | nil => simp [dq]
  | cons c t ih => rw [dq_cons]; split <;> simp <;> omega

/-- Quotes doubled, in bytes. -/
def dqB (l : List UInt8) : List UInt8 := l.flatMap fun c => if c = 39 then [39, 39] else [c]
theorem dqB_append (a b : List UInt8) : dqB (a ++ b) = dqB a ++ dqB b := by simp [dqB]
theorem dqB_none (l : List UInt8) (h : (39 : UInt8) ∉ l) : dqB l = l := by
  induction l with
  | nil => rfl
  | cons c t ih =>
    have hc : c ≠ 39 := fun e => h (by simp [e])
    have ht := ih (fun e => h (by simp [e]))
    unfold dqB at ht ⊢
    rw [List.flatMap_cons, if_neg hc, ht]; rfl
theorem dqB_length (l : List UInt8) : (dqB l).length ≤ 2 * l.length := by
  induction l with
  | nil => simp [dqB]
  | cons c t ih =>
    have e : dqB (c :: t) = (if c = 39 then [39, 39] else [c]) ++ dqB t := by simp [dqB]
    rw [e, List.length_append]
    split <;> simp <;> omega

theorem quote_not_in (r : Int) (h : Scalar r) (hne : r ≠ 39) : (39 : UInt8) ∉ Lib.encodeRune r := by
  intro hm
  unfold Lib.encodeRune at hm
  obtain ⟨z, hz, e⟩ := List.mem_map.1 hm
  have hzb := Lib.encodeRuneZ_byte r z hz
  have hz39 : z = 39 := by
    have := congrArg UInt8.toNat e
    rw [toByte' z hzb.1 hzb.2] at this
    have h39 : (39 : UInt8).toNat = 39 := rfl
    omega
  subst hz39
  obtain ⟨h0, h1⟩ := h
  unfold Lib.encodeRuneZ at hz
  repeat' split at hz
  all_goals (simp at hz; try omega)

theorem enc_dq (rs : List Int) (h : ∀ r ∈ rs, Scalar r) : enc (dq rs) = dqB (enc rs) := by
  induction rs with
  | nil => rfl
  | cons r t ih =>
    rw [dq_cons, enc_append, enc_cons, dqB_append, ih (fun x hx => h x (by simp [hx]))]
    congr 1
    by_cases hr : r = 39
    · subst hr; rfl
    · rw [if_neg hr, dqB_none _ (quote_not_in r (h r (by simp)) hr), enc_cons]
      simp [enc_nil]

theorem dq_scalar (rs : List Int) (h : ∀ r ∈ rs, Scalar r) : ∀ r ∈ dq rs, Scalar r := by
  intro r hr
  unfold dq at hr
  obtain ⟨c, hc, hrc⟩ := List.mem_flatMap.1 hr
  split at hrc
  · simp at hrc; subst hrc; exact ⟨by omega, by omega⟩
  · simp at hrc; subst hrc; exact h _ hc

theorem dq_all (rs : List Int) (h : all false rs = true) : all true (dq rs) = true := by
  induction rs with
  | nil => rfl
  | cons c t ih =>
    rw [all_cons] at h
    simp only [Bool.and_eq_true, Bool.false_and, Bool.or_false] at h
    rw [dq_cons]
    have ht := ih h.2
    split
    · show all true (39 :: 39 :: dq t) = true
      rw [all_cons, all_cons, ht]; rfl
    · show all true (c :: dq t) = true
      rw [all_cons, ht, h.1]; rfl

/-- Where the rune k of a text stands among the doubled ones. -/
def at_ (rs : List Int) (k : Nat) : Nat := (dq (rs.take k)).length

theorem take_step (rs : List Int) (k : Nat) (h : k < rs.length) : rs.take (k + 1) = rs.take k ++ [rs.getD k 0] := by
  rw [List.take_succ_eq_append_getElem h]; simp [List.getD, h]

theorem at_step (rs : List Int) (k : Nat) (h : k < rs.length) : at_ rs (k + 1) = at_ rs k + (if rs.getD k 0 = 39 then 2 else 1) := by
  unfold at_
  rw [take_step rs k h, dq_append, dq_cons]
  split <;> simp [dq]

theorem dq_split (rs : List Int) (k : Nat) (h : k < rs.length) : dq rs = dq (rs.take k) ++ ((if rs.getD k 0 = 39 then [39, 39] else [rs.getD k 0]) ++ dq (rs.drop (k + 1))) := by
  have e : rs = rs.take k ++ (rs.getD k 0 :: rs.drop (k + 1)) := by
    conv => lhs; rw [← List.take_append_drop k rs]
    rw [List.drop_eq_getElem_cons h]
    simp [List.getD, h]
  conv => lhs; rw [e]
  rw [dq_append, dq_cons]

theorem dq_get (rs : List Int) (k : Nat) (h : k < rs.length) : at_ rs k < (dq rs).length ∧ (dq rs).getD (at_ rs k) 0 = rs.getD k 0 ∧ (rs.getD k 0 = 39 → at_ rs k + 1 < (dq rs).length ∧ (dq rs).getD (at_ rs k + 1) 0 = 39) := by
  have e := dq_split rs k h
  unfold at_
  rw [e]
  split
  · rename_i h39
    refine ⟨by simp, ?_, fun _ => ⟨by simp, ?_⟩⟩
    · rw [h39]; simp [List.getD]
    · simp [List.getD]
  · rename_i h39
    refine ⟨by simp, by simp [List.getD], fun h' => absurd h' h39⟩

theorem at_end (rs : List Int) : at_ rs rs.length = (dq rs).length := by unfold at_; rw [List.take_length]

theorem enc_step (rs : List Int) (k : Nat) (h : k < rs.length) : enc (rs.take (k + 1)) = enc (rs.take k) ++ Lib.encodeRune (rs.getD k 0) := by
  rw [take_step rs k h, enc_append, enc_cons]; simp [enc_nil]

/-- What string(r) is. -/
theorem encode_eq (r : Int) (h : Scalar r) : Utf8.encode r = ba (Lib.encodeRune r) := by
  obtain ⟨h0, h1⟩ := h
  have hv : Utf8.valid r = true := by unfold Utf8.valid; simp; omega
  unfold Utf8.encode
  simp only [hv, if_true]
  unfold ba Lib.encodeRune
  by_cases a : r ≤ 127
  · rw [if_pos (by omega), Lib.encodeRuneZ_one h0 a]; rfl
  · rw [if_neg (by omega)]
    by_cases b : r ≤ 2047
    · rw [if_pos (by omega), Lib.encodeRuneZ_two (by omega) b]
      simp only [List.map_cons, List.map_nil]
      have e0 : (192 + r / 64).toNat = 0xC0 + r.toNat / 64 := by omega
      have e1 : (128 + r % 64).toNat = 0x80 + r.toNat % 64 := by omega
      rw [e0, e1]
    · rw [if_neg (by omega)]
      by_cases c : r ≤ 65535
      · rw [if_pos (by omega), Lib.encodeRuneZ_three (by omega)]
        simp only [List.map_cons, List.map_nil]
        have e0 : (224 + r / 4096).toNat = 0xE0 + r.toNat / 4096 := by omega
        have e1 : (128 + r / 64 % 64).toNat = 0x80 + r.toNat / 64 % 64 := by omega
        have e2 : (128 + r % 64).toNat = 0x80 + r.toNat % 64 := by omega
        rw [e0, e1, e2]
      · rw [if_neg (by omega), Lib.encodeRuneZ_four (by omega) (by omega)]
        simp only [List.map_cons, List.map_nil]
        have e0 : (240 + r / 262144).toNat = 0xF0 + r.toNat / 262144 := by omega
        have e1 : (128 + r / 4096 % 64).toNat = 0x80 + r.toNat / 4096 % 64 := by omega
        have e2 : (128 + r / 64 % 64).toNat = 0x80 + r.toNat / 64 % 64 := by omega
        have e3 : (128 + r % 64).toNat = 0x80 + r.toNat % 64 := by omega
        rw [e0, e1, e2, e3]
end Go.Proofs.YtmildhkegpmacaaDoor.QuotePure
