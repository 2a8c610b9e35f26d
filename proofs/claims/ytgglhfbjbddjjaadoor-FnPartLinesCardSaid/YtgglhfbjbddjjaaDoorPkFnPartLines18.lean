/- Parts of the proof of FnPartLines, one behind the other: LnPart. Each part says ahead of itself what it proves. -/
import Derived.Test.YtgglhfbjbddjjaaDoorPkFnPartLines16
import Derived.Test.YtgglhfbjbddjjaaDoorPkFnPartLines17

/- FnPartLines: a quoted text over lines that is tidy, steady and calm is scanned to the value that the standard gives it, and passed whole. For every text and either sign. -/
namespace Go.Proofs.YtgglhfbjbddjjaaDoor.LnPart
open Go.RowKit Go.Proofs.YtgglhfbjbddjjaaDoorW.PrintWords Go.Proofs.YtgglhfbjbddjjaaDoor.PFnPartLines Go.Proofs.YtgglhfbjbddjjaaDoor.Utf Go.Proofs.YtgglhfbjbddjjaaDoor.Runes Go.Proofs.YtgglhfbjbddjjaaDoor.ScBase Go.Proofs.YtgglhfbjbddjjaaDoor.ScStep Go.Proofs.YtgglhfbjbddjjaaDoor.ScLoop Go.Proofs.YtgglhfbjbddjjaaDoor.ScSingle Go.Proofs.YtgglhfbjbddjjaaDoor.ScDouble Go.Proofs.YtgglhfbjbddjjaaDoor.ScDoor Go.Proofs.YtgglhfbjbddjjaaDoor.ScQuot Go.Proofs.YtgglhfbjbddjjaaDoor.LnPure Go.Proofs.YtgglhfbjbddjjaaDoor.LnRun Go.Proofs.YtgglhfbjbddjjaaDoor.LnText Go.Proofs.YtgglhfbjbddjjaaDoor.LnNeat Go.Proofs.YtgglhfbjbddjjaaDoor.LnRead Go.Proofs.YtgglhfbjbddjjaaDoor.LnDouble Go.Proofs.YtgglhfbjbddjjaaDoor.LnBad Go.Proofs.YtgglhfbjbddjjaaDoor.LnLaw
set_option linter.unusedVariables false
set_option linter.unusedSimpArgs false

theorem below_fr {w0 w W : World} {S C : Nat} (hB : Below w0.heap.size w0 w) (hS : w0.heap.size ≤ S) (hC : w0.heap.size ≤ C) (hF : Fr w W (XS S C)) : Below w0.heap.size w0 W :=
  hB.trans (hF.below hB.size (fun k hk hx => by rcases hx with hx | hx <;> omega))
theorem ba_B (t : ByteArray) {l : List UInt8} (h : B t = l) : ba l = t := by
  rw [← h]; rfl
theorem text_enc (q : Int) (h0 : 0 ≤ q) (h1 : q ≤ 127) (s : ByteArray) (rs : List Int) (he : B s = enc rs) : B (⟨#[q.toNat.toUInt8]⟩ ++ s ++ ⟨#[q.toNat.toUInt8]⟩ ++ ⟨#[10]⟩) = enc (q :: (rs ++ [q, 10])) := by
  rw [LnInv.B_append, LnInv.B_append, LnInv.B_append, he, enc_asc q h0 h1, enc_append, enc_asc q h0 h1, enc_asc 10 (by omega) (by omega)]
  simp [B, enc_nil]
theorem gd_of (single : Bool) (q ty : Int) (hq : q = if single then 39 else 34) (hty : ty = if single then 18 else 19) (s t : ByteArray) (rs v : List Int) (w : World) (hT : Tabs w) (hs : s.size ≤ 1000) (hsc : ∀ r ∈ rs, Scalar r) (hal : all true rs = true) (he : B s = enc rs) (hv : scan q (rs.length + 2) (rs ++ [q, 10]) [] false = some v) (ht : B t = enc v) : Gd single q.toNat.toUInt8 ty s t w := by
  have hq2 : q = 34 ∨ q = 39 := by cases single <;> simp at hq <;> omega
  have hl : rs.length ≤ s.size := by
    have := (enc_length rs).1
    rw [← he, B_length] at this
    exact this
  have hlen : (q :: (rs ++ [q, 10])).length = rs.length + 3 := by simp
  obtain ⟨htx, hcr⟩ := tx_of q hq2 hsc hal
  have hTe := text_enc q (by omega) (by omega) s rs he
  have hTs : (⟨#[q.toNat.toUInt8]⟩ ++ s ++ ⟨#[q.toNat.toUInt8]⟩ ++ ⟨#[10]⟩ : ByteArray).size ≤ 65536 := by
    rw [LnDouble.size_two, LnDouble.size_two, LnDouble.size_two]
    have h1 : (⟨#[q.toNat.toUInt8]⟩ : ByteArray).size = 1 := rfl
    have h2 : (⟨#[10]⟩ : ByteArray).size = 1 := rfl
    omega
  refine ⟨rs.length, by omega, fun W hW => ?_, rs, runes_of s rs hsc he, rfl⟩
  refine (quoted_any single ty (q :: (rs ++ [q, 10])) v _ W (fun V hV => zz_any single (if single then 28 else 27) rfl ty (q :: (rs ++ [q, 10])) v _ V htx hTe hTs ?_)).mono ?_
  · intro U S C G cap0 hB hS hC hP hSC hCX hR hcap
    have hTV : Tabs V := tabs_below (tabs_below hT hW) hV
    have hX : Tx (q :: (rs ++ [q, 10])) cap0 := ⟨by omega, by omega, hcap, htx, by
      rw [hlen]
      show (q :: (rs ++ [q, 10])).getD (rs.length + 2) 0 = 10
      rw [List.getD_cons_succ]
      simp [List.getD], hcr⟩
    have hscan : ∃ n, ((q :: (rs ++ [q, 10])).drop 1).length ≤ n ∧ scan q n ((q :: (rs ++ [q, 10])).drop 1) [] false = some v := ⟨rs.length + 2, by simp, hv⟩
    cases single with
    | true =>
      simp only [if_true] at hq hty
      subst hq hty
      exact single_scan U S C G cap0 _ v hP hSC hCX hR (fun W' hF => tabs_below hTV (below_fr hB hS hC hF)) hX hscan
    | false =>
      simp only [Bool.false_eq_true, if_false] at hq hty
      subst hq hty
      exact double_scan U S C G cap0 _ v hP hSC hCX hR (fun W' hF => tabs_below hTV (below_fr hB hS hC hF)) hX hscan
  · rintro e w' ⟨o, a, b, c, d, f, rfl, hb⟩
    refine ⟨o, a, b, c, d, f, ?_, hb⟩
    rw [ba_B t ht, hlen]
    rfl
/-- FnPartLines. -/
theorem law_any (s : ByteArray) (single : Bool) (w : World) (hmax : s.size ≤ 140737488351232) (hT : Tabs w) : Calls Tryd.prog 3 #[.string s, .bool single] w (Bo true w) := by
  by_cases hbig : 1000 < s.size
  · exact law_long s single w hbig
  have hs : s.size ≤ 1000 := by omega
  obtain ⟨r1, h1, p1⟩ := has_one s (by omega) 85
  obtain ⟨r2, h2, p2⟩ := tidy_f s (by omega)
  obtain ⟨r3, h3⟩ := calm_f s (by omega)
  obtain ⟨r4, h4, p4⟩ := steady_f s (by omega)
  obtain ⟨r5, h5, p5⟩ := has_one s (by omega) 39
  have C1 : LnLaw.Ask 4 #[.string s, .string ⟨#[85]⟩] r1 := fun W => spec_Has.calls _ s (ba [85]) r1 W h1
  have C2 : LnLaw.Ask 5 #[.string s] r2 := fun W => spec_Tidy.calls _ s r2 W h2
  have C3 : LnLaw.Ask 6 #[.string s] r3 := fun W => spec_Calm.calls _ s r3 W h3
  have C4 : LnLaw.Ask 7 #[.string s] r4 := fun W => spec_Steady.calls _ s r4 W h4
  have C5 : LnLaw.Ask 4 #[.string s, .string ⟨#[39]⟩] r5 := fun W => spec_Has.calls _ s (ba [39]) r5 W h5
  by_cases hm : mayStand true s
  · obtain ⟨_, rs, hsc, he, hal⟩ := hm
    have D : r1 = false → r2 = true → r4 = true → ∀ W, Below w.heap.size w W → Calls Tryd.prog 8 #[.string s] W (RdP 34 rs W) := fun e1 e2 e4 W hW => double_any s rs W (tabs_below hT hW) (by omega) hsc hal he (neat_of he hal (p2 e2) (p4 e4)) (no_rune he 85 (by omega) (by omega) (p1 e1))
    cases single with
    | false =>
      refine law_double s w r1 r2 r3 r4 hs C1 C2 C3 C4 (fun e1 e2 e4 W hW => (D e1 e2 e4 W hW).mono ?_)
      rintro e w' ⟨hb, t, k, rfl, hk⟩
      refine ⟨hb, t, k, rfl, fun _ e => ?_⟩
      obtain ⟨v, hv, ht⟩ := hk e
      exact gd_of false 34 19 rfl rfl s t rs v w hT hs hsc hal he hv ht
    | true =>
      refine law_single s w r1 r2 r3 r4 r5 hs C1 C2 C3 C4 C5 (fun e1 e2 e4 W hW => (D e1 e2 e4 W hW).mono ?_) (fun e1 e2 e4 e5 W hW => (single_any s rs W (tabs_below hT hW) (by omega) hsc hal he (neat_of he hal (p2 e2) (p4 e4)) (no_rune he 39 (by omega) (by omega) (p5 e5))).mono ?_)
      · rintro e w' ⟨hb, t, k, rfl, hk⟩
        exact ⟨hb, t, k, rfl, fun h => by cases h⟩
      · rintro e w' ⟨hb, t, k, rfl, hk⟩
        refine ⟨hb, t, k, rfl, fun _ e => ?_⟩
        obtain ⟨v, hv, ht⟩ := hk e
        exact gd_of true 39 18 rfl rfl s t rs v w hT hs hsc hal he hv ht
  · cases single with
    | false =>
      refine law_double s w r1 r2 r3 r4 hs C1 C2 C3 C4 (fun e1 e2 e4 W hW => (double_bad s W (tabs_below hT hW) (by omega) hm).mono ?_)
      rintro e w' ⟨rfl, hb⟩
      exact ⟨hb, _, _, rfl, fun _ e => by cases e⟩
    | true =>
      refine law_single s w r1 r2 r3 r4 r5 hs C1 C2 C3 C4 C5 (fun e1 e2 e4 W hW => (double_bad s W (tabs_below hT hW) (by omega) hm).mono ?_) (fun e1 e2 e4 e5 W hW => (single_bad s W (tabs_below hT hW) (by omega) hm).mono ?_)
      · rintro e w' ⟨rfl, hb⟩
        exact ⟨hb, _, _, rfl, fun h => by cases h⟩
      · rintro e w' ⟨rfl, hb⟩
        exact ⟨hb, _, _, rfl, fun _ e => by cases e⟩
end Go.Proofs.YtgglhfbjbddjjaaDoor.LnPart
