/- Parts of the proof of FnNumberToken, one behind the other: FltAtof2, FltAtof3, FltDecNew, FltAtof4, FltParse, NumParse, NumStrip. Each part says ahead of itself what it proves. -/
import Derived.Test.YtlkbhmmelejmjaaGreatDoorPkFnNumberToken6
import Derived.Test.YtlkbhmmelejmjaaGreatDoorPkFnNumberToken1
import Derived.Lib.AtoiAllMem
import Derived.Lib.Hide
import Derived.Lib.SmallJoins
import Derived.Laws.Strings3
import Derived.Laws.Closers25
import Derived.Laws.Closers25b
import Derived.BigCall
import Derived.BigGuard

/- atof64, walked: hexadecimal numbers, the exact and the fast road. -/
namespace Go.Proofs.YtlkbhmmelejmjaaGreatDoor.FltAtof2
open Go.RowKit Go.Proofs.YtlkbhmmelejmjaaGreatDoorW.PrintWords Go.Proofs.YtlkbhmmelejmjaaGreatDoor.FltDec Go.Proofs.YtlkbhmmelejmjaaGreatDoor.FltState Go.Proofs.YtlkbhmmelejmjaaGreatDoor.FltBoth Go.Proofs.YtlkbhmmelejmjaaGreatDoor.FltBitsP Go.Proofs.YtlkbhmmelejmjaaGreatDoor.FltBits Go.Proofs.YtlkbhmmelejmjaaGreatDoor.FltTextP Go.Proofs.YtlkbhmmelejmjaaGreatDoor.FltReadA Go.Proofs.YtlkbhmmelejmjaaGreatDoor.FltRead Go.Proofs.YtlkbhmmelejmjaaGreatDoor.FltReadIn Go.Proofs.YtlkbhmmelejmjaaGreatDoor.FltFast Go.Proofs.YtlkbhmmelejmjaaGreatDoor.FltFast2 Go.Proofs.YtlkbhmmelejmjaaGreatDoor.FltNum Go.Proofs.YtlkbhmmelejmjaaGreatDoor.FltHexP Go.Proofs.YtlkbhmmelejmjaaGreatDoor.FltHex Go.Proofs.YtlkbhmmelejmjaaGreatDoor.FltSpecial Go.Proofs.YtlkbhmmelejmjaaGreatDoor.FltAtof
set_option linter.unusedVariables false
set_option linter.unusedSimpArgs false

theorem sgn_len (L : List UInt8) : (sgn L).2.length ≤ L.length := by
  cases L with
  | nil => exact Nat.le_refl _
  | cons c r =>
    rw [sgn_cons]
    split
    · simp
    · split
      · simp
      · exact Nat.le_refl _

set_option maxHeartbeats 16000000 in
set_option maxRecDepth 100000 in
theorem atof_hex (B : Nat) (H O X : Nat → Nat) (s : ByteArray) (hsz : s.size ≤ 2200000000) (hus : ∀ i (h : i < s.size), s[i].toNat ≠ 95) (w : World) (hB : B ≤ w.heap.size) (hT : Tabs B H O X w) (hq : spF s.data.toList = none) (r : RR) (hr : readF (sgn s.data.toList).2 = some r) (hx1 : r.hx = true) : Calls Tryz.prog 119 #[.string s] w (AtP H O X s w) := by
  have C := Aside0.mk (sp_none s hsz hq w)
  have CR := Aside0.mk (rd_some s hsz hus r hr)
  have HQ := Aside0.mk (And.intro hq hr)
  have hop := hT.op.2
  have hin := readF_in (L := (sgn s.data.toList).2) (by have h1 := (Lib.size_eq s); have h2 : (sgn s.data.toList).2.length ≤ s.data.toList.length := sgn_len _; omega) hr
  obtain ⟨hm0, hm1, he0, he1⟩ := hin
  obtain ⟨T, hTe⟩ : ∃ T, T = s.data.toList.take (s.size - r.rest.length) := ⟨_, rfl⟩
  obtain ⟨n0, hn0⟩ : ∃ n0, n0 = s.size - r.rest.length := ⟨_, rfl⟩
  have hn1 : n0 ≤ s.size := by omega
  obtain ⟨ng, hng⟩ : ∃ ng, ng = (sgn s.data.toList).1 := ⟨_, rfl⟩
  rw [← hn0, ← hng] at CR
  have HN := Aside0.mk (And.intro hTe (And.intro hn0 hng))
  have HT := Aside0.mk hT
  clear hus hq hr hTe hn0 hng hT
  rw [hx1] at CR
  have CH := Aside0.mk (fun t => hex_walk B t r.man r.exp ng r.tr hm0 hm1 (by omega) (by omega) w HT.out.fi HT.out.pq)
  have EQ := Aside0.mk (show numF H O X ng T r = ((signB ng (outB (hM r.man r.exp r.tr) (hX r.man r.exp r.tr))).toNat, if hO r.man r.exp r.tr then 1 else 0) by unfold numF; rw [if_pos hx1])
  go_enter Tryz.func119, Tryz.ntmps119
  go_wp2_with (first | (go_at_call 125; refine C.out.mono ?_; rintro e w1 ⟨rfl, v, n, rfl⟩) | (go_at_call 126; refine (CR.out _).mono ?_; rintro e w2 ⟨rfl, rfl⟩) | (go_at_call 134; refine (b2t _).mono ?_; rintro e w3 ⟨rfl, rfl⟩) | (go_at_call 127; refine (CH.out _).mono ?_; rintro e w4 ⟨rfl, n4, rfl⟩))
  go_ret3
  refine ⟨Below.drewN (Below.refl _ _) _, ?_⟩
  rw [HQ.out.1]
  show match readF (sgn s.data.toList).2 with | none => _ | some r => _
  rw [HQ.out.2]
  show Ending.returned _ = Ending.returned (.tuple #[.float .f64 (numF H O X (sgn s.data.toList).1 (s.data.toList.take (s.size - r.rest.length)) r).1, .int .i64 ((s.size - r.rest.length : Nat) : Int), erN (numF H O X (sgn s.data.toList).1 (s.data.toList.take (s.size - r.rest.length)) r).2])
  rw [← HN.out.1, ← HN.out.2.1, ← HN.out.2.2, EQ.out]
  rw [← erV_N]
  rfl

set_option maxHeartbeats 16000000 in
set_option maxRecDepth 100000 in
theorem atof_fast (B : Nat) (H O X : Nat → Nat) (s : ByteArray) (hsz : s.size ≤ 2200000000) (hus : ∀ i (h : i < s.size), s[i].toNat ≠ 95) (w : World) (hB : B ≤ w.heap.size) (hT : Tabs B H O X w) (hq : spF s.data.toList = none) (r : RR) (hr : readF (sgn s.data.toList).2 = some r) (hx1 : r.hx = false) (hm : ¬ r.man = 0) (he2 : -345 ≤ r.exp) (he3 : r.exp ≤ 310) (htr : r.tr = false) : Calls Tryz.prog 119 #[.string s] w (AtP H O X s w) := by
  have C := Aside0.mk (sp_none s hsz hq w)
  have CR := Aside0.mk (rd_some s hsz hus r hr)
  have HQ := Aside0.mk (And.intro hq hr)
  have hop := hT.op.2
  have hin := readF_in (L := (sgn s.data.toList).2) (by have h1 := (Lib.size_eq s); have h2 : (sgn s.data.toList).2.length ≤ s.data.toList.length := sgn_len _; omega) hr
  obtain ⟨hm0, hm1, he0, he1⟩ := hin
  obtain ⟨T, hTe⟩ : ∃ T, T = s.data.toList.take (s.size - r.rest.length) := ⟨_, rfl⟩
  obtain ⟨n0, hn0⟩ : ∃ n0, n0 = s.size - r.rest.length := ⟨_, rfl⟩
  have hn1 : n0 ≤ s.size := by omega
  obtain ⟨ng, hng⟩ : ∃ ng, ng = (sgn s.data.toList).1 := ⟨_, rfl⟩
  rw [← hn0, ← hng] at CR
  have HN := Aside0.mk (And.intro hTe (And.intro hn0 hng))
  have HT := Aside0.mk hT
  clear hus hq hr hTe hn0 hng hT
  rw [hx1, htr] at CR
  have qm : (r.man == 0) = false := beq_eq_false_iff_ne.mpr hm
  cases ng with
  | true =>
    have CX := Aside0.mk (FltExact.exact_walk B X r.man r.exp true hm0 hm1 (by omega) (by omega) w HT.out.fi HT.out.xt HT.out.pos)
    have CF := Aside0.mk (parse_walk B (fun k => H k) (fun k => O k) r.man r.exp 9223372036854775808 hm0 hm1 he2 he3 w hB HT.out.tt)
    cases hxr : exR X r.man r.exp with
    | some a =>
      have EQ := Aside0.mk (show numF H O X true T r = (D.word true a, 0) by unfold numF; rw [if_neg (by rw [hx1]; decide), if_neg hm, if_neg (by omega), if_neg (by omega), if_pos htr, hxr])
      rw [hxr] at CX
      go_enter Tryz.func119, Tryz.ntmps119
      go_wp2_with (first | (go_at_call 125; refine C.out.mono ?_; rintro e w1 ⟨rfl, v, n, rfl⟩) | (go_at_call 126; refine (CR.out _).mono ?_; rintro e w2 ⟨rfl, rfl⟩) | (go_at_call 134; refine (b2t _).mono ?_; rintro e w3 ⟨rfl, rfl⟩) | (go_at_call 136; refine CX.out.mono ?_; rintro e w4 ⟨rfl, rfl⟩))
      go_ret3
      refine ⟨Below.refl _ _, ?_⟩
      rw [HQ.out.1]
      show match readF (sgn s.data.toList).2 with | none => _ | some r => _
      rw [HQ.out.2]
      show Ending.returned _ = Ending.returned (.tuple #[.float .f64 (numF H O X (sgn s.data.toList).1 (s.data.toList.take (s.size - r.rest.length)) r).1, .int .i64 ((s.size - r.rest.length : Nat) : Int), erN (numF H O X (sgn s.data.toList).1 (s.data.toList.take (s.size - r.rest.length)) r).2])
      rw [← HN.out.1, ← HN.out.2.1, ← HN.out.2.2, EQ.out]
      rfl
    | none =>
      have EQ := Aside0.mk (show numF H O X true T r = (pfV (fun k => H k) (fun k => O k) r.man r.exp 9223372036854775808, if pfO (fun k => H k) (fun k => O k) r.man r.exp 9223372036854775808 then 1 else 0) by unfold numF; rw [if_neg (by rw [hx1]; decide), if_neg hm, if_neg (by omega), if_neg (by omega), if_pos htr, hxr]; rfl)
      rw [hxr] at CX
      go_enter Tryz.func119, Tryz.ntmps119
      go_wp2_with (first | (go_at_call 125; refine C.out.mono ?_; rintro e w1 ⟨rfl, v, n, rfl⟩) | (go_at_call 126; refine (CR.out _).mono ?_; rintro e w2 ⟨rfl, rfl⟩) | (go_at_call 134; refine (b2t _).mono ?_; rintro e w3 ⟨rfl, rfl⟩) | (go_at_call 136; refine CX.out.mono ?_; rintro e w4 ⟨rfl, v4, rfl⟩) | (go_at_call 137; refine CF.out.mono ?_; rintro e w5 ⟨rfl, hb5⟩))
      go_ret3
      refine ⟨hb5, ?_⟩
      rw [HQ.out.1]
      show match readF (sgn s.data.toList).2 with | none => _ | some r => _
      rw [HQ.out.2]
      show Ending.returned _ = Ending.returned (.tuple #[.float .f64 (numF H O X (sgn s.data.toList).1 (s.data.toList.take (s.size - r.rest.length)) r).1, .int .i64 ((s.size - r.rest.length : Nat) : Int), erN (numF H O X (sgn s.data.toList).1 (s.data.toList.take (s.size - r.rest.length)) r).2])
      rw [← HN.out.1, ← HN.out.2.1, ← HN.out.2.2, EQ.out]
      rw [← erV_N]
      rfl
  | false =>
    have CX := Aside0.mk (FltExact.exact_walk B X r.man r.exp false hm0 hm1 (by omega) (by omega) w HT.out.fi HT.out.xt HT.out.pos)
    have CF := Aside0.mk (parse_walk B (fun k => H k) (fun k => O k) r.man r.exp 0 hm0 hm1 he2 he3 w hB HT.out.tt)
    cases hxr : exR X r.man r.exp with
    | some a =>
      have EQ := Aside0.mk (show numF H O X false T r = (D.word false a, 0) by unfold numF; rw [if_neg (by rw [hx1]; decide), if_neg hm, if_neg (by omega), if_neg (by omega), if_pos htr, hxr])
      rw [hxr] at CX
      go_enter Tryz.func119, Tryz.ntmps119
      go_wp2_with (first | (go_at_call 125; refine C.out.mono ?_; rintro e w1 ⟨rfl, v, n, rfl⟩) | (go_at_call 126; refine (CR.out _).mono ?_; rintro e w2 ⟨rfl, rfl⟩) | (go_at_call 134; refine (b2f _).mono ?_; rintro e w3 ⟨rfl, rfl⟩) | (go_at_call 136; refine CX.out.mono ?_; rintro e w4 ⟨rfl, rfl⟩))
      go_ret3
      refine ⟨Below.refl _ _, ?_⟩
      rw [HQ.out.1]
      show match readF (sgn s.data.toList).2 with | none => _ | some r => _
      rw [HQ.out.2]
      show Ending.returned _ = Ending.returned (.tuple #[.float .f64 (numF H O X (sgn s.data.toList).1 (s.data.toList.take (s.size - r.rest.length)) r).1, .int .i64 ((s.size - r.rest.length : Nat) : Int), erN (numF H O X (sgn s.data.toList).1 (s.data.toList.take (s.size - r.rest.length)) r).2])
      rw [← HN.out.1, ← HN.out.2.1, ← HN.out.2.2, EQ.out]
      rfl
    | none =>
      have EQ := Aside0.mk (show numF H O X false T r = (pfV (fun k => H k) (fun k => O k) r.man r.exp 0, if pfO (fun k => H k) (fun k => O k) r.man r.exp 0 then 1 else 0) by unfold numF; rw [if_neg (by rw [hx1]; decide), if_neg hm, if_neg (by omega), if_neg (by omega), if_pos htr, hxr]; rfl)
      rw [hxr] at CX
      go_enter Tryz.func119, Tryz.ntmps119
      go_wp2_with (first | (go_at_call 125; refine C.out.mono ?_; rintro e w1 ⟨rfl, v, n, rfl⟩) | (go_at_call 126; refine (CR.out _).mono ?_; rintro e w2 ⟨rfl, rfl⟩) | (go_at_call 134; refine (b2f _).mono ?_; rintro e w3 ⟨rfl, rfl⟩) | (go_at_call 136; refine CX.out.mono ?_; rintro e w4 ⟨rfl, v4, rfl⟩) | (go_at_call 137; refine CF.out.mono ?_; rintro e w5 ⟨rfl, hb5⟩))
      go_ret3
      refine ⟨hb5, ?_⟩
      rw [HQ.out.1]
      show match readF (sgn s.data.toList).2 with | none => _ | some r => _
      rw [HQ.out.2]
      show Ending.returned _ = Ending.returned (.tuple #[.float .f64 (numF H O X (sgn s.data.toList).1 (s.data.toList.take (s.size - r.rest.length)) r).1, .int .i64 ((s.size - r.rest.length : Nat) : Int), erN (numF H O X (sgn s.data.toList).1 (s.data.toList.take (s.size - r.rest.length)) r).2])
      rw [← HN.out.1, ← HN.out.2.1, ← HN.out.2.2, EQ.out]
      rw [← erV_N]
      rfl
end Go.Proofs.YtlkbhmmelejmjaaGreatDoor.FltAtof2

/- atof64, walked: the fast road twice, the slow road. -/
namespace Go.Proofs.YtlkbhmmelejmjaaGreatDoor.FltAtof3
open Go.RowKit Go.Proofs.YtlkbhmmelejmjaaGreatDoorW.PrintWords Go.Proofs.YtlkbhmmelejmjaaGreatDoor.FltDec Go.Proofs.YtlkbhmmelejmjaaGreatDoor.FltState Go.Proofs.YtlkbhmmelejmjaaGreatDoor.FltBoth Go.Proofs.YtlkbhmmelejmjaaGreatDoor.FltBitsP Go.Proofs.YtlkbhmmelejmjaaGreatDoor.FltBits Go.Proofs.YtlkbhmmelejmjaaGreatDoor.FltTextP Go.Proofs.YtlkbhmmelejmjaaGreatDoor.FltReadA Go.Proofs.YtlkbhmmelejmjaaGreatDoor.FltRead Go.Proofs.YtlkbhmmelejmjaaGreatDoor.FltReadIn Go.Proofs.YtlkbhmmelejmjaaGreatDoor.FltFast Go.Proofs.YtlkbhmmelejmjaaGreatDoor.FltFast2 Go.Proofs.YtlkbhmmelejmjaaGreatDoor.FltNum Go.Proofs.YtlkbhmmelejmjaaGreatDoor.FltHexP Go.Proofs.YtlkbhmmelejmjaaGreatDoor.FltHex Go.Proofs.YtlkbhmmelejmjaaGreatDoor.FltSpecial Go.Proofs.YtlkbhmmelejmjaaGreatDoor.FltAtof Go.Proofs.YtlkbhmmelejmjaaGreatDoor.FltAtof2
set_option linter.unusedVariables false
set_option linter.unusedSimpArgs false

set_option maxHeartbeats 16000000 in
set_option maxRecDepth 100000 in
theorem atof_same (B : Nat) (H O X : Nat → Nat) (s : ByteArray) (hsz : s.size ≤ 2200000000) (hus : ∀ i (h : i < s.size), s[i].toNat ≠ 95) (w : World) (hB : B ≤ w.heap.size) (hT : Tabs B H O X w) (hq : spF s.data.toList = none) (r : RR) (hr : readF (sgn s.data.toList).2 = some r) (hx1 : r.hx = false) (hm : ¬ r.man = 0) (he2 : -345 ≤ r.exp) (he3 : r.exp ≤ 310) (htr : r.tr = true) (heq : ((FloatKind.format .f64).order (pfV (fun k => H k) (fun k => O k) r.man r.exp (sgB (sgn s.data.toList).1)) (pfV (fun k => H k) (fun k => O k) (IntKind.u64.wrap (r.man + 1)) r.exp (sgB (sgn s.data.toList).1)) == some .eq) = true) : Calls Tryz.prog 119 #[.string s] w (AtP H O X s w) := by
  have C := Aside0.mk (sp_none s hsz hq w)
  have CR := Aside0.mk (rd_some s hsz hus r hr)
  have HQ := Aside0.mk (And.intro hq hr)
  have hop := hT.op.2
  have hin := readF_in (L := (sgn s.data.toList).2) (by have h1 := (Lib.size_eq s); have h2 : (sgn s.data.toList).2.length ≤ s.data.toList.length := sgn_len _; omega) hr
  obtain ⟨hm0, hm1, he0, he1⟩ := hin
  obtain ⟨T, hTe⟩ : ∃ T, T = s.data.toList.take (s.size - r.rest.length) := ⟨_, rfl⟩
  obtain ⟨n0, hn0⟩ : ∃ n0, n0 = s.size - r.rest.length := ⟨_, rfl⟩
  have hn1 : n0 ≤ s.size := by omega
  obtain ⟨ng, hng⟩ : ∃ ng, ng = (sgn s.data.toList).1 := ⟨_, rfl⟩
  rw [← hn0, ← hng] at CR
  rw [← hng] at heq
  have HN := Aside0.mk (And.intro hTe (And.intro hn0 hng))
  have HT := Aside0.mk hT
  clear hus hq hr hTe hn0 hng hT
  rw [hx1, htr] at CR
  have qm : (r.man == 0) = false := beq_eq_false_iff_ne.mpr hm
  obtain ⟨F, hFe⟩ : ∃ F, F = pfV (fun k => H k) (fun k => O k) r.man r.exp (sgB ng) := ⟨_, rfl⟩
  obtain ⟨F1, hF1e⟩ : ∃ F1, F1 = pfV (fun k => H k) (fun k => O k) (IntKind.u64.wrap (r.man + 1)) r.exp (sgB ng) := ⟨_, rfl⟩
  have CF := parse_walk B (fun k => H k) (fun k => O k) r.man r.exp (sgB ng) hm0 hm1 he2 he3 w hB HT.out.tt
  have CG := fun W (hW : Below w.heap.size w W) => parse_walk B (fun k => H k) (fun k => O k) (IntKind.u64.wrap (r.man + 1)) r.exp (sgB ng) (wrap_in _).1 (wrap_in _).2 he2 he3 W (Nat.le_trans hB hW.size) (HT.out.tt.keep hW hB)
  rw [← hFe] at CF
  rw [← hF1e] at CG
  replace CF := Aside0.mk CF
  replace CG := Aside0.mk CG
  have HF := Aside0.mk (And.intro hFe hF1e)
  clear hFe hF1e
  rw [← HF.out.1, ← HF.out.2] at heq
  cases ng with
  | true =>
    have EQ := Aside0.mk (show numF H O X true T r = (F, if pfO (fun k => H k) (fun k => O k) r.man r.exp (sgB true) then 1 else 0) by unfold numF; rw [if_neg (by rw [hx1]; decide), if_neg hm, if_neg (by omega), if_neg (by omega), if_neg (by rw [htr]; decide), ← HF.out.1, ← HF.out.2, if_pos heq])
    go_enter Tryz.func119, Tryz.ntmps119
    go_upto_region 25 with (first | (go_at_call 125; refine C.out.mono ?_; rintro e w1 ⟨rfl, v, n, rfl⟩) | (go_at_call 126; refine (CR.out _).mono ?_; rintro e w2 ⟨rfl, rfl⟩) | (go_at_call 134; refine (b2t _).mono ?_; rintro e w3 ⟨rfl, rfl⟩) | (go_at_call 137; refine CF.out.mono ?_; rintro e w5 ⟨rfl, hb5⟩))
    go_wp2_with (first | (go_at_call 137; refine (CG.out _ hb5).mono ?_; rintro e w6 ⟨rfl, hb6⟩))
    go_ret3
    refine ⟨hb5.trans (Below.mono hb6 hb5.size), ?_⟩
    rw [HQ.out.1]
    show match readF (sgn s.data.toList).2 with | none => _ | some r => _
    rw [HQ.out.2]
    show Ending.returned _ = Ending.returned (.tuple #[.float .f64 (numF H O X (sgn s.data.toList).1 (s.data.toList.take (s.size - r.rest.length)) r).1, .int .i64 ((s.size - r.rest.length : Nat) : Int), erN (numF H O X (sgn s.data.toList).1 (s.data.toList.take (s.size - r.rest.length)) r).2])
    rw [← HN.out.1, ← HN.out.2.1, ← HN.out.2.2, EQ.out]
    rw [← erV_N]
    rfl
  | false =>
    have EQ := Aside0.mk (show numF H O X false T r = (F, if pfO (fun k => H k) (fun k => O k) r.man r.exp (sgB false) then 1 else 0) by unfold numF; rw [if_neg (by rw [hx1]; decide), if_neg hm, if_neg (by omega), if_neg (by omega), if_neg (by rw [htr]; decide), ← HF.out.1, ← HF.out.2, if_pos heq])
    go_enter Tryz.func119, Tryz.ntmps119
    go_upto_region 25 with (first | (go_at_call 125; refine C.out.mono ?_; rintro e w1 ⟨rfl, v, n, rfl⟩) | (go_at_call 126; refine (CR.out _).mono ?_; rintro e w2 ⟨rfl, rfl⟩) | (go_at_call 134; refine (b2f _).mono ?_; rintro e w3 ⟨rfl, rfl⟩) | (go_at_call 137; refine CF.out.mono ?_; rintro e w5 ⟨rfl, hb5⟩))
    go_wp2_with (first | (go_at_call 137; refine (CG.out _ hb5).mono ?_; rintro e w6 ⟨rfl, hb6⟩))
    go_ret3
    refine ⟨hb5.trans (Below.mono hb6 hb5.size), ?_⟩
    rw [HQ.out.1]
    show match readF (sgn s.data.toList).2 with | none => _ | some r => _
    rw [HQ.out.2]
    show Ending.returned _ = Ending.returned (.tuple #[.float .f64 (numF H O X (sgn s.data.toList).1 (s.data.toList.take (s.size - r.rest.length)) r).1, .int .i64 ((s.size - r.rest.length : Nat) : Int), erN (numF H O X (sgn s.data.toList).1 (s.data.toList.take (s.size - r.rest.length)) r).2])
    rw [← HN.out.1, ← HN.out.2.1, ← HN.out.2.2, EQ.out]
    rw [← erV_N]
    rfl
end Go.Proofs.YtlkbhmmelejmjaaGreatDoor.FltAtof3

/- A new decimal is nought. -/
namespace Go.Proofs.YtlkbhmmelejmjaaGreatDoor.FltDecNew
open Go.RowKit Go.Proofs.YtlkbhmmelejmjaaGreatDoor.FltDec
set_option linter.unusedVariables false
set_option linter.unusedSimpArgs false
theorem zc : Tryz.zeroCells149 = (List.replicate 800 (Value.int .u8 0) ++ [Value.int .i64 0, Value.int .i64 0, Value.bool false, Value.bool false]).toArray := by kernel_rfl
set_option maxRecDepth 100000 in
theorem zc_dig (i : Nat) (h : i < 800) : Tryz.zeroCells149[i]? = some (.int .u8 0) := by
  rw [zc, List.getElem?_toArray, List.getElem?_append_left (by rw [List.length_replicate]; exact h), List.getElem?_replicate, if_pos h]
set_option maxRecDepth 100000 in
theorem dec_new (W : World) (p : Nat) (hp : W.heap.size = p) : Dec (W.alloc (.cells Tryz.zeroCells149 149)) p (fun _ => 0) 0 0 false false := by
  subst hp
  have c : ∀ o, (W.alloc (.cells Tryz.zeroCells149 149)).cell? ⟨W.heap.size, o, none⟩ = Tryz.zeroCells149[o]? := fun o => by simp
  refine ⟨?_, ?_, ?_, ?_, fun i hi => ?_, fun o => ?_⟩
  · rw [c]; kernel_rfl
  · rw [c]; kernel_rfl
  · rw [c]; kernel_rfl
  · rw [c]; kernel_rfl
  · rw [c]; exact zc_dig i hi
  · rw [frozen?_alloc_cells]
    unfold World.frozen?
    simp
end Go.Proofs.YtlkbhmmelejmjaaGreatDoor.FltDecNew

/- atof64, walked: the fast road twice, the slow road. -/
namespace Go.Proofs.YtlkbhmmelejmjaaGreatDoor.FltAtof4
open Go.RowKit Go.Proofs.YtlkbhmmelejmjaaGreatDoorW.PrintWords Go.Proofs.YtlkbhmmelejmjaaGreatDoor.FltDec Go.Proofs.YtlkbhmmelejmjaaGreatDoor.FltState Go.Proofs.YtlkbhmmelejmjaaGreatDoor.FltBoth Go.Proofs.YtlkbhmmelejmjaaGreatDoor.FltBitsP Go.Proofs.YtlkbhmmelejmjaaGreatDoor.FltBits Go.Proofs.YtlkbhmmelejmjaaGreatDoor.FltTextP Go.Proofs.YtlkbhmmelejmjaaGreatDoor.FltReadA Go.Proofs.YtlkbhmmelejmjaaGreatDoor.FltRead Go.Proofs.YtlkbhmmelejmjaaGreatDoor.FltReadIn Go.Proofs.YtlkbhmmelejmjaaGreatDoor.FltFast Go.Proofs.YtlkbhmmelejmjaaGreatDoor.FltFast2 Go.Proofs.YtlkbhmmelejmjaaGreatDoor.FltNum Go.Proofs.YtlkbhmmelejmjaaGreatDoor.FltHexP Go.Proofs.YtlkbhmmelejmjaaGreatDoor.FltHex Go.Proofs.YtlkbhmmelejmjaaGreatDoor.FltSpecial Go.Proofs.YtlkbhmmelejmjaaGreatDoor.FltAtof Go.Proofs.YtlkbhmmelejmjaaGreatDoor.FltAtof2 Go.Proofs.YtlkbhmmelejmjaaGreatDoor.FltAtof3 Go.Proofs.YtlkbhmmelejmjaaGreatDoor.FltSetB Go.Proofs.YtlkbhmmelejmjaaGreatDoor.FltSet Go.Proofs.YtlkbhmmelejmjaaGreatDoor.FltDecNew
set_option linter.unusedVariables false
set_option linter.unusedSimpArgs false

set_option maxRecDepth 100000 in
theorem set_any (p : Nat) (s : ByteArray) (hsz : s.size ≤ 2200000000) (hus : ∀ i (h : i < s.size), s[i].toNat ≠ 95) (g0 : Nat → Int) (w : World) (hD : Dec w p g0 0 0 false false) : Calls Tryz.prog 132 #[.pointer (some ⟨p, 0, none⟩), .string s] w (SetP p (sgn s.data.toList).2 (sgn s.data.toList).1 w) := by
  by_cases h0 : s.size = 0
  · have hL : s.data.toList.length = s.size := (Lib.size_eq s).symm
    have hemp : s = ByteArray.empty := by
      have : s.data.toList = [] := List.eq_nil_of_length_eq_zero (by omega)
      cases s with | mk d => cases d with | mk l => simp at this; subst this; rfl
    have hN : setF (sgn s.data.toList).2 = none := by rw [hemp]; rfl
    replace hN := Aside0.mk hN
    have hng := hD.ng
    have htr := hD.tr
    have hfz := hD.fz
    go_enter Tryz.func132, Tryz.ntmps132
    go_wp2_with fail
    go_ret
    exact ⟨by rw [hN.out]; rfl, ((Below.refl p w).setCell (p := ⟨p, 802, none⟩) (Nat.le_refl p) _).setCell (p := ⟨p, 803, none⟩) (Nat.le_refl p) _, fun t h => by rw [hN.out] at h; cases h⟩
  · exact set_walk p s (by omega) hsz hus g0 w hD

set_option maxHeartbeats 16000000 in
set_option maxRecDepth 100000 in
theorem atof_slow (B : Nat) (H O X : Nat → Nat) (s : ByteArray) (hsz : s.size ≤ 2200000000) (hus : ∀ i (h : i < s.size), s[i].toNat ≠ 95) (w : World) (hB : B ≤ w.heap.size) (hT : Tabs B H O X w) (hq : spF s.data.toList = none) (r : RR) (hr : readF (sgn s.data.toList).2 = some r) (hx1 : r.hx = false) (hm : ¬ r.man = 0) (he2 : -345 ≤ r.exp) (he3 : r.exp ≤ 310) (htr : r.tr = true) (heq : ((FloatKind.format .f64).order (pfV (fun k => H k) (fun k => O k) r.man r.exp (sgB (sgn s.data.toList).1)) (pfV (fun k => H k) (fun k => O k) (IntKind.u64.wrap (r.man + 1)) r.exp (sgB (sgn s.data.toList).1)) == some .eq) = false) : Calls Tryz.prog 119 #[.string s] w (AtP H O X s w) := by
  have hT9 : (s.extract 0 (s.size - r.rest.length)).data.toList = s.data.toList.take (s.size - r.rest.length) := by
    rw [ByteArray.data_extract, Array.toList_extract]
    show (s.data.toList.drop 0).take (s.size - r.rest.length - 0) = _
    rw [List.drop_zero, Nat.sub_zero]
  have hx9 : (s.extract 0 (s.size - r.rest.length)).size ≤ 2200000000 := by
    rw [Lib.size_eq, hT9]
    have := List.length_take_le (s.size - r.rest.length) s.data.toList
    omega
  have hu9 : ∀ i (h : i < (s.extract 0 (s.size - r.rest.length)).size), (s.extract 0 (s.size - r.rest.length))[i].toNat ≠ 95 := fun i h => by
    have hs := Lib.size_eq s
    have h2 : i < s.size := by
      rw [Lib.size_eq, hT9, List.length_take] at h
      omega
    have e : (s.extract 0 (s.size - r.rest.length))[i] = s[i] := by
      have h3 : (s.extract 0 (s.size - r.rest.length)).data.toList[i]'(by rw [← Lib.size_eq]; exact h) = s.data.toList[i]'(by omega) := by
        simp only [hT9]
        exact List.getElem_take
      exact h3
    rw [e]
    exact hus i h2
  have C := Aside0.mk (sp_none s hsz hq w)
  have CR := Aside0.mk (rd_some s hsz hus r hr)
  have HQ := Aside0.mk (And.intro hq hr)
  have hop := hT.op.2
  have hin := readF_in (L := (sgn s.data.toList).2) (by have h1 := (Lib.size_eq s); have h2 : (sgn s.data.toList).2.length ≤ s.data.toList.length := sgn_len _; omega) hr
  obtain ⟨hm0, hm1, he0, he1⟩ := hin
  obtain ⟨T, hTe⟩ : ∃ T, T = s.data.toList.take (s.size - r.rest.length) := ⟨_, rfl⟩
  obtain ⟨n0, hn0⟩ : ∃ n0, n0 = s.size - r.rest.length := ⟨_, rfl⟩
  have hn1 : n0 ≤ s.size := by omega
  obtain ⟨ng, hng⟩ : ∃ ng, ng = (sgn s.data.toList).1 := ⟨_, rfl⟩
  rw [← hn0, ← hng] at CR
  rw [← hng] at heq
  rw [← hn0] at hT9 hx9 hu9
  rw [← hn0] at hTe
  rw [← hTe] at hT9
  rw [hn0] at hTe
  have HN := Aside0.mk (And.intro hTe (And.intro hn0 hng))
  have HT := Aside0.mk hT
  clear hus hq hr hTe hn0 hng hT
  rw [hx1, htr] at CR
  have qm : (r.man == 0) = false := beq_eq_false_iff_ne.mpr hm
  obtain ⟨F, hFe⟩ : ∃ F, F = pfV (fun k => H k) (fun k => O k) r.man r.exp (sgB ng) := ⟨_, rfl⟩
  obtain ⟨F1, hF1e⟩ : ∃ F1, F1 = pfV (fun k => H k) (fun k => O k) (IntKind.u64.wrap (r.man + 1)) r.exp (sgB ng) := ⟨_, rfl⟩
  have CF := parse_walk B (fun k => H k) (fun k => O k) r.man r.exp (sgB ng) hm0 hm1 he2 he3 w hB HT.out.tt
  have CG := fun W (hW : Below w.heap.size w W) => parse_walk B (fun k => H k) (fun k => O k) (IntKind.u64.wrap (r.man + 1)) r.exp (sgB ng) (wrap_in _).1 (wrap_in _).2 he2 he3 W (Nat.le_trans hB hW.size) (HT.out.tt.keep hW hB)
  rw [← hFe] at CF
  rw [← hF1e] at CG
  replace CF := Aside0.mk CF
  replace CG := Aside0.mk CG
  have HF := Aside0.mk (And.intro hFe hF1e)
  clear hFe hF1e
  rw [← HF.out.1, ← HF.out.2] at heq
  cases ng with
  | true =>
    go_enter Tryz.func119, Tryz.ntmps119
    go_upto_region 25 with (first | (go_at_call 125; refine C.out.mono ?_; rintro e w1 ⟨rfl, v, n, rfl⟩) | (go_at_call 126; refine (CR.out _).mono ?_; rintro e w2 ⟨rfl, rfl⟩) | (go_at_call 134; refine (b2t _).mono ?_; rintro e w3 ⟨rfl, rfl⟩) | (go_at_call 137; refine CF.out.mono ?_; rintro e w5 ⟨rfl, hb5⟩))
    go_upto_region 28 with (first | (go_at_call 137; refine (CG.out _ hb5).mono ?_; rintro e w6 ⟨rfl, hb6⟩))
    have hb6' := hb5.trans (Below.mono hb6 hb5.size)
    have hb7 := hb6'.alloc hb6'.size (.cells Tryz.zeroCells149 149)
    have HB6 := Aside0.mk hb7
    have hpp : B ≤ w6.heap.size := Nat.le_trans hB hb6'.size
    have CS := Aside0.mk (set_any w6.heap.size (s.extract 0 n0) hx9 hu9 _ _ (dec_new w6 w6.heap.size rfl))
    have hsz6 := hb6'.size
    rw [hT9] at CS
    clear hb5 hb6 hb6' hb7
    have hfb := fb_run
    go_wp2_with fail
    refine CS.out.mono ?_
    rintro e w7 ⟨rfl, hb7, hat⟩
    have HB7 := Aside0.mk (HB6.out.trans (Below.mono hb7 hsz6))
    have HAT := Aside0.mk hat
    clear hb7 hat CS
    cases hsf : setF (sgn T).2 with
    | none =>
      have hso : (none : Option St).isSome = false := rfl
      have EQ := Aside0.mk (show numF H O X true T r = (0, 2) by unfold numF slowF; rw [if_neg (by rw [hx1]; decide), if_neg hm, if_neg (by omega), if_neg (by omega), if_neg (by rw [htr]; decide), ← HF.out.1, ← HF.out.2, if_neg (by rw [heq]; decide), hsf])
      have HB8 := HB7
      clear hsf
      go_wp2_with fail
      go_ret3
      refine ⟨HB8.out, ?_⟩
      rw [HQ.out.1]
      show match readF (sgn s.data.toList).2 with | none => _ | some r => _
      rw [HQ.out.2]
      show Ending.returned _ = Ending.returned (.tuple #[.float .f64 (numF H O X (sgn s.data.toList).1 (s.data.toList.take (s.size - r.rest.length)) r).1, .int .i64 ((s.size - r.rest.length : Nat) : Int), erN (numF H O X (sgn s.data.toList).1 (s.data.toList.take (s.size - r.rest.length)) r).2])
      rw [← HN.out.1, ← HN.out.2.1, ← HN.out.2.2, EQ.out]
      rfl
    | some t =>
      have hso : (some t).isSome = true := rfl
      have hat := HAT.out t hsf
      have hT7 := HT.out.keep HB7.out hB
      have hng9 : (sgn T).1 = (sgn T).1 := rfl
      by_cases htn : t.n = 0
      · have EQ := Aside0.mk (show numF H O X true T r = ((signB (sgn T).1 (outB 0 (-1023))).toNat, 0) by unfold numF slowF; rw [if_neg (by rw [hx1]; decide), if_neg hm, if_neg (by omega), if_neg (by omega), if_neg (by rw [htr]; decide), ← HF.out.1, ← HF.out.2, if_neg (by rw [heq]; decide), hsf]; exact if_pos htn)
        have CB := Aside0.mk (zero_walk w6.heap.size 6 B (sgn T).1 t htn hpp w7 hat hT7.fi)
        clear hsf hat hT7 htn
        go_wp2_with (first | (go_at_call 133; refine CB.out.mono ?_; rintro e w8 ⟨rfl, hb8⟩))
        have HB8 := Aside0.mk (HB7.out.trans (Below.mono hb8 hsz6))
        go_ret3
        refine ⟨HB8.out, ?_⟩
        rw [HQ.out.1]
        show match readF (sgn s.data.toList).2 with | none => _ | some r => _
        rw [HQ.out.2]
        show Ending.returned _ = Ending.returned (.tuple #[.float .f64 (numF H O X (sgn s.data.toList).1 (s.data.toList.take (s.size - r.rest.length)) r).1, .int .i64 ((s.size - r.rest.length : Nat) : Int), erN (numF H O X (sgn s.data.toList).1 (s.data.toList.take (s.size - r.rest.length)) r).2])
        rw [← HN.out.1, ← HN.out.2.1, ← HN.out.2.2, EQ.out]
        rfl
      · have hgood : t.Good := (setF_ok hsf).resolve_left htn
        have EQ := Aside0.mk (show numF H O X true T r = ((signB (sgn T).1 (outB (fM t) (fX t))).toNat, if over t then 1 else 0) by unfold numF slowF; rw [if_neg (by rw [hx1]; decide), if_neg hm, if_neg (by omega), if_neg (by omega), if_neg (by rw [htr]; decide), ← HF.out.1, ← HF.out.2, if_neg (by rw [heq]; decide), hsf]; exact if_neg htn)
        have CB := Aside0.mk (bits_walk w6.heap.size 6 B (sgn T).1 t hgood hpp w7 hat hT7.fi hT7.pt hT7.lt)
        obtain ⟨bv, hbv⟩ : ∃ bv, bv = signB (sgn T).1 (outB (fM t) (fX t)) := ⟨_, rfl⟩
        unfold BitsP at CB
        rw [← hbv] at CB EQ
        clear hsf hat hT7 htn hbv
        cases hov : over t with
        | true =>
          rw [hov] at CB EQ
          go_wp2_with (first | (go_at_call 133; refine CB.out.mono ?_; rintro e w8 ⟨rfl, hb8⟩))
          have HB8 := Aside0.mk (HB7.out.trans (Below.mono hb8 hsz6))
          go_ret3
          refine ⟨HB8.out, ?_⟩
          rw [HQ.out.1]
          show match readF (sgn s.data.toList).2 with | none => _ | some r => _
          rw [HQ.out.2]
          show Ending.returned _ = Ending.returned (.tuple #[.float .f64 (numF H O X (sgn s.data.toList).1 (s.data.toList.take (s.size - r.rest.length)) r).1, .int .i64 ((s.size - r.rest.length : Nat) : Int), erN (numF H O X (sgn s.data.toList).1 (s.data.toList.take (s.size - r.rest.length)) r).2])
          rw [← HN.out.1, ← HN.out.2.1, ← HN.out.2.2, EQ.out]
          rfl
        | false =>
          rw [hov] at CB EQ
          go_wp2_with (first | (go_at_call 133; refine CB.out.mono ?_; rintro e w8 ⟨rfl, hb8⟩))
          have HB8 := Aside0.mk (HB7.out.trans (Below.mono hb8 hsz6))
          go_ret3
          refine ⟨HB8.out, ?_⟩
          rw [HQ.out.1]
          show match readF (sgn s.data.toList).2 with | none => _ | some r => _
          rw [HQ.out.2]
          show Ending.returned _ = Ending.returned (.tuple #[.float .f64 (numF H O X (sgn s.data.toList).1 (s.data.toList.take (s.size - r.rest.length)) r).1, .int .i64 ((s.size - r.rest.length : Nat) : Int), erN (numF H O X (sgn s.data.toList).1 (s.data.toList.take (s.size - r.rest.length)) r).2])
          rw [← HN.out.1, ← HN.out.2.1, ← HN.out.2.2, EQ.out]
          rfl
  | false =>
    go_enter Tryz.func119, Tryz.ntmps119
    go_upto_region 25 with (first | (go_at_call 125; refine C.out.mono ?_; rintro e w1 ⟨rfl, v, n, rfl⟩) | (go_at_call 126; refine (CR.out _).mono ?_; rintro e w2 ⟨rfl, rfl⟩) | (go_at_call 134; refine (b2f _).mono ?_; rintro e w3 ⟨rfl, rfl⟩) | (go_at_call 137; refine CF.out.mono ?_; rintro e w5 ⟨rfl, hb5⟩))
    go_upto_region 28 with (first | (go_at_call 137; refine (CG.out _ hb5).mono ?_; rintro e w6 ⟨rfl, hb6⟩))
    have hb6' := hb5.trans (Below.mono hb6 hb5.size)
    have hb7 := hb6'.alloc hb6'.size (.cells Tryz.zeroCells149 149)
    have HB6 := Aside0.mk hb7
    have hpp : B ≤ w6.heap.size := Nat.le_trans hB hb6'.size
    have CS := Aside0.mk (set_any w6.heap.size (s.extract 0 n0) hx9 hu9 _ _ (dec_new w6 w6.heap.size rfl))
    have hsz6 := hb6'.size
    rw [hT9] at CS
    clear hb5 hb6 hb6' hb7
    have hfb := fb_run
    go_wp2_with fail
    refine CS.out.mono ?_
    rintro e w7 ⟨rfl, hb7, hat⟩
    have HB7 := Aside0.mk (HB6.out.trans (Below.mono hb7 hsz6))
    have HAT := Aside0.mk hat
    clear hb7 hat CS
    cases hsf : setF (sgn T).2 with
    | none =>
      have hso : (none : Option St).isSome = false := rfl
      have EQ := Aside0.mk (show numF H O X false T r = (0, 2) by unfold numF slowF; rw [if_neg (by rw [hx1]; decide), if_neg hm, if_neg (by omega), if_neg (by omega), if_neg (by rw [htr]; decide), ← HF.out.1, ← HF.out.2, if_neg (by rw [heq]; decide), hsf])
      have HB8 := HB7
      clear hsf
      go_wp2_with fail
      go_ret3
      refine ⟨HB8.out, ?_⟩
      rw [HQ.out.1]
      show match readF (sgn s.data.toList).2 with | none => _ | some r => _
      rw [HQ.out.2]
      show Ending.returned _ = Ending.returned (.tuple #[.float .f64 (numF H O X (sgn s.data.toList).1 (s.data.toList.take (s.size - r.rest.length)) r).1, .int .i64 ((s.size - r.rest.length : Nat) : Int), erN (numF H O X (sgn s.data.toList).1 (s.data.toList.take (s.size - r.rest.length)) r).2])
      rw [← HN.out.1, ← HN.out.2.1, ← HN.out.2.2, EQ.out]
      rfl
    | some t =>
      have hso : (some t).isSome = true := rfl
      have hat := HAT.out t hsf
      have hT7 := HT.out.keep HB7.out hB
      have hng9 : (sgn T).1 = (sgn T).1 := rfl
      by_cases htn : t.n = 0
      · have EQ := Aside0.mk (show numF H O X false T r = ((signB (sgn T).1 (outB 0 (-1023))).toNat, 0) by unfold numF slowF; rw [if_neg (by rw [hx1]; decide), if_neg hm, if_neg (by omega), if_neg (by omega), if_neg (by rw [htr]; decide), ← HF.out.1, ← HF.out.2, if_neg (by rw [heq]; decide), hsf]; exact if_pos htn)
        have CB := Aside0.mk (zero_walk w6.heap.size 6 B (sgn T).1 t htn hpp w7 hat hT7.fi)
        clear hsf hat hT7 htn
        go_wp2_with (first | (go_at_call 133; refine CB.out.mono ?_; rintro e w8 ⟨rfl, hb8⟩))
        have HB8 := Aside0.mk (HB7.out.trans (Below.mono hb8 hsz6))
        go_ret3
        refine ⟨HB8.out, ?_⟩
        rw [HQ.out.1]
        show match readF (sgn s.data.toList).2 with | none => _ | some r => _
        rw [HQ.out.2]
        show Ending.returned _ = Ending.returned (.tuple #[.float .f64 (numF H O X (sgn s.data.toList).1 (s.data.toList.take (s.size - r.rest.length)) r).1, .int .i64 ((s.size - r.rest.length : Nat) : Int), erN (numF H O X (sgn s.data.toList).1 (s.data.toList.take (s.size - r.rest.length)) r).2])
        rw [← HN.out.1, ← HN.out.2.1, ← HN.out.2.2, EQ.out]
        rfl
      · have hgood : t.Good := (setF_ok hsf).resolve_left htn
        have EQ := Aside0.mk (show numF H O X false T r = ((signB (sgn T).1 (outB (fM t) (fX t))).toNat, if over t then 1 else 0) by unfold numF slowF; rw [if_neg (by rw [hx1]; decide), if_neg hm, if_neg (by omega), if_neg (by omega), if_neg (by rw [htr]; decide), ← HF.out.1, ← HF.out.2, if_neg (by rw [heq]; decide), hsf]; exact if_neg htn)
        have CB := Aside0.mk (bits_walk w6.heap.size 6 B (sgn T).1 t hgood hpp w7 hat hT7.fi hT7.pt hT7.lt)
        obtain ⟨bv, hbv⟩ : ∃ bv, bv = signB (sgn T).1 (outB (fM t) (fX t)) := ⟨_, rfl⟩
        unfold BitsP at CB
        rw [← hbv] at CB EQ
        clear hsf hat hT7 htn hbv
        cases hov : over t with
        | true =>
          rw [hov] at CB EQ
          go_wp2_with (first | (go_at_call 133; refine CB.out.mono ?_; rintro e w8 ⟨rfl, hb8⟩))
          have HB8 := Aside0.mk (HB7.out.trans (Below.mono hb8 hsz6))
          go_ret3
          refine ⟨HB8.out, ?_⟩
          rw [HQ.out.1]
          show match readF (sgn s.data.toList).2 with | none => _ | some r => _
          rw [HQ.out.2]
          show Ending.returned _ = Ending.returned (.tuple #[.float .f64 (numF H O X (sgn s.data.toList).1 (s.data.toList.take (s.size - r.rest.length)) r).1, .int .i64 ((s.size - r.rest.length : Nat) : Int), erN (numF H O X (sgn s.data.toList).1 (s.data.toList.take (s.size - r.rest.length)) r).2])
          rw [← HN.out.1, ← HN.out.2.1, ← HN.out.2.2, EQ.out]
          rfl
        | false =>
          rw [hov] at CB EQ
          go_wp2_with (first | (go_at_call 133; refine CB.out.mono ?_; rintro e w8 ⟨rfl, hb8⟩))
          have HB8 := Aside0.mk (HB7.out.trans (Below.mono hb8 hsz6))
          go_ret3
          refine ⟨HB8.out, ?_⟩
          rw [HQ.out.1]
          show match readF (sgn s.data.toList).2 with | none => _ | some r => _
          rw [HQ.out.2]
          show Ending.returned _ = Ending.returned (.tuple #[.float .f64 (numF H O X (sgn s.data.toList).1 (s.data.toList.take (s.size - r.rest.length)) r).1, .int .i64 ((s.size - r.rest.length : Nat) : Int), erN (numF H O X (sgn s.data.toList).1 (s.data.toList.take (s.size - r.rest.length)) r).2])
          rw [← HN.out.1, ← HN.out.2.1, ← HN.out.2.2, EQ.out]
          rfl

/-- atof64 at every text without underscores. -/
theorem atof_walk (B : Nat) (H O X : Nat → Nat) (s : ByteArray) (hsz : s.size ≤ 2200000000) (hus : ∀ i (h : i < s.size), s[i].toNat ≠ 95) (w : World) (hB : B ≤ w.heap.size) (hT : Tabs B H O X w) : Calls Tryz.prog 119 #[.string s] w (AtP H O X s w) := by
  cases hq : spF s.data.toList with
  | some q => exact atof_special H O X s hsz w q hq
  | none =>
    cases hr : readF (sgn s.data.toList).2 with
    | none => exact atof_none H O X s hsz hus w hq hr
    | some r =>
      cases hx : r.hx with
      | true => exact atof_hex B H O X s hsz hus w hB hT hq r hr hx
      | false =>
        by_cases h1 : r.man = 0
        · exact atof_easy B H O X s hsz hus w hT hq r hr ⟨hx, .inl h1⟩
        · by_cases h2 : 310 < r.exp
          · exact atof_easy B H O X s hsz hus w hT hq r hr ⟨hx, .inr (.inl h2)⟩
          · by_cases h3 : r.exp < -345
            · exact atof_easy B H O X s hsz hus w hT hq r hr ⟨hx, .inr (.inr h3)⟩
            · cases htr : r.tr with
              | false => exact atof_fast B H O X s hsz hus w hB hT hq r hr hx h1 (by omega) (by omega) htr
              | true =>
                cases he : ((FloatKind.format .f64).order (pfV (fun k => H k) (fun k => O k) r.man r.exp (sgB (sgn s.data.toList).1)) (pfV (fun k => H k) (fun k => O k) (IntKind.u64.wrap (r.man + 1)) r.exp (sgB (sgn s.data.toList).1)) == some .eq) with
                | true => exact atof_same B H O X s hsz hus w hB hT hq r hr hx h1 (by omega) (by omega) htr he
                | false => exact atof_slow B H O X s hsz hus w hB hT hq r hr hx h1 (by omega) (by omega) htr he
end Go.Proofs.YtlkbhmmelejmjaaGreatDoor.FltAtof4

/- ParseFloat of package internal/strconv, walked. -/
namespace Go.Proofs.YtlkbhmmelejmjaaGreatDoor.FltParse
open Go.RowKit Go.Proofs.YtlkbhmmelejmjaaGreatDoorW.PrintWords Go.Proofs.YtlkbhmmelejmjaaGreatDoor.FltDec Go.Proofs.YtlkbhmmelejmjaaGreatDoor.FltTextP Go.Proofs.YtlkbhmmelejmjaaGreatDoor.FltSpecial Go.Proofs.YtlkbhmmelejmjaaGreatDoor.FltAtof Go.Proofs.YtlkbhmmelejmjaaGreatDoor.FltAtof4
set_option linter.unusedVariables false
set_option linter.unusedSimpArgs false

/-- What atof64 gives, in one form: the float, how much was read, the kind of the error. -/
def At3 (H O X : Nat → Nat) (s : ByteArray) (w : World) (e : Ending) (w' : World) : Prop := Below w.heap.size w w' ∧ ∃ (v : Nat) (n : Int) (k : Nat), e = .returned (.tuple #[.float .f64 v, .int .i64 n, erN k]) ∧
  match spF s.data.toList with
  | some q => v = q.1 ∧ n = (q.2 : Nat) ∧ k = 0
  | none => match readF (sgn s.data.toList).2 with
    | none => v = 0 ∧ k = 2
    | some r => v = (numF H O X (sgn s.data.toList).1 (s.data.toList.take (s.size - r.rest.length)) r).1 ∧ n = ((s.size - r.rest.length : Nat) : Int) ∧ k = (numF H O X (sgn s.data.toList).1 (s.data.toList.take (s.size - r.rest.length)) r).2
theorem at3 {H O X : Nat → Nat} {s : ByteArray} {w : World} {e : Ending} {w' : World} (h : AtP H O X s w e w') : At3 H O X s w e w' := by
  obtain ⟨hb, h⟩ := h
  refine ⟨hb, ?_⟩
  revert h
  cases spF s.data.toList with
  | some q => exact fun h => ⟨q.1, _, 0, h, rfl, rfl, rfl⟩
  | none =>
    cases readF (sgn s.data.toList).2 with
    | none => exact fun ⟨n, h⟩ => ⟨0, n, 2, h, rfl, rfl⟩
    | some r => exact fun h => ⟨_, _, _, h, rfl, rfl, rfl⟩
/-- What ParseFloat gives: the float and the kind of the error. -/
def parF (H O X : Nat → Nat) (s : ByteArray) : Nat × Nat :=
  match spF s.data.toList with
  | some q => if q.2 = s.size then (q.1, 0) else (0, 2)
  | none => match readF (sgn s.data.toList).2 with
    | none => (0, 2)
    | some r => if s.size - r.rest.length = s.size then numF H O X (sgn s.data.toList).1 (s.data.toList.take (s.size - r.rest.length)) r else (0, 2)
def PaP (q : Nat × Nat) (w : World) (e : Ending) (w' : World) : Prop := Below w.heap.size w w' ∧ e = .returned (.tuple #[.float .f64 q.1, erN q.2])

set_option maxRecDepth 100000 in
theorem prefix_walk (B : Nat) (H O X : Nat → Nat) (s : ByteArray) (hsz : s.size ≤ 2200000000) (hus : ∀ i (h : i < s.size), s[i].toNat ≠ 95) (w : World) (hB : B ≤ w.heap.size) (hT : Tabs B H O X w) : Calls Tryz.prog 100 #[.string s, .int .i64 64] w (At3 H O X s w) := by
  have C := Aside0.mk (atof_walk B H O X s hsz hus w hB hT)
  clear hus hT
  go_enter Tryz.func100, Tryz.ntmps100
  go_wp2_with (first | (go_at_call 119; refine C.out.mono ?_; rintro e w1 hAt; have H3 := Aside0.mk (at3 hAt); obtain ⟨hb3, v, n, k, rfl, h3⟩ := at3 hAt; clear hAt; replace h3 := Aside0.mk h3))
  go_ret3
  exact ⟨hb3, v, n, k, rfl, h3.out⟩

set_option maxRecDepth 100000 in
theorem parse_walk (B : Nat) (H O X : Nat → Nat) (s : ByteArray) (hsz : s.size ≤ 2200000000) (hus : ∀ i (h : i < s.size), s[i].toNat ≠ 95) (w : World) (hB : B ≤ w.heap.size) (hT : Tabs B H O X w) : Calls Tryz.prog 85 #[.string s, .int .i64 64] w (PaP (parF H O X s) w) := by
  have C := Aside0.mk (prefix_walk B H O X s hsz hus w hB hT)
  clear hus hT
  go_enter Tryz.func85, Tryz.ntmps85
  go_upto_region 2 with (first | (go_at_call 100; refine C.out.mono ?_; rintro e w1 ⟨hb3, v, n, k, rfl, h3⟩; replace h3 := Aside0.mk h3))
  by_cases hn : n = (s.size : Int)
  · have q1 : (n != (s.size : Int)) = false := by rw [hn]; simp
    have HN := Aside0.mk hn
    have hP : parF H O X s = (v, k) := by
      have h := h3.out
      unfold parF
      revert h
      cases spF s.data.toList with
      | some q => rintro ⟨rfl, h2, rfl⟩; exact if_pos (by omega)
      | none =>
        cases readF (sgn s.data.toList).2 with
        | none => rintro ⟨rfl, rfl⟩; rfl
        | some r => rintro ⟨rfl, h2, rfl⟩; exact if_pos (by omega)
    replace hP := Aside0.mk hP
    clear hn h3
    go_wp2_with fail
    go_ret2
    exact ⟨hb3, by rw [hP.out]; rfl⟩
  · have q1 : (n != (s.size : Int)) = true := bne_iff_ne.mpr hn
    have hP : parF H O X s = (0, 2) := by
      have h := h3.out
      unfold parF
      revert h
      cases spF s.data.toList with
      | some q => rintro ⟨rfl, h2, rfl⟩; exact if_neg (by omega)
      | none =>
        cases readF (sgn s.data.toList).2 with
        | none => rintro ⟨rfl, rfl⟩; rfl
        | some r => rintro ⟨rfl, h2, rfl⟩; exact if_neg (by omega)
    replace hP := Aside0.mk hP
    clear hn h3
    go_wp2_with fail
    go_ret2
    exact ⟨hb3, by rw [hP.out]; rfl⟩

set_option maxRecDepth 100000 in
/-- strconv.ParseFloat where there is no error. -/
theorem float_ok (B : Nat) (H O X : Nat → Nat) (s : ByteArray) (hsz : s.size ≤ 2200000000) (hus : ∀ i (h : i < s.size), s[i].toNat ≠ 95) (w : World) (hB : B ≤ w.heap.size) (hT : Tabs B H O X w) (hk : (parF H O X s).2 = 0) : Calls Tryz.prog 47 #[.string s, .int .i64 64] w (fun e w' => Below w.heap.size w w' ∧ e = .returned (.tuple #[.float .f64 (parF H O X s).1, .nilIface])) := by
  have C := parse_walk B H O X s hsz hus w hB hT
  unfold PaP at C
  rw [hk] at C
  obtain ⟨v, hv⟩ : ∃ v, v = (parF H O X s).1 := ⟨_, rfl⟩
  rw [← hv] at C ⊢
  have C := Aside0.mk C
  clear hus hT hk hv
  go_enter Tryz.func47, Tryz.ntmps47
  go_wp2_with (first | (go_at_call 85; refine C.out.mono ?_; rintro e w1 ⟨hb3, rfl⟩; rw [show erN 0 = .nilIface from rfl]))
  go_ret2
  exact ⟨hb3, rfl⟩
end Go.Proofs.YtlkbhmmelejmjaaGreatDoor.FltParse

/- Numbers: internal/strconv.ParseUint at the bases 2, 8, 10 and 16, for 64 bits, at any text that is not empty. (Written by wip/tools/numparse.py.) -/
namespace Go.Proofs.YtlkbhmmelejmjaaGreatDoor.NumParse
open Go.RowKit Go.Proofs.YtlkbhmmelejmjaaGreatDoorW.PrintWords Go.Proofs.YtlkbhmmelejmjaaGreatDoor.NumKnown
set_option linter.unusedVariables false
set_option linter.unusedSimpArgs false

/-- The value of a digit. -/
def dg (c : Nat) : Option Nat := if 48 ≤ c ∧ c ≤ 57 then some (c - 48) else if 97 ≤ (Go.bits .or .u8 c 32).toNat ∧ (Go.bits .or .u8 c 32).toNat ≤ 122 then some ((Go.bits .or .u8 c 32).toNat - 87) else none
def cut (b : Nat) : Nat := 18446744073709551615 / b + 1
/-- A number, one too great, none. -/
inductive En where
  | ok (n : Nat)
  | range
  | bad
def uTup (T : TypeId) : En → Value
  | .ok n => .tuple #[.int .u64 n, .nilIface]
  | .bad => .tuple #[.int .u64 0, .iface T (.int .i64 2)]
  | .range => .tuple #[.int .u64 18446744073709551615, .iface T (.int .i64 1)]
/-- What the digits of a base spell, behind 'acc'. -/
def pu (b acc : Nat) : List UInt8 → En
  | [] => .ok acc
  | c :: r => match dg c.toNat with
    | none => .bad
    | some d => if b ≤ d then .bad else if cut b ≤ acc then .range else if 18446744073709551616 ≤ acc * b + d then .range else pu b (acc * b + d) r
theorem pu_none {b acc : Nat} {c : UInt8} {r : List UInt8} (h : dg c.toNat = none) : pu b acc (c :: r) = .bad := by simp only [pu, h]
theorem pu_big {b acc d : Nat} {c : UInt8} {r : List UInt8} (h : dg c.toNat = some d) (hd : b ≤ d) : pu b acc (c :: r) = .bad := by simp only [pu, h]; rw [if_pos hd]
theorem pu_cut {b acc d : Nat} {c : UInt8} {r : List UInt8} (h : dg c.toNat = some d) (hd : ¬ b ≤ d) (hc : cut b ≤ acc) : pu b acc (c :: r) = .range := by simp only [pu, h]; rw [if_neg hd, if_pos hc]
theorem pu_over {b acc d : Nat} {c : UInt8} {r : List UInt8} (h : dg c.toNat = some d) (hd : ¬ b ≤ d) (hc : ¬ cut b ≤ acc) (ho : 18446744073709551616 ≤ acc * b + d) : pu b acc (c :: r) = .range := by simp only [pu, h]; rw [if_neg hd, if_neg hc, if_pos ho]
theorem pu_step {b acc d : Nat} {c : UInt8} {r : List UInt8} (h : dg c.toNat = some d) (hd : ¬ b ≤ d) (hc : ¬ cut b ≤ acc) (ho : ¬ 18446744073709551616 ≤ acc * b + d) : pu b acc (c :: r) = pu b (acc * b + d) r := by simp only [pu, h]; rw [if_neg hd, if_neg hc, if_neg ho]

/-- What ParseUint gives of a text that is not empty. -/
def PUd (t : ByteArray) (b : Nat) (w : World) (e : Ending) (w' : World) : Prop := e = .returned (uTup 119 (pu b 0 t.data.toList)) ∧ Below w.heap.size w w'
def Lowd (l : Int) (w : World) (e : Ending) (w' : World) : Prop := e = .returned (.int .u8 l) ∧ w = w'
theorem lower_any (c : Int) (w : World) : Calls Tryz.prog 123 #[.int .u8 c] w (Lowd (Go.bits .or .u8 c 32) w) := by
  go_enter Tryz.func123, Tryz.ntmps123
  go_wp2
  go_ret
  exact ⟨rfl, rfl⟩

set_option maxHeartbeats 32000000 in
set_option maxRecDepth 100000 in
theorem parse_2 (t : ByteArray) (hne : t.size ≠ 0) (hmax : t.size ≤ 9223372036854775806) (w : World) : Calls Tryz.prog 115 #[.string t, .int .i64 2, .int .i64 64] w (PUd t 2 w) := by
  have hemp : t.toList.isEmpty = false := by
    rw [← decide_eq_emptyBytes]
    exact decide_eq_false (fun h => hne (by rw [h]; rfl))
  have hcv := Lib.run_convert_string_bytes (P := Tryz.prog) w 9 123 5 t (u := .string) Tryz.underlying9 Tryz.underlying123 Tryz.underlying5
  have hB : ∀ j, j < t.size → (Lib.bytesWorld w 5 t).cell? ⟨w.heap.size, j, none⟩ = some (.int .u8 (t.data.toList.getD j 0).toNat) := fun j hj => Lib.bytesWorld_cell w 5 t j hj
  have HBW := Aside0.mk (Go.Joins.below_bytesWorld w.heap.size w 5 t (Nat.le_refl _))
  unfold PUd
  obtain ⟨W1, hW1⟩ : ∃ W1, W1 = Lib.bytesWorld w 5 t := ⟨_, rfl⟩
  rw [← hW1] at hcv hB HBW
  clear hW1
  obtain ⟨bs, hL⟩ : ∃ bs, bs = t.data.toList := ⟨_, rfl⟩
  have hLn : bs.length = t.size := by rw [hL, Lib.size_eq]
  rw [← hL] at hB ⊢
  clear hL
  have hmv : IntKind.u64.wrap (IntKind.u64.wrap 18446744073709551616 - 1) = 18446744073709551615 := by
    rw [IntKind.wrap_u64, IntKind.wrap_u64]
    decide
  go_enter Tryz.func115, Tryz.ntmps115
  go_wp2_with fail
  go_loop [12, 13, 101] (fun vu vn vi => ∃ (k acc : Nat) (a : Int), vu = .bool false ∧ vn = .int .u64 a ∧ vi = .int .i64 k ∧ k ≤ t.size ∧ Hid (a = (acc : Int) ∧ acc < 18446744073709551616 ∧ pu 2 0 bs = pu 2 acc (bs.drop k)))
    (fun _ _ vi => t.size - (intOf vi).toNat)
  case atStart => exact ⟨0, 0, 0, rfl, rfl, rfl, by omega, rfl, by omega, rfl⟩
  case round =>
    obtain ⟨k, acc, a, rfl, rfl, rfl, hk, hh⟩ := hrel
    obtain ⟨ha, hacc, hdec⟩ := hh.out
    clear hh
    have a0 : 0 ≤ a := by omega
    have a1 : a < 18446744073709551616 := by omega
    have hct : cut 2 = 9223372036854775808 := by decide
    by_cases hkn : k < t.size
    · have hc := hB k hkn
      have hdrop : bs.drop k = bs[k]'(by omega) :: bs.drop (k + 1) := List.drop_eq_getElem_cons (by omega)
      have hget : bs.getD k 0 = bs[k]'(by omega) := by simp [List.getD, List.getElem?_eq_getElem (show k < bs.length by omega)]
      rw [hdrop] at hdec
      rw [hget] at hc
      generalize bs[k]'(by omega) = c at hc hdec
      have hc256 : c.toNat < 256 := c.toNat_lt
      clear hB hdrop hget
      by_cases hdig : 48 ≤ c.toNat ∧ c.toNat ≤ 57
      · have hdd : dg c.toNat = some (c.toNat - 48) := if_pos hdig
        obtain ⟨hd0, hd1⟩ := hdig
        by_cases hdb : c.toNat < 50
        · have hdb' : ¬ 50 ≤ c.toNat := by omega
          by_cases hcut : 9223372036854775808 ≤ acc
          · have hF := pu_cut (r := bs.drop (k + 1)) hdd (show ¬ 2 ≤ c.toNat - 48 by omega) (show cut 2 ≤ acc by rw [hct]; exact hcut)
            rw [hF] at hdec
            have icut : 9223372036854775808 ≤ a := by omega
            clear hcut hacc hF ha hct
            go_wp2_with (first | (go_at_call 123; refine (lower_any _ _).mono ?_; rintro e w' ⟨rfl, rfl⟩))
            all_goals go_ret2
            all_goals exact ⟨by first | rfl | (rw [hdec]; rfl), HBW.out⟩
          · have hcut' : ¬ cut 2 ≤ acc := by rw [hct]; exact hcut
            by_cases hov : 18446744073709551616 ≤ acc * 2 + (c.toNat - 48)
            · exact absurd hov (by omega)
            · have hF := pu_step (r := bs.drop (k + 1)) hdd (show ¬ 2 ≤ c.toNat - 48 by omega) hcut' hov
              have HN : Hid (a * 2 + ((c.toNat : Int) - 48) = ((acc * 2 + (c.toNat - 48) : Nat) : Int) ∧ acc * 2 + (c.toNat - 48) < 18446744073709551616 ∧ pu 2 0 bs = pu 2 (acc * 2 + (c.toNat - 48)) (bs.drop (k + 1))) := Lib.hid ⟨by omega, by omega, hdec.trans hF⟩
              have icut : a < 9223372036854775808 := by omega
              have iov : a * 2 + ((c.toNat : Int) - 48) < 18446744073709551616 := by omega
              clear hcut hcut' hacc hF hov hdec ha hct
              go_wp2_with (first | (go_at_call 123; refine (lower_any _ _).mono ?_; rintro e w' ⟨rfl, rfl⟩))
              all_goals refine ⟨⟨k + 1, acc * 2 + (c.toNat - 48), a * 2 + ((c.toNat : Int) - 48), rfl, (by first | rfl | (congr 1; omega)), (by first | rfl | (congr 1; omega)), by omega, HN⟩, by simp [intOf]; omega⟩
        · have hdb' : 50 ≤ c.toNat := by omega
          have hF := pu_big (b := 2) (acc := acc) (r := bs.drop (k + 1)) hdd (by omega)
          rw [hF] at hdec
          clear hacc hF ha hct
          go_wp2_with (first | (go_at_call 123; refine (lower_any _ _).mono ?_; rintro e w' ⟨rfl, rfl⟩))
          all_goals go_ret2
          all_goals exact ⟨by first | rfl | (rw [hdec]; rfl), HBW.out⟩
      · by_cases h95 : c.toNat = 95
        · have hdd : dg c.toNat = none := by rw [h95]; decide
          have hF := pu_none (b := 2) (acc := acc) (r := bs.drop (k + 1)) hdd
          rw [hF] at hdec
          have hb95 : Go.bits .or .u8 95 32 = 127 := by decide
          rw [h95] at hc
          clear hacc hF ha hct hdd h95 hdig hc256
          go_wp2_with (first | (go_at_call 123; refine (lower_any _ _).mono ?_; rintro e w' ⟨rfl, rfl⟩))
          all_goals go_ret2
          all_goals exact ⟨by first | rfl | (rw [hdec]; rfl), HBW.out⟩
        have h95b : ((c.toNat : Int) == 95) = false := beq_eq_false_iff_ne.mpr (by omega)
        have hv0 := bits_lo_u8 .or (c.toNat : Int) 32
        have hv1 := bits_hi_u8 .or (c.toNat : Int) 32
        have hlw : ∀ l : Int, l = Go.bits .or .u8 (c.toNat : Int) 32 → (97 ≤ l ∧ l ≤ 122 → dg c.toNat = some (l.toNat - 87)) ∧ (¬ (97 ≤ l ∧ l ≤ 122) → dg c.toNat = none) := fun l hl => by
          subst hl
          refine ⟨fun h => ?_, fun h => ?_⟩
          · unfold dg; rw [if_neg hdig, if_pos (by omega)]
          · unfold dg; rw [if_neg hdig, if_neg (by omega)]
        obtain ⟨l, hl⟩ : ∃ l, l = Go.bits .or .u8 (c.toNat : Int) 32 := ⟨_, rfl⟩
        have hlw := hlw l hl
        rw [← hl] at hv0 hv1
        have hnd : ¬ (48 ≤ (c.toNat : Int) ∧ (c.toNat : Int) ≤ 57) := by omega
        have HNC : Hid (l = Go.bits .or .u8 (c.toNat : Int) 32) := Lib.hid hl
        have CL : Aside0 (∀ W, Calls Tryz.prog 123 #[.int .u8 (c.toNat : Int)] W (Lowd l W)) := ⟨fun W => (lower_any _ _).mono fun e w' h => ⟨by rw [h.1, ← hl], h.2⟩⟩
        clear hl
        have hsp : c.toNat < 48 ∨ 57 < c.toNat := by omega
        by_cases hlet : 97 ≤ l ∧ l ≤ 122
        · have hdd := hlw.1 hlet
          obtain ⟨hl0, hl1⟩ := hlet
          have hF := pu_big (b := 2) (acc := acc) (r := bs.drop (k + 1)) hdd (by omega)
          rw [hF] at hdec
          clear hacc hF ha hct hlw
          go_wp2_with (first | (go_at_call 123; refine (CL.out _).mono ?_; rintro e w' ⟨rfl, rfl⟩))
          all_goals go_ret2
          all_goals exact ⟨by first | rfl | (rw [hdec]; rfl), HBW.out⟩
        · have hdd := hlw.2 hlet
          have hl1 : l < 97 ∨ 122 < l := by omega
          clear hlet
          rcases hl1 with hl1 | hl1
          · have hF := pu_none (b := 2) (acc := acc) (r := bs.drop (k + 1)) hdd
            rw [hF] at hdec
            clear hacc hF ha hct hlw
            go_wp2_with (first | (go_at_call 123; refine (CL.out _).mono ?_; rintro e w' ⟨rfl, rfl⟩))
            all_goals go_ret2
            all_goals exact ⟨by first | rfl | (rw [hdec]; rfl), HBW.out⟩
          · have hF := pu_none (b := 2) (acc := acc) (r := bs.drop (k + 1)) hdd
            rw [hF] at hdec
            clear hacc hF ha hct hlw
            go_wp2_with (first | (go_at_call 123; refine (CL.out _).mono ?_; rintro e w' ⟨rfl, rfl⟩))
            all_goals go_ret2
            all_goals exact ⟨by first | rfl | (rw [hdec]; rfl), HBW.out⟩
    · have hkk : k = t.size := by omega
      subst hkk
      have hF : pu 2 acc (bs.drop t.size) = .ok acc := by rw [List.drop_eq_nil_of_le (by omega)]; rfl
      rw [hF] at hdec
      subst ha
      clear hacc hF a0 a1 hct
      go_wp2_with fail
      go_ret2
      exact ⟨by first | rfl | (rw [hdec]; rfl), HBW.out⟩

set_option maxHeartbeats 32000000 in
set_option maxRecDepth 100000 in
theorem parse_8 (t : ByteArray) (hne : t.size ≠ 0) (hmax : t.size ≤ 9223372036854775806) (w : World) : Calls Tryz.prog 115 #[.string t, .int .i64 8, .int .i64 64] w (PUd t 8 w) := by
  have hemp : t.toList.isEmpty = false := by
    rw [← decide_eq_emptyBytes]
    exact decide_eq_false (fun h => hne (by rw [h]; rfl))
  have hcv := Lib.run_convert_string_bytes (P := Tryz.prog) w 9 123 5 t (u := .string) Tryz.underlying9 Tryz.underlying123 Tryz.underlying5
  have hB : ∀ j, j < t.size → (Lib.bytesWorld w 5 t).cell? ⟨w.heap.size, j, none⟩ = some (.int .u8 (t.data.toList.getD j 0).toNat) := fun j hj => Lib.bytesWorld_cell w 5 t j hj
  have HBW := Aside0.mk (Go.Joins.below_bytesWorld w.heap.size w 5 t (Nat.le_refl _))
  unfold PUd
  obtain ⟨W1, hW1⟩ : ∃ W1, W1 = Lib.bytesWorld w 5 t := ⟨_, rfl⟩
  rw [← hW1] at hcv hB HBW
  clear hW1
  obtain ⟨bs, hL⟩ : ∃ bs, bs = t.data.toList := ⟨_, rfl⟩
  have hLn : bs.length = t.size := by rw [hL, Lib.size_eq]
  rw [← hL] at hB ⊢
  clear hL
  have hmv : IntKind.u64.wrap (IntKind.u64.wrap 18446744073709551616 - 1) = 18446744073709551615 := by
    rw [IntKind.wrap_u64, IntKind.wrap_u64]
    decide
  go_enter Tryz.func115, Tryz.ntmps115
  go_wp2_with fail
  go_loop [12, 13, 101] (fun vu vn vi => ∃ (k acc : Nat) (a : Int), vu = .bool false ∧ vn = .int .u64 a ∧ vi = .int .i64 k ∧ k ≤ t.size ∧ Hid (a = (acc : Int) ∧ acc < 18446744073709551616 ∧ pu 8 0 bs = pu 8 acc (bs.drop k)))
    (fun _ _ vi => t.size - (intOf vi).toNat)
  case atStart => exact ⟨0, 0, 0, rfl, rfl, rfl, by omega, rfl, by omega, rfl⟩
  case round =>
    obtain ⟨k, acc, a, rfl, rfl, rfl, hk, hh⟩ := hrel
    obtain ⟨ha, hacc, hdec⟩ := hh.out
    clear hh
    have a0 : 0 ≤ a := by omega
    have a1 : a < 18446744073709551616 := by omega
    have hct : cut 8 = 2305843009213693952 := by decide
    by_cases hkn : k < t.size
    · have hc := hB k hkn
      have hdrop : bs.drop k = bs[k]'(by omega) :: bs.drop (k + 1) := List.drop_eq_getElem_cons (by omega)
      have hget : bs.getD k 0 = bs[k]'(by omega) := by simp [List.getD, List.getElem?_eq_getElem (show k < bs.length by omega)]
      rw [hdrop] at hdec
      rw [hget] at hc
      generalize bs[k]'(by omega) = c at hc hdec
      have hc256 : c.toNat < 256 := c.toNat_lt
      clear hB hdrop hget
      by_cases hdig : 48 ≤ c.toNat ∧ c.toNat ≤ 57
      · have hdd : dg c.toNat = some (c.toNat - 48) := if_pos hdig
        obtain ⟨hd0, hd1⟩ := hdig
        by_cases hdb : c.toNat < 56
        · have hdb' : ¬ 56 ≤ c.toNat := by omega
          by_cases hcut : 2305843009213693952 ≤ acc
          · have hF := pu_cut (r := bs.drop (k + 1)) hdd (show ¬ 8 ≤ c.toNat - 48 by omega) (show cut 8 ≤ acc by rw [hct]; exact hcut)
            rw [hF] at hdec
            have icut : 2305843009213693952 ≤ a := by omega
            clear hcut hacc hF ha hct
            go_wp2_with (first | (go_at_call 123; refine (lower_any _ _).mono ?_; rintro e w' ⟨rfl, rfl⟩))
            all_goals go_ret2
            all_goals exact ⟨by first | rfl | (rw [hdec]; rfl), HBW.out⟩
          · have hcut' : ¬ cut 8 ≤ acc := by rw [hct]; exact hcut
            by_cases hov : 18446744073709551616 ≤ acc * 8 + (c.toNat - 48)
            · exact absurd hov (by omega)
            · have hF := pu_step (r := bs.drop (k + 1)) hdd (show ¬ 8 ≤ c.toNat - 48 by omega) hcut' hov
              have HN : Hid (a * 8 + ((c.toNat : Int) - 48) = ((acc * 8 + (c.toNat - 48) : Nat) : Int) ∧ acc * 8 + (c.toNat - 48) < 18446744073709551616 ∧ pu 8 0 bs = pu 8 (acc * 8 + (c.toNat - 48)) (bs.drop (k + 1))) := Lib.hid ⟨by omega, by omega, hdec.trans hF⟩
              have icut : a < 2305843009213693952 := by omega
              have iov : a * 8 + ((c.toNat : Int) - 48) < 18446744073709551616 := by omega
              clear hcut hcut' hacc hF hov hdec ha hct
              go_wp2_with (first | (go_at_call 123; refine (lower_any _ _).mono ?_; rintro e w' ⟨rfl, rfl⟩))
              all_goals refine ⟨⟨k + 1, acc * 8 + (c.toNat - 48), a * 8 + ((c.toNat : Int) - 48), rfl, (by first | rfl | (congr 1; omega)), (by first | rfl | (congr 1; omega)), by omega, HN⟩, by simp [intOf]; omega⟩
        · have hdb' : 56 ≤ c.toNat := by omega
          have hF := pu_big (b := 8) (acc := acc) (r := bs.drop (k + 1)) hdd (by omega)
          rw [hF] at hdec
          clear hacc hF ha hct
          go_wp2_with (first | (go_at_call 123; refine (lower_any _ _).mono ?_; rintro e w' ⟨rfl, rfl⟩))
          all_goals go_ret2
          all_goals exact ⟨by first | rfl | (rw [hdec]; rfl), HBW.out⟩
      · by_cases h95 : c.toNat = 95
        · have hdd : dg c.toNat = none := by rw [h95]; decide
          have hF := pu_none (b := 8) (acc := acc) (r := bs.drop (k + 1)) hdd
          rw [hF] at hdec
          have hb95 : Go.bits .or .u8 95 32 = 127 := by decide
          rw [h95] at hc
          clear hacc hF ha hct hdd h95 hdig hc256
          go_wp2_with (first | (go_at_call 123; refine (lower_any _ _).mono ?_; rintro e w' ⟨rfl, rfl⟩))
          all_goals go_ret2
          all_goals exact ⟨by first | rfl | (rw [hdec]; rfl), HBW.out⟩
        have h95b : ((c.toNat : Int) == 95) = false := beq_eq_false_iff_ne.mpr (by omega)
        have hv0 := bits_lo_u8 .or (c.toNat : Int) 32
        have hv1 := bits_hi_u8 .or (c.toNat : Int) 32
        have hlw : ∀ l : Int, l = Go.bits .or .u8 (c.toNat : Int) 32 → (97 ≤ l ∧ l ≤ 122 → dg c.toNat = some (l.toNat - 87)) ∧ (¬ (97 ≤ l ∧ l ≤ 122) → dg c.toNat = none) := fun l hl => by
          subst hl
          refine ⟨fun h => ?_, fun h => ?_⟩
          · unfold dg; rw [if_neg hdig, if_pos (by omega)]
          · unfold dg; rw [if_neg hdig, if_neg (by omega)]
        obtain ⟨l, hl⟩ : ∃ l, l = Go.bits .or .u8 (c.toNat : Int) 32 := ⟨_, rfl⟩
        have hlw := hlw l hl
        rw [← hl] at hv0 hv1
        have hnd : ¬ (48 ≤ (c.toNat : Int) ∧ (c.toNat : Int) ≤ 57) := by omega
        have HNC : Hid (l = Go.bits .or .u8 (c.toNat : Int) 32) := Lib.hid hl
        have CL : Aside0 (∀ W, Calls Tryz.prog 123 #[.int .u8 (c.toNat : Int)] W (Lowd l W)) := ⟨fun W => (lower_any _ _).mono fun e w' h => ⟨by rw [h.1, ← hl], h.2⟩⟩
        clear hl
        have hsp : c.toNat < 48 ∨ 57 < c.toNat := by omega
        by_cases hlet : 97 ≤ l ∧ l ≤ 122
        · have hdd := hlw.1 hlet
          obtain ⟨hl0, hl1⟩ := hlet
          have hF := pu_big (b := 8) (acc := acc) (r := bs.drop (k + 1)) hdd (by omega)
          rw [hF] at hdec
          clear hacc hF ha hct hlw
          go_wp2_with (first | (go_at_call 123; refine (CL.out _).mono ?_; rintro e w' ⟨rfl, rfl⟩))
          all_goals go_ret2
          all_goals exact ⟨by first | rfl | (rw [hdec]; rfl), HBW.out⟩
        · have hdd := hlw.2 hlet
          have hl1 : l < 97 ∨ 122 < l := by omega
          clear hlet
          rcases hl1 with hl1 | hl1
          · have hF := pu_none (b := 8) (acc := acc) (r := bs.drop (k + 1)) hdd
            rw [hF] at hdec
            clear hacc hF ha hct hlw
            go_wp2_with (first | (go_at_call 123; refine (CL.out _).mono ?_; rintro e w' ⟨rfl, rfl⟩))
            all_goals go_ret2
            all_goals exact ⟨by first | rfl | (rw [hdec]; rfl), HBW.out⟩
          · have hF := pu_none (b := 8) (acc := acc) (r := bs.drop (k + 1)) hdd
            rw [hF] at hdec
            clear hacc hF ha hct hlw
            go_wp2_with (first | (go_at_call 123; refine (CL.out _).mono ?_; rintro e w' ⟨rfl, rfl⟩))
            all_goals go_ret2
            all_goals exact ⟨by first | rfl | (rw [hdec]; rfl), HBW.out⟩
    · have hkk : k = t.size := by omega
      subst hkk
      have hF : pu 8 acc (bs.drop t.size) = .ok acc := by rw [List.drop_eq_nil_of_le (by omega)]; rfl
      rw [hF] at hdec
      subst ha
      clear hacc hF a0 a1 hct
      go_wp2_with fail
      go_ret2
      exact ⟨by first | rfl | (rw [hdec]; rfl), HBW.out⟩

set_option maxHeartbeats 32000000 in
set_option maxRecDepth 100000 in
theorem parse_10 (t : ByteArray) (hne : t.size ≠ 0) (hmax : t.size ≤ 9223372036854775806) (w : World) : Calls Tryz.prog 115 #[.string t, .int .i64 10, .int .i64 64] w (PUd t 10 w) := by
  have hemp : t.toList.isEmpty = false := by
    rw [← decide_eq_emptyBytes]
    exact decide_eq_false (fun h => hne (by rw [h]; rfl))
  have hcv := Lib.run_convert_string_bytes (P := Tryz.prog) w 9 123 5 t (u := .string) Tryz.underlying9 Tryz.underlying123 Tryz.underlying5
  have hB : ∀ j, j < t.size → (Lib.bytesWorld w 5 t).cell? ⟨w.heap.size, j, none⟩ = some (.int .u8 (t.data.toList.getD j 0).toNat) := fun j hj => Lib.bytesWorld_cell w 5 t j hj
  have HBW := Aside0.mk (Go.Joins.below_bytesWorld w.heap.size w 5 t (Nat.le_refl _))
  unfold PUd
  obtain ⟨W1, hW1⟩ : ∃ W1, W1 = Lib.bytesWorld w 5 t := ⟨_, rfl⟩
  rw [← hW1] at hcv hB HBW
  clear hW1
  obtain ⟨bs, hL⟩ : ∃ bs, bs = t.data.toList := ⟨_, rfl⟩
  have hLn : bs.length = t.size := by rw [hL, Lib.size_eq]
  rw [← hL] at hB ⊢
  clear hL
  have hmv : IntKind.u64.wrap (IntKind.u64.wrap 18446744073709551616 - 1) = 18446744073709551615 := by
    rw [IntKind.wrap_u64, IntKind.wrap_u64]
    decide
  go_enter Tryz.func115, Tryz.ntmps115
  go_wp2_with fail
  go_loop [12, 13, 101] (fun vu vn vi => ∃ (k acc : Nat) (a : Int), vu = .bool false ∧ vn = .int .u64 a ∧ vi = .int .i64 k ∧ k ≤ t.size ∧ Hid (a = (acc : Int) ∧ acc < 18446744073709551616 ∧ pu 10 0 bs = pu 10 acc (bs.drop k)))
    (fun _ _ vi => t.size - (intOf vi).toNat)
  case atStart => exact ⟨0, 0, 0, rfl, rfl, rfl, by omega, rfl, by omega, rfl⟩
  case round =>
    obtain ⟨k, acc, a, rfl, rfl, rfl, hk, hh⟩ := hrel
    obtain ⟨ha, hacc, hdec⟩ := hh.out
    clear hh
    have a0 : 0 ≤ a := by omega
    have a1 : a < 18446744073709551616 := by omega
    have hct : cut 10 = 1844674407370955162 := by decide
    by_cases hkn : k < t.size
    · have hc := hB k hkn
      have hdrop : bs.drop k = bs[k]'(by omega) :: bs.drop (k + 1) := List.drop_eq_getElem_cons (by omega)
      have hget : bs.getD k 0 = bs[k]'(by omega) := by simp [List.getD, List.getElem?_eq_getElem (show k < bs.length by omega)]
      rw [hdrop] at hdec
      rw [hget] at hc
      generalize bs[k]'(by omega) = c at hc hdec
      have hc256 : c.toNat < 256 := c.toNat_lt
      clear hB hdrop hget
      by_cases hdig : 48 ≤ c.toNat ∧ c.toNat ≤ 57
      · have hdd : dg c.toNat = some (c.toNat - 48) := if_pos hdig
        obtain ⟨hd0, hd1⟩ := hdig
        by_cases hcut : 1844674407370955162 ≤ acc
        · have hF := pu_cut (r := bs.drop (k + 1)) hdd (show ¬ 10 ≤ c.toNat - 48 by omega) (show cut 10 ≤ acc by rw [hct]; exact hcut)
          rw [hF] at hdec
          have icut : 1844674407370955162 ≤ a := by omega
          clear hcut hacc hF ha hct
          go_wp2_with (first | (go_at_call 123; refine (lower_any _ _).mono ?_; rintro e w' ⟨rfl, rfl⟩))
          all_goals go_ret2
          all_goals exact ⟨by first | rfl | (rw [hdec]; rfl), HBW.out⟩
        · have hcut' : ¬ cut 10 ≤ acc := by rw [hct]; exact hcut
          by_cases hov : 18446744073709551616 ≤ acc * 10 + (c.toNat - 48)
          · have hF := pu_over (r := bs.drop (k + 1)) hdd (show ¬ 10 ≤ c.toNat - 48 by omega) hcut' hov
            rw [hF] at hdec
            have icut : a < 1844674407370955162 := by omega
            have iov : 18446744073709551616 ≤ a * 10 + ((c.toNat : Int) - 48) := by omega
            have hwr : IntKind.u64.wrap (a * 10 + ((c.toNat : Int) - 48)) = a * 10 + ((c.toNat : Int) - 48) - 18446744073709551616 := by
              rw [IntKind.wrap_u64]
              omega
            clear hcut hcut' hacc hF hov ha hct
            go_wp2_with (first | (go_at_call 123; refine (lower_any _ _).mono ?_; rintro e w' ⟨rfl, rfl⟩))
            all_goals go_ret2
            all_goals exact ⟨by first | rfl | (rw [hdec]; rfl), HBW.out⟩
          · have hF := pu_step (r := bs.drop (k + 1)) hdd (show ¬ 10 ≤ c.toNat - 48 by omega) hcut' hov
            have HN : Hid (a * 10 + ((c.toNat : Int) - 48) = ((acc * 10 + (c.toNat - 48) : Nat) : Int) ∧ acc * 10 + (c.toNat - 48) < 18446744073709551616 ∧ pu 10 0 bs = pu 10 (acc * 10 + (c.toNat - 48)) (bs.drop (k + 1))) := Lib.hid ⟨by omega, by omega, hdec.trans hF⟩
            have icut : a < 1844674407370955162 := by omega
            have iov : a * 10 + ((c.toNat : Int) - 48) < 18446744073709551616 := by omega
            clear hcut hcut' hacc hF hov hdec ha hct
            go_wp2_with (first | (go_at_call 123; refine (lower_any _ _).mono ?_; rintro e w' ⟨rfl, rfl⟩))
            all_goals refine ⟨⟨k + 1, acc * 10 + (c.toNat - 48), a * 10 + ((c.toNat : Int) - 48), rfl, (by first | rfl | (congr 1; omega)), (by first | rfl | (congr 1; omega)), by omega, HN⟩, by simp [intOf]; omega⟩
      · by_cases h95 : c.toNat = 95
        · have hdd : dg c.toNat = none := by rw [h95]; decide
          have hF := pu_none (b := 10) (acc := acc) (r := bs.drop (k + 1)) hdd
          rw [hF] at hdec
          have hb95 : Go.bits .or .u8 95 32 = 127 := by decide
          rw [h95] at hc
          clear hacc hF ha hct hdd h95 hdig hc256
          go_wp2_with (first | (go_at_call 123; refine (lower_any _ _).mono ?_; rintro e w' ⟨rfl, rfl⟩))
          all_goals go_ret2
          all_goals exact ⟨by first | rfl | (rw [hdec]; rfl), HBW.out⟩
        have h95b : ((c.toNat : Int) == 95) = false := beq_eq_false_iff_ne.mpr (by omega)
        have hv0 := bits_lo_u8 .or (c.toNat : Int) 32
        have hv1 := bits_hi_u8 .or (c.toNat : Int) 32
        have hlw : ∀ l : Int, l = Go.bits .or .u8 (c.toNat : Int) 32 → (97 ≤ l ∧ l ≤ 122 → dg c.toNat = some (l.toNat - 87)) ∧ (¬ (97 ≤ l ∧ l ≤ 122) → dg c.toNat = none) := fun l hl => by
          subst hl
          refine ⟨fun h => ?_, fun h => ?_⟩
          · unfold dg; rw [if_neg hdig, if_pos (by omega)]
          · unfold dg; rw [if_neg hdig, if_neg (by omega)]
        obtain ⟨l, hl⟩ : ∃ l, l = Go.bits .or .u8 (c.toNat : Int) 32 := ⟨_, rfl⟩
        have hlw := hlw l hl
        rw [← hl] at hv0 hv1
        have hnd : ¬ (48 ≤ (c.toNat : Int) ∧ (c.toNat : Int) ≤ 57) := by omega
        have HNC : Hid (l = Go.bits .or .u8 (c.toNat : Int) 32) := Lib.hid hl
        have CL : Aside0 (∀ W, Calls Tryz.prog 123 #[.int .u8 (c.toNat : Int)] W (Lowd l W)) := ⟨fun W => (lower_any _ _).mono fun e w' h => ⟨by rw [h.1, ← hl], h.2⟩⟩
        clear hl
        have hsp : c.toNat < 48 ∨ 57 < c.toNat := by omega
        by_cases hlet : 97 ≤ l ∧ l ≤ 122
        · have hdd := hlw.1 hlet
          obtain ⟨hl0, hl1⟩ := hlet
          have hF := pu_big (b := 10) (acc := acc) (r := bs.drop (k + 1)) hdd (by omega)
          rw [hF] at hdec
          clear hacc hF ha hct hlw
          go_wp2_with (first | (go_at_call 123; refine (CL.out _).mono ?_; rintro e w' ⟨rfl, rfl⟩))
          all_goals go_ret2
          all_goals exact ⟨by first | rfl | (rw [hdec]; rfl), HBW.out⟩
        · have hdd := hlw.2 hlet
          have hl1 : l < 97 ∨ 122 < l := by omega
          clear hlet
          rcases hl1 with hl1 | hl1
          · have hF := pu_none (b := 10) (acc := acc) (r := bs.drop (k + 1)) hdd
            rw [hF] at hdec
            clear hacc hF ha hct hlw
            go_wp2_with (first | (go_at_call 123; refine (CL.out _).mono ?_; rintro e w' ⟨rfl, rfl⟩))
            all_goals go_ret2
            all_goals exact ⟨by first | rfl | (rw [hdec]; rfl), HBW.out⟩
          · have hF := pu_none (b := 10) (acc := acc) (r := bs.drop (k + 1)) hdd
            rw [hF] at hdec
            clear hacc hF ha hct hlw
            go_wp2_with (first | (go_at_call 123; refine (CL.out _).mono ?_; rintro e w' ⟨rfl, rfl⟩))
            all_goals go_ret2
            all_goals exact ⟨by first | rfl | (rw [hdec]; rfl), HBW.out⟩
    · have hkk : k = t.size := by omega
      subst hkk
      have hF : pu 10 acc (bs.drop t.size) = .ok acc := by rw [List.drop_eq_nil_of_le (by omega)]; rfl
      rw [hF] at hdec
      subst ha
      clear hacc hF a0 a1 hct
      go_wp2_with fail
      go_ret2
      exact ⟨by first | rfl | (rw [hdec]; rfl), HBW.out⟩

set_option maxHeartbeats 32000000 in
set_option maxRecDepth 100000 in
theorem parse_16 (t : ByteArray) (hne : t.size ≠ 0) (hmax : t.size ≤ 9223372036854775806) (w : World) : Calls Tryz.prog 115 #[.string t, .int .i64 16, .int .i64 64] w (PUd t 16 w) := by
  have hemp : t.toList.isEmpty = false := by
    rw [← decide_eq_emptyBytes]
    exact decide_eq_false (fun h => hne (by rw [h]; rfl))
  have hcv := Lib.run_convert_string_bytes (P := Tryz.prog) w 9 123 5 t (u := .string) Tryz.underlying9 Tryz.underlying123 Tryz.underlying5
  have hB : ∀ j, j < t.size → (Lib.bytesWorld w 5 t).cell? ⟨w.heap.size, j, none⟩ = some (.int .u8 (t.data.toList.getD j 0).toNat) := fun j hj => Lib.bytesWorld_cell w 5 t j hj
  have HBW := Aside0.mk (Go.Joins.below_bytesWorld w.heap.size w 5 t (Nat.le_refl _))
  unfold PUd
  obtain ⟨W1, hW1⟩ : ∃ W1, W1 = Lib.bytesWorld w 5 t := ⟨_, rfl⟩
  rw [← hW1] at hcv hB HBW
  clear hW1
  obtain ⟨bs, hL⟩ : ∃ bs, bs = t.data.toList := ⟨_, rfl⟩
  have hLn : bs.length = t.size := by rw [hL, Lib.size_eq]
  rw [← hL] at hB ⊢
  clear hL
  have hmv : IntKind.u64.wrap (IntKind.u64.wrap 18446744073709551616 - 1) = 18446744073709551615 := by
    rw [IntKind.wrap_u64, IntKind.wrap_u64]
    decide
  go_enter Tryz.func115, Tryz.ntmps115
  go_wp2_with fail
  go_loop [12, 13, 101] (fun vu vn vi => ∃ (k acc : Nat) (a : Int), vu = .bool false ∧ vn = .int .u64 a ∧ vi = .int .i64 k ∧ k ≤ t.size ∧ Hid (a = (acc : Int) ∧ acc < 18446744073709551616 ∧ pu 16 0 bs = pu 16 acc (bs.drop k)))
    (fun _ _ vi => t.size - (intOf vi).toNat)
  case atStart => exact ⟨0, 0, 0, rfl, rfl, rfl, by omega, rfl, by omega, rfl⟩
  case round =>
    obtain ⟨k, acc, a, rfl, rfl, rfl, hk, hh⟩ := hrel
    obtain ⟨ha, hacc, hdec⟩ := hh.out
    clear hh
    have a0 : 0 ≤ a := by omega
    have a1 : a < 18446744073709551616 := by omega
    have hct : cut 16 = 1152921504606846976 := by decide
    by_cases hkn : k < t.size
    · have hc := hB k hkn
      have hdrop : bs.drop k = bs[k]'(by omega) :: bs.drop (k + 1) := List.drop_eq_getElem_cons (by omega)
      have hget : bs.getD k 0 = bs[k]'(by omega) := by simp [List.getD, List.getElem?_eq_getElem (show k < bs.length by omega)]
      rw [hdrop] at hdec
      rw [hget] at hc
      generalize bs[k]'(by omega) = c at hc hdec
      have hc256 : c.toNat < 256 := c.toNat_lt
      clear hB hdrop hget
      by_cases hdig : 48 ≤ c.toNat ∧ c.toNat ≤ 57
      · have hdd : dg c.toNat = some (c.toNat - 48) := if_pos hdig
        obtain ⟨hd0, hd1⟩ := hdig
        by_cases hcut : 1152921504606846976 ≤ acc
        · have hF := pu_cut (r := bs.drop (k + 1)) hdd (show ¬ 16 ≤ c.toNat - 48 by omega) (show cut 16 ≤ acc by rw [hct]; exact hcut)
          rw [hF] at hdec
          have icut : 1152921504606846976 ≤ a := by omega
          clear hcut hacc hF ha hct
          go_wp2_with (first | (go_at_call 123; refine (lower_any _ _).mono ?_; rintro e w' ⟨rfl, rfl⟩))
          all_goals go_ret2
          all_goals exact ⟨by first | rfl | (rw [hdec]; rfl), HBW.out⟩
        · have hcut' : ¬ cut 16 ≤ acc := by rw [hct]; exact hcut
          by_cases hov : 18446744073709551616 ≤ acc * 16 + (c.toNat - 48)
          · exact absurd hov (by omega)
          · have hF := pu_step (r := bs.drop (k + 1)) hdd (show ¬ 16 ≤ c.toNat - 48 by omega) hcut' hov
            have HN : Hid (a * 16 + ((c.toNat : Int) - 48) = ((acc * 16 + (c.toNat - 48) : Nat) : Int) ∧ acc * 16 + (c.toNat - 48) < 18446744073709551616 ∧ pu 16 0 bs = pu 16 (acc * 16 + (c.toNat - 48)) (bs.drop (k + 1))) := Lib.hid ⟨by omega, by omega, hdec.trans hF⟩
            have icut : a < 1152921504606846976 := by omega
            have iov : a * 16 + ((c.toNat : Int) - 48) < 18446744073709551616 := by omega
            clear hcut hcut' hacc hF hov hdec ha hct
            go_wp2_with (first | (go_at_call 123; refine (lower_any _ _).mono ?_; rintro e w' ⟨rfl, rfl⟩))
            all_goals refine ⟨⟨k + 1, acc * 16 + (c.toNat - 48), a * 16 + ((c.toNat : Int) - 48), rfl, (by first | rfl | (congr 1; omega)), (by first | rfl | (congr 1; omega)), by omega, HN⟩, by simp [intOf]; omega⟩
      · by_cases h95 : c.toNat = 95
        · have hdd : dg c.toNat = none := by rw [h95]; decide
          have hF := pu_none (b := 16) (acc := acc) (r := bs.drop (k + 1)) hdd
          rw [hF] at hdec
          have hb95 : Go.bits .or .u8 95 32 = 127 := by decide
          rw [h95] at hc
          clear hacc hF ha hct hdd h95 hdig hc256
          go_wp2_with (first | (go_at_call 123; refine (lower_any _ _).mono ?_; rintro e w' ⟨rfl, rfl⟩))
          all_goals go_ret2
          all_goals exact ⟨by first | rfl | (rw [hdec]; rfl), HBW.out⟩
        have h95b : ((c.toNat : Int) == 95) = false := beq_eq_false_iff_ne.mpr (by omega)
        have hv0 := bits_lo_u8 .or (c.toNat : Int) 32
        have hv1 := bits_hi_u8 .or (c.toNat : Int) 32
        have hlw : ∀ l : Int, l = Go.bits .or .u8 (c.toNat : Int) 32 → (97 ≤ l ∧ l ≤ 122 → dg c.toNat = some (l.toNat - 87)) ∧ (¬ (97 ≤ l ∧ l ≤ 122) → dg c.toNat = none) := fun l hl => by
          subst hl
          refine ⟨fun h => ?_, fun h => ?_⟩
          · unfold dg; rw [if_neg hdig, if_pos (by omega)]
          · unfold dg; rw [if_neg hdig, if_neg (by omega)]
        obtain ⟨l, hl⟩ : ∃ l, l = Go.bits .or .u8 (c.toNat : Int) 32 := ⟨_, rfl⟩
        have hlw := hlw l hl
        rw [← hl] at hv0 hv1
        have hnd : ¬ (48 ≤ (c.toNat : Int) ∧ (c.toNat : Int) ≤ 57) := by omega
        have HNC : Hid (l = Go.bits .or .u8 (c.toNat : Int) 32) := Lib.hid hl
        have CL : Aside0 (∀ W, Calls Tryz.prog 123 #[.int .u8 (c.toNat : Int)] W (Lowd l W)) := ⟨fun W => (lower_any _ _).mono fun e w' h => ⟨by rw [h.1, ← hl], h.2⟩⟩
        clear hl
        have hsp : c.toNat < 48 ∨ 57 < c.toNat := by omega
        by_cases hlet : 97 ≤ l ∧ l ≤ 122
        · have hdd := hlw.1 hlet
          obtain ⟨hl0, hl1⟩ := hlet
          by_cases hl6 : l ≤ 102
          · obtain ⟨d, hde⟩ : ∃ d, d = l.toNat - 87 := ⟨_, rfl⟩
            rw [← hde] at hdd
            have hdl : (d : Int) = l - 87 := by omega
            clear hde
            by_cases hcut : 1152921504606846976 ≤ acc
            · have hF := pu_cut (r := bs.drop (k + 1)) hdd (show ¬ 16 ≤ d by omega) (show cut 16 ≤ acc by rw [hct]; exact hcut)
              rw [hF] at hdec
              have icut : 1152921504606846976 ≤ a := by omega
              clear hcut hacc hF ha hct
              go_wp2_with (first | (go_at_call 123; refine (CL.out _).mono ?_; rintro e w' ⟨rfl, rfl⟩))
              all_goals go_ret2
              all_goals exact ⟨by first | rfl | (rw [hdec]; rfl), HBW.out⟩
            · have hcut' : ¬ cut 16 ≤ acc := by rw [hct]; exact hcut
              by_cases hov : 18446744073709551616 ≤ acc * 16 + (d)
              · exact absurd hov (by omega)
              · have hF := pu_step (r := bs.drop (k + 1)) hdd (show ¬ 16 ≤ d by omega) hcut' hov
                have HN : Hid (a * 16 + (l - 97 + 10) = ((acc * 16 + (d) : Nat) : Int) ∧ acc * 16 + (d) < 18446744073709551616 ∧ pu 16 0 bs = pu 16 (acc * 16 + (d)) (bs.drop (k + 1))) := Lib.hid ⟨by omega, by omega, hdec.trans hF⟩
                have icut : a < 1152921504606846976 := by omega
                have iov : a * 16 + (l - 97 + 10) < 18446744073709551616 := by omega
                clear hcut hcut' hacc hF hov hdec ha hct
                go_wp2_with (first | (go_at_call 123; refine (CL.out _).mono ?_; rintro e w' ⟨rfl, rfl⟩))
                all_goals refine ⟨⟨k + 1, acc * 16 + (d), a * 16 + (l - 97 + 10), rfl, (by first | rfl | (congr 1; omega)), (by first | rfl | (congr 1; omega)), by omega, HN⟩, by simp [intOf]; omega⟩
          · have hl6' : 103 ≤ l := by omega
            have hF := pu_big (b := 16) (acc := acc) (r := bs.drop (k + 1)) hdd (by omega)
            rw [hF] at hdec
            clear hacc hF ha hct hlw
            go_wp2_with (first | (go_at_call 123; refine (CL.out _).mono ?_; rintro e w' ⟨rfl, rfl⟩))
            all_goals go_ret2
            all_goals exact ⟨by first | rfl | (rw [hdec]; rfl), HBW.out⟩
        · have hdd := hlw.2 hlet
          have hl1 : l < 97 ∨ 122 < l := by omega
          clear hlet
          rcases hl1 with hl1 | hl1
          · have hF := pu_none (b := 16) (acc := acc) (r := bs.drop (k + 1)) hdd
            rw [hF] at hdec
            clear hacc hF ha hct hlw
            go_wp2_with (first | (go_at_call 123; refine (CL.out _).mono ?_; rintro e w' ⟨rfl, rfl⟩))
            all_goals go_ret2
            all_goals exact ⟨by first | rfl | (rw [hdec]; rfl), HBW.out⟩
          · have hF := pu_none (b := 16) (acc := acc) (r := bs.drop (k + 1)) hdd
            rw [hF] at hdec
            clear hacc hF ha hct hlw
            go_wp2_with (first | (go_at_call 123; refine (CL.out _).mono ?_; rintro e w' ⟨rfl, rfl⟩))
            all_goals go_ret2
            all_goals exact ⟨by first | rfl | (rw [hdec]; rfl), HBW.out⟩
    · have hkk : k = t.size := by omega
      subst hkk
      have hF : pu 16 acc (bs.drop t.size) = .ok acc := by rw [List.drop_eq_nil_of_le (by omega)]; rfl
      rw [hF] at hdec
      subst ha
      clear hacc hF a0 a1 hct
      go_wp2_with fail
      go_ret2
      exact ⟨by first | rfl | (rw [hdec]; rfl), HBW.out⟩

end Go.Proofs.YtlkbhmmelejmjaaGreatDoor.NumParse

/- Numbers: a text without its underscores: the place of a byte, and what zzReplaceAll makes. -/
namespace Go.Proofs.YtlkbhmmelejmjaaGreatDoor.NumStrip
open Go.RowKit Go.Proofs.YtlkbhmmelejmjaaGreatDoorW.PrintWords Go.Proofs.YtlkbhmmelejmjaaGreatDoor.NumKnown Go.Proofs.YtlkbhmmelejmjaaGreatDoor.NumPure
set_option linter.unusedVariables false
set_option linter.unusedSimpArgs false

/-- A text without its underscores. -/
def strip (s : ByteArray) : ByteArray := ⟨(s.data.toList.filter fun b => b != 95).toArray⟩
theorem strip_list (s : ByteArray) : (strip s).data.toList = s.data.toList.filter fun b => b != 95 := by simp [strip]
theorem strip_no (s : ByteArray) : (95 : UInt8) ∉ (strip s).data.toList := by rw [strip_list]; simp
theorem strip_size (s : ByteArray) : (strip s).size ≤ s.size := by rw [Lib.size_eq, strip_list, Lib.size_eq]; exact List.length_filter_le _ _
theorem strip_same {s : ByteArray} (h : (95 : UInt8) ∉ s.data.toList) : strip s = s := by
  have e : (s.data.toList.filter fun b => b != 95) = s.data.toList := by
    rw [List.filter_eq_self]
    intro a ha
    rw [bne_iff_ne]
    rintro rfl
    exact h ha
  unfold strip
  rw [e]

theorem drop_at (s : ByteArray) (i : Nat) (h : i < s.size) : s.data.toList.drop i = s[i] :: s.data.toList.drop (i + 1) := by
  have hl : i < s.data.toList.length := by rw [← Lib.size_eq]; exact h
  rw [List.drop_eq_getElem_cons hl]
  rfl
theorem idx_go {s : ByteArray} {b : UInt8} (hs : s.size ≤ 2305843009213693952) (d : Nat) : ∀ (k i : Nat), s.size - i ≤ d → i ≤ s.size → d + 1 < k →
    (b ∉ s.data.toList.drop i ∧ token_zzIndex.l0 k s ⟨#[b]⟩ (i : Int) = some (-1)) ∨ ∃ j, i ≤ j ∧ (∃ h : j < s.size, s[j] = b) ∧ b ∉ (s.data.toList.drop i).take (j - i) ∧ token_zzIndex.l0 k s ⟨#[b]⟩ (i : Int) = some (j : Int) := by
  induction d with
  | zero =>
    intro k i h1 h2 h3
    obtain ⟨k, rfl⟩ : ∃ m, k = m + 1 := ⟨k - 1, by omega⟩
    have hp1 : ((ByteArray.mk #[b]).size : Int) = 1 := rfl
    have hw : wrap64 ((i : Int) + 1) = ((i + 1 : Nat) : Int) := by unfold wrap64; omega
    refine .inl ⟨?_, ?_⟩
    · rw [List.drop_eq_nil_of_le (by rw [← Lib.size_eq]; omega)]; exact List.not_mem_nil
    · simp only [token_zzIndex.l0, hp1, hw]
      rw [if_neg (by omega)]
  | succ d ih =>
    intro k i h1 h2 h3
    obtain ⟨k, rfl⟩ : ∃ m, k = m + 1 := ⟨k - 1, by omega⟩
    have hp1 : ((ByteArray.mk #[b]).size : Int) = 1 := rfl
    have hw : wrap64 ((i : Int) + 1) = ((i + 1 : Nat) : Int) := by unfold wrap64; omega
    by_cases hi : i < s.size
    · have hd := drop_at s i hi
      have hpc := piece_one s i hi
      have hbt : (ByteArray.mk #[b]).toList = [b] := by rw [Lib.toList_data]
      by_cases hb : s[i] = b
      · refine .inr ⟨i, Nat.le_refl _, ⟨hi, hb⟩, ?_, ?_⟩
        · rw [Nat.sub_self, List.take_zero]; exact List.not_mem_nil
        · simp only [token_zzIndex.l0, hp1, hw]
          rw [if_pos (by omega), if_pos (by omega), if_pos (by omega), if_pos]
          rw [Int.toNat_natCast, Int.toNat_natCast, hpc, hb, hbt]
      · have hstep : token_zzIndex.l0 (k + 1) s ⟨#[b]⟩ (i : Int) = token_zzIndex.l0 k s ⟨#[b]⟩ ((i + 1 : Nat) : Int) := by
          simp only [token_zzIndex.l0, hp1, hw]
          rw [if_pos (by omega), if_pos (by omega), if_pos (by omega), if_neg]
          rw [Int.toNat_natCast, Int.toNat_natCast, hpc, hbt]
          intro hh
          exact hb (List.cons.inj hh).1
        rw [hstep]
        rcases ih k (i + 1) (by omega) (by omega) (by omega) with ⟨hn, he⟩ | ⟨j, hj, hjb, hn, he⟩
        · refine .inl ⟨?_, he⟩
          rw [hd, List.mem_cons]
          rintro (h | h)
          · exact hb h.symm
          · exact hn h
        · refine .inr ⟨j, by omega, hjb, ?_, he⟩
          rw [hd, show j - i = (j - (i + 1)) + 1 by omega, List.take_succ_cons, List.mem_cons]
          rintro (h | h)
          · exact hb h.symm
          · exact hn h
    · refine .inl ⟨?_, ?_⟩
      · rw [List.drop_eq_nil_of_le (by rw [← Lib.size_eq]; omega)]; exact List.not_mem_nil
      · simp only [token_zzIndex.l0, hp1, hw]
        rw [if_neg (by omega)]

theorem filter_take {L : List UInt8} {j : Nat} (h : (95 : UInt8) ∉ L.take j) : (L.take j).filter (fun b => b != 95) = L.take j := by
  rw [List.filter_eq_self]
  intro a ha
  rw [bne_iff_ne]
  rintro rfl
  exact h ha
theorem ext_list (s : ByteArray) (i j : Nat) : (s.extract i j).data.toList = (s.data.toList.drop i).take (j - i) := by
  rw [← Lib.toList_data, Lib.extract_toList]
theorem rep_go (d : Nat) : ∀ (k : Nat) (s : ByteArray) (x : List Int), s.size ≤ d → x.length + s.size < 140737488355328 → s.size + d + 3 < k →
    token_zzReplaceAll.l0 k s ⟨#[95]⟩ ⟨#[]⟩ x = some (strOfNums (x ++ bytesOf (strip s))) := by
  induction d with
  | zero =>
    intro k s x h1 h2 h3
    obtain ⟨k, rfl⟩ : ∃ m, k = m + 1 := ⟨k - 1, by omega⟩
    simp only [token_zzReplaceAll.l0]
    rcases idx_go (s := s) (b := 95) (by omega) s.size k 0 (by omega) (by omega) (by omega) with ⟨hn, he⟩ | ⟨j, hj, ⟨hl, _⟩, _, _⟩
    · rw [List.drop_zero] at hn
      show ((token_zzIndex.l0 k s ⟨#[95]⟩ ((0 : Nat) : Int)).bind _) = _
      rw [he, strip_same hn]
      simp only [Option.bind_some]
      rw [if_pos (by omega), if_pos (by omega)]
    · omega
  | succ d ih =>
    intro k s x h1 h2 h3
    obtain ⟨k, rfl⟩ : ∃ m, k = m + 1 := ⟨k - 1, by omega⟩
    simp only [token_zzReplaceAll.l0]
    rcases idx_go (s := s) (b := 95) (by omega) s.size k 0 (by omega) (by omega) (by omega) with ⟨hn, he⟩ | ⟨j, hj, ⟨hl, hjb⟩, hn, he⟩
    · rw [List.drop_zero] at hn
      show ((token_zzIndex.l0 k s ⟨#[95]⟩ ((0 : Nat) : Int)).bind _) = _
      rw [he, strip_same hn]
      simp only [Option.bind_some]
      rw [if_pos (by omega), if_pos (by omega)]
    · rw [List.drop_zero, Nat.sub_zero] at hn
      show ((token_zzIndex.l0 k s ⟨#[95]⟩ ((0 : Nat) : Int)).bind _) = _
      rw [he]
      have hp1 : ((ByteArray.mk #[95]).size : Int) = 1 := rfl
      have hp0 : (ByteArray.mk #[]).size = 0 := rfl
      have hw : wrap64 ((j : Int) + 1) = ((j + 1 : Nat) : Int) := by unfold wrap64; omega
      have hb0 : bytesOf (ByteArray.mk #[]) = [] := rfl
      have hbl : (bytesOf (s.extract 0 j)).length = j := by
        unfold bytesOf
        rw [List.length_map, ext_list, List.drop_zero, List.length_take, ← Lib.size_eq]
        omega
      have hes : (s.extract 0 j).size ≤ s.size := by rw [ByteArray.size_extract]; omega
      have hes2 : (s.extract (j + 1) s.size).size = s.size - (j + 1) := by rw [ByteArray.size_extract]; omega
      have hes1 : (s.extract 0 j).size = j := by rw [ByteArray.size_extract]; omega
      simp only [Option.bind_some, hp1, hp0, hw, hb0, Int.toNat_natCast, List.append_nil, Nat.add_zero]
      rw [if_neg (by omega), if_pos (by omega), if_pos (by omega), if_pos (by omega), if_pos (by rw [List.length_append, hbl]; omega), if_pos (by omega), if_pos (by omega)]
      rw [ih k (s.extract (j + 1) s.size) _ (by omega) (by rw [List.length_append, hbl]; omega) (by omega)]
      have hst : bytesOf (strip s) = bytesOf (s.extract 0 j) ++ bytesOf (strip (s.extract (j + 1) s.size)) := by
        unfold bytesOf
        rw [← List.map_append, strip_list, strip_list, ext_list, ext_list, List.drop_zero, Nat.sub_zero]
        have hL : s.data.toList = s.data.toList.take j ++ 95 :: s.data.toList.drop (j + 1) := by
          conv => lhs; rw [← List.take_append_drop j s.data.toList, drop_at s j hl, hjb]
        conv => lhs; rw [hL]
        rw [List.filter_append, filter_take hn, List.filter_cons_of_neg (by decide), List.take_of_length_le (l := s.data.toList.drop (j + 1)) (by rw [List.length_drop, ← Lib.size_eq]; omega)]
      rw [hst, List.append_assoc]

def Stp (t : ByteArray) (w : World) (e : Ending) (w' : World) : Prop := e = .returned (.string t) ∧ Below w.heap.size w w'
/-- A text's underscores are taken out. -/
theorem strip_any (s : ByteArray) (hs : s.size ≤ 140737488355327) (w : World) : Calls Tryz.prog 91 #[.string s, .string ⟨#[95]⟩, .string ⟨#[]⟩] w (Stp (strip s) w) := by
  refine (token_zzReplaceAll.calls (2 * s.size + 4) s ⟨#[95]⟩ ⟨#[]⟩ (strip s) w ?_).mono fun e w' hh => ⟨hh.1, hh.2⟩
  have h := rep_go s.size (2 * s.size + 4) s [] (Nat.le_refl _) (by simp; omega) (by omega)
  rw [List.nil_append, strOfNums_bytes] at h
  exact h
end Go.Proofs.YtlkbhmmelejmjaaGreatDoor.NumStrip
