/- Parts of the proof of FnNumberRead, one behind the other: FltAtof4, FltParse, NumParse, NumStrip, ErrShelf, NumErr. Each part says ahead of itself what it proves. -/
import Derived.Test.YtlkbhmmelejmjaaDoorPkFnNumberRead6
import Derived.Test.YtlkbhmmelejmjaaDoorPkFnNumberRead1
import Derived.Lib.AtoiAllMem
import Derived.Lib.Hide
import Derived.Lib.SmallJoins
import Derived.Laws.Strings3
import Derived.Laws.Closers25
import Derived.Laws.Closers25b
import Derived.BigCall
import Derived.BigGuard
import Derived.Shelf.LaysC
import Derived.Shelf.Strconv.ToError
import Derived.Shelf.Strconv.ToErrorRange
import Derived.Test.YtlkbhmmelejmjaaDoorProg
import Derived.Lib.IfaceEq
import Derived.Deep.RegionWith

/- atof64, walked: the fast road twice, the slow road. -/
namespace Go.Proofs.YtlkbhmmelejmjaaDoor.FltAtof4
open Go.RowKit Go.Proofs.YtlkbhmmelejmjaaDoorW.PrintWords Go.Proofs.YtlkbhmmelejmjaaDoor.FltDec Go.Proofs.YtlkbhmmelejmjaaDoor.FltState Go.Proofs.YtlkbhmmelejmjaaDoor.FltBoth Go.Proofs.YtlkbhmmelejmjaaDoor.FltBitsP Go.Proofs.YtlkbhmmelejmjaaDoor.FltBits Go.Proofs.YtlkbhmmelejmjaaDoor.FltTextP Go.Proofs.YtlkbhmmelejmjaaDoor.FltReadA Go.Proofs.YtlkbhmmelejmjaaDoor.FltRead Go.Proofs.YtlkbhmmelejmjaaDoor.FltReadIn Go.Proofs.YtlkbhmmelejmjaaDoor.FltFast Go.Proofs.YtlkbhmmelejmjaaDoor.FltFast2 Go.Proofs.YtlkbhmmelejmjaaDoor.FltNum Go.Proofs.YtlkbhmmelejmjaaDoor.FltHexP Go.Proofs.YtlkbhmmelejmjaaDoor.FltHex Go.Proofs.YtlkbhmmelejmjaaDoor.FltSpecial Go.Proofs.YtlkbhmmelejmjaaDoor.FltAtof Go.Proofs.YtlkbhmmelejmjaaDoor.FltAtof2 Go.Proofs.YtlkbhmmelejmjaaDoor.FltAtof3 Go.Proofs.YtlkbhmmelejmjaaDoor.FltSetB Go.Proofs.YtlkbhmmelejmjaaDoor.FltSet Go.Proofs.YtlkbhmmelejmjaaDoor.FltDecNew
set_option linter.unusedVariables false
set_option linter.unusedSimpArgs false

set_option maxRecDepth 100000 in
theorem set_any (p : Nat) (s : ByteArray) (hsz : s.size ≤ 2200000000) (hus : ∀ i (h : i < s.size), s[i].toNat ≠ 95) (g0 : Nat → Int) (w : World) (hD : Dec w p g0 0 0 false false) : Calls Tryd.prog 59 #[.pointer (some ⟨p, 0, none⟩), .string s] w (SetP p (sgn s.data.toList).2 (sgn s.data.toList).1 w) := by
  by_cases h0 : s.size = 0
  · have hL : s.data.toList.length = s.size := (Lib.size_eq s).symm
    have hemp : s = ByteArray.empty := by
      have : s.data.toList = [] := List.eq_nil_of_length_eq_zero (by omega)
      cases s with | mk d => cases d with | mk l => simp at this; subst this; rfl
    have hN : setF (sgn s.data.toList).2 = none := by rw [hemp]; rfl
    replace hN := Aside0.mk hN
    have hng := hD.ng
    have htr := hD.tr
    have hfz := hD.fz
    go_enter Tryd.func59, Tryd.ntmps59
    go_wp2_with fail
    go_ret
    exact ⟨by rw [hN.out]; rfl, ((Below.refl p w).setCell (p := ⟨p, 802, none⟩) (Nat.le_refl p) _).setCell (p := ⟨p, 803, none⟩) (Nat.le_refl p) _, fun t h => by rw [hN.out] at h; cases h⟩
  · exact set_walk p s (by omega) hsz hus g0 w hD

set_option maxHeartbeats 16000000 in
set_option maxRecDepth 100000 in
theorem atof_slow (B : Nat) (H O X : Nat → Nat) (s : ByteArray) (hsz : s.size ≤ 2200000000) (hus : ∀ i (h : i < s.size), s[i].toNat ≠ 95) (w : World) (hB : B ≤ w.heap.size) (hT : Tabs B H O X w) (hq : spF s.data.toList = none) (r : RR) (hr : readF (sgn s.data.toList).2 = some r) (hx1 : r.hx = false) (hm : ¬ r.man = 0) (he2 : -345 ≤ r.exp) (he3 : r.exp ≤ 310) (htr : r.tr = true) (heq : ((FloatKind.format .f64).order (pfV (fun k => H k) (fun k => O k) r.man r.exp (sgB (sgn s.data.toList).1)) (pfV (fun k => H k) (fun k => O k) (IntKind.u64.wrap (r.man + 1)) r.exp (sgB (sgn s.data.toList).1)) == some .eq) = false) : Calls Tryd.prog 46 #[.string s] w (AtP H O X s w) := by
  have hT9 : (s.extract 0 (s.size - r.rest.length)).data.toList = s.data.toList.take (s.size - r.rest.length) := by
    rw [ByteArray.data_extract, Array.toList_extract]
    show (s.data.toList.drop 0).take (s.size - r.rest.length - 0) = _
    rw [List.drop_zero, Nat.sub_zero]
  have hx9 : (s.extract 0 (s.size - r.rest.length)).size ≤ 2200000000 := by
    rw [Lib.size_eq, hT9]
    have := List.length_take_le (s.size - r.rest.length) s.data.toList
    omega
  have hu9 : ∀ i (h : i < (s.extract 0 (s.size - r.rest.length)).size), (s.extract 0 (s.size - r.rest.length))[i].toNat ≠ 95 := fun i h => by
    have hs := Lib.size_eq s
    have h2 : i < s.size := by
      rw [Lib.size_eq, hT9, List.length_take] at h
      omega
    have e : (s.extract 0 (s.size - r.rest.length))[i] = s[i] := by
      have h3 : (s.extract 0 (s.size - r.rest.length)).data.toList[i]'(by rw [← Lib.size_eq]; exact h) = s.data.toList[i]'(by omega) := by
        simp only [hT9]
        exact List.getElem_take
      exact h3
    rw [e]
    exact hus i h2
  have C := Aside0.mk (sp_none s hsz hq w)
  have CR := Aside0.mk (rd_some s hsz hus r hr)
  have HQ := Aside0.mk (And.intro hq hr)
  have hop := hT.op.2
  have hin := readF_in (L := (sgn s.data.toList).2) (by have h1 := (Lib.size_eq s); have h2 : (sgn s.data.toList).2.length ≤ s.data.toList.length := sgn_len _; omega) hr
  obtain ⟨hm0, hm1, he0, he1⟩ := hin
  obtain ⟨T, hTe⟩ : ∃ T, T = s.data.toList.take (s.size - r.rest.length) := ⟨_, rfl⟩
  obtain ⟨n0, hn0⟩ : ∃ n0, n0 = s.size - r.rest.length := ⟨_, rfl⟩
  have hn1 : n0 ≤ s.size := by omega
  obtain ⟨ng, hng⟩ : ∃ ng, ng = (sgn s.data.toList).1 := ⟨_, rfl⟩
  rw [← hn0, ← hng] at CR
  rw [← hng] at heq
  rw [← hn0] at hT9 hx9 hu9
  rw [← hn0] at hTe
  rw [← hTe] at hT9
  rw [hn0] at hTe
  have HN := Aside0.mk (And.intro hTe (And.intro hn0 hng))
  have HT := Aside0.mk hT
  clear hus hq hr hTe hn0 hng hT
  rw [hx1, htr] at CR
  have qm : (r.man == 0) = false := beq_eq_false_iff_ne.mpr hm
  obtain ⟨F, hFe⟩ : ∃ F, F = pfV (fun k => H k) (fun k => O k) r.man r.exp (sgB ng) := ⟨_, rfl⟩
  obtain ⟨F1, hF1e⟩ : ∃ F1, F1 = pfV (fun k => H k) (fun k => O k) (IntKind.u64.wrap (r.man + 1)) r.exp (sgB ng) := ⟨_, rfl⟩
  have CF := parse_walk B (fun k => H k) (fun k => O k) r.man r.exp (sgB ng) hm0 hm1 he2 he3 w hB HT.out.tt
  have CG := fun W (hW : Below w.heap.size w W) => parse_walk B (fun k => H k) (fun k => O k) (IntKind.u64.wrap (r.man + 1)) r.exp (sgB ng) (wrap_in _).1 (wrap_in _).2 he2 he3 W (Nat.le_trans hB hW.size) (HT.out.tt.keep hW hB)
  rw [← hFe] at CF
  rw [← hF1e] at CG
  replace CF := Aside0.mk CF
  replace CG := Aside0.mk CG
  have HF := Aside0.mk (And.intro hFe hF1e)
  clear hFe hF1e
  rw [← HF.out.1, ← HF.out.2] at heq
  cases ng with
  | true =>
    go_enter Tryd.func46, Tryd.ntmps46
    go_upto_region 25 with (first | (go_at_call 52; refine C.out.mono ?_; rintro e w1 ⟨rfl, v, n, rfl⟩) | (go_at_call 53; refine (CR.out _).mono ?_; rintro e w2 ⟨rfl, rfl⟩) | (go_at_call 61; refine (b2t _).mono ?_; rintro e w3 ⟨rfl, rfl⟩) | (go_at_call 64; refine CF.out.mono ?_; rintro e w5 ⟨rfl, hb5⟩))
    go_upto_region 28 with (first | (go_at_call 64; refine (CG.out _ hb5).mono ?_; rintro e w6 ⟨rfl, hb6⟩))
    have hb6' := hb5.trans (Below.mono hb6 hb5.size)
    have hb7 := hb6'.alloc hb6'.size (.cells Tryd.zeroCells96 96)
    have HB6 := Aside0.mk hb7
    have hpp : B ≤ w6.heap.size := Nat.le_trans hB hb6'.size
    have CS := Aside0.mk (set_any w6.heap.size (s.extract 0 n0) hx9 hu9 _ _ (dec_new w6 w6.heap.size rfl))
    have hsz6 := hb6'.size
    rw [hT9] at CS
    clear hb5 hb6 hb6' hb7
    have hfb := fb_run
    go_wp2_with fail
    refine CS.out.mono ?_
    rintro e w7 ⟨rfl, hb7, hat⟩
    have HB7 := Aside0.mk (HB6.out.trans (Below.mono hb7 hsz6))
    have HAT := Aside0.mk hat
    clear hb7 hat CS
    cases hsf : setF (sgn T).2 with
    | none =>
      have hso : (none : Option St).isSome = false := rfl
      have EQ := Aside0.mk (show numF H O X true T r = (0, 2) by unfold numF slowF; rw [if_neg (by rw [hx1]; decide), if_neg hm, if_neg (by omega), if_neg (by omega), if_neg (by rw [htr]; decide), ← HF.out.1, ← HF.out.2, if_neg (by rw [heq]; decide), hsf])
      have HB8 := HB7
      clear hsf
      go_wp2_with fail
      go_ret3
      refine ⟨HB8.out, ?_⟩
      rw [HQ.out.1]
      show match readF (sgn s.data.toList).2 with | none => _ | some r => _
      rw [HQ.out.2]
      show Ending.returned _ = Ending.returned (.tuple #[.float .f64 (numF H O X (sgn s.data.toList).1 (s.data.toList.take (s.size - r.rest.length)) r).1, .int .i64 ((s.size - r.rest.length : Nat) : Int), erN (numF H O X (sgn s.data.toList).1 (s.data.toList.take (s.size - r.rest.length)) r).2])
      rw [← HN.out.1, ← HN.out.2.1, ← HN.out.2.2, EQ.out]
      rfl
    | some t =>
      have hso : (some t).isSome = true := rfl
      have hat := HAT.out t hsf
      have hT7 := HT.out.keep HB7.out hB
      have hng9 : (sgn T).1 = (sgn T).1 := rfl
      by_cases htn : t.n = 0
      · have EQ := Aside0.mk (show numF H O X true T r = ((signB (sgn T).1 (outB 0 (-1023))).toNat, 0) by unfold numF slowF; rw [if_neg (by rw [hx1]; decide), if_neg hm, if_neg (by omega), if_neg (by omega), if_neg (by rw [htr]; decide), ← HF.out.1, ← HF.out.2, if_neg (by rw [heq]; decide), hsf]; exact if_pos htn)
        have CB := Aside0.mk (zero_walk w6.heap.size 4 B (sgn T).1 t htn hpp w7 hat hT7.fi)
        clear hsf hat hT7 htn
        go_wp2_with (first | (go_at_call 60; refine CB.out.mono ?_; rintro e w8 ⟨rfl, hb8⟩))
        have HB8 := Aside0.mk (HB7.out.trans (Below.mono hb8 hsz6))
        go_ret3
        refine ⟨HB8.out, ?_⟩
        rw [HQ.out.1]
        show match readF (sgn s.data.toList).2 with | none => _ | some r => _
        rw [HQ.out.2]
        show Ending.returned _ = Ending.returned (.tuple #[.float .f64 (numF H O X (sgn s.data.toList).1 (s.data.toList.take (s.size - r.rest.length)) r).1, .int .i64 ((s.size - r.rest.length : Nat) : Int), erN (numF H O X (sgn s.data.toList).1 (s.data.toList.take (s.size - r.rest.length)) r).2])
        rw [← HN.out.1, ← HN.out.2.1, ← HN.out.2.2, EQ.out]
        rfl
      · have hgood : t.Good := (setF_ok hsf).resolve_left htn
        have EQ := Aside0.mk (show numF H O X true T r = ((signB (sgn T).1 (outB (fM t) (fX t))).toNat, if over t then 1 else 0) by unfold numF slowF; rw [if_neg (by rw [hx1]; decide), if_neg hm, if_neg (by omega), if_neg (by omega), if_neg (by rw [htr]; decide), ← HF.out.1, ← HF.out.2, if_neg (by rw [heq]; decide), hsf]; exact if_neg htn)
        have CB := Aside0.mk (bits_walk w6.heap.size 4 B (sgn T).1 t hgood hpp w7 hat hT7.fi hT7.pt hT7.lt)
        obtain ⟨bv, hbv⟩ : ∃ bv, bv = signB (sgn T).1 (outB (fM t) (fX t)) := ⟨_, rfl⟩
        unfold BitsP at CB
        rw [← hbv] at CB EQ
        clear hsf hat hT7 htn hbv
        cases hov : over t with
        | true =>
          rw [hov] at CB EQ
          go_wp2_with (first | (go_at_call 60; refine CB.out.mono ?_; rintro e w8 ⟨rfl, hb8⟩))
          have HB8 := Aside0.mk (HB7.out.trans (Below.mono hb8 hsz6))
          go_ret3
          refine ⟨HB8.out, ?_⟩
          rw [HQ.out.1]
          show match readF (sgn s.data.toList).2 with | none => _ | some r => _
          rw [HQ.out.2]
          show Ending.returned _ = Ending.returned (.tuple #[.float .f64 (numF H O X (sgn s.data.toList).1 (s.data.toList.take (s.size - r.rest.length)) r).1, .int .i64 ((s.size - r.rest.length : Nat) : Int), erN (numF H O X (sgn s.data.toList).1 (s.data.toList.take (s.size - r.rest.length)) r).2])
          rw [← HN.out.1, ← HN.out.2.1, ← HN.out.2.2, EQ.out]
          rfl
        | false =>
          rw [hov] at CB EQ
          go_wp2_with (first | (go_at_call 60; refine CB.out.mono ?_; rintro e w8 ⟨rfl, hb8⟩))
          have HB8 := Aside0.mk (HB7.out.trans (Below.mono hb8 hsz6))
          go_ret3
          refine ⟨HB8.out, ?_⟩
          rw [HQ.out.1]
          show match readF (sgn s.data.toList).2 with | none => _ | some r => _
          rw [HQ.out.2]
          show Ending.returned _ = Ending.returned (.tuple #[.float .f64 (numF H O X (sgn s.data.toList).1 (s.data.toList.take (s.size - r.rest.length)) r).1, .int .i64 ((s.size - r.rest.length : Nat) : Int), erN (numF H O X (sgn s.data.toList).1 (s.data.toList.take (s.size - r.rest.length)) r).2])
          rw [← HN.out.1, ← HN.out.2.1, ← HN.out.2.2, EQ.out]
          rfl
  | false =>
    go_enter Tryd.func46, Tryd.ntmps46
    go_upto_region 25 with (first | (go_at_call 52; refine C.out.mono ?_; rintro e w1 ⟨rfl, v, n, rfl⟩) | (go_at_call 53; refine (CR.out _).mono ?_; rintro e w2 ⟨rfl, rfl⟩) | (go_at_call 61; refine (b2f _).mono ?_; rintro e w3 ⟨rfl, rfl⟩) | (go_at_call 64; refine CF.out.mono ?_; rintro e w5 ⟨rfl, hb5⟩))
    go_upto_region 28 with (first | (go_at_call 64; refine (CG.out _ hb5).mono ?_; rintro e w6 ⟨rfl, hb6⟩))
    have hb6' := hb5.trans (Below.mono hb6 hb5.size)
    have hb7 := hb6'.alloc hb6'.size (.cells Tryd.zeroCells96 96)
    have HB6 := Aside0.mk hb7
    have hpp : B ≤ w6.heap.size := Nat.le_trans hB hb6'.size
    have CS := Aside0.mk (set_any w6.heap.size (s.extract 0 n0) hx9 hu9 _ _ (dec_new w6 w6.heap.size rfl))
    have hsz6 := hb6'.size
    rw [hT9] at CS
    clear hb5 hb6 hb6' hb7
    have hfb := fb_run
    go_wp2_with fail
    refine CS.out.mono ?_
    rintro e w7 ⟨rfl, hb7, hat⟩
    have HB7 := Aside0.mk (HB6.out.trans (Below.mono hb7 hsz6))
    have HAT := Aside0.mk hat
    clear hb7 hat CS
    cases hsf : setF (sgn T).2 with
    | none =>
      have hso : (none : Option St).isSome = false := rfl
      have EQ := Aside0.mk (show numF H O X false T r = (0, 2) by unfold numF slowF; rw [if_neg (by rw [hx1]; decide), if_neg hm, if_neg (by omega), if_neg (by omega), if_neg (by rw [htr]; decide), ← HF.out.1, ← HF.out.2, if_neg (by rw [heq]; decide), hsf])
      have HB8 := HB7
      clear hsf
      go_wp2_with fail
      go_ret3
      refine ⟨HB8.out, ?_⟩
      rw [HQ.out.1]
      show match readF (sgn s.data.toList).2 with | none => _ | some r => _
      rw [HQ.out.2]
      show Ending.returned _ = Ending.returned (.tuple #[.float .f64 (numF H O X (sgn s.data.toList).1 (s.data.toList.take (s.size - r.rest.length)) r).1, .int .i64 ((s.size - r.rest.length : Nat) : Int), erN (numF H O X (sgn s.data.toList).1 (s.data.toList.take (s.size - r.rest.length)) r).2])
      rw [← HN.out.1, ← HN.out.2.1, ← HN.out.2.2, EQ.out]
      rfl
    | some t =>
      have hso : (some t).isSome = true := rfl
      have hat := HAT.out t hsf
      have hT7 := HT.out.keep HB7.out hB
      have hng9 : (sgn T).1 = (sgn T).1 := rfl
      by_cases htn : t.n = 0
      · have EQ := Aside0.mk (show numF H O X false T r = ((signB (sgn T).1 (outB 0 (-1023))).toNat, 0) by unfold numF slowF; rw [if_neg (by rw [hx1]; decide), if_neg hm, if_neg (by omega), if_neg (by omega), if_neg (by rw [htr]; decide), ← HF.out.1, ← HF.out.2, if_neg (by rw [heq]; decide), hsf]; exact if_pos htn)
        have CB := Aside0.mk (zero_walk w6.heap.size 4 B (sgn T).1 t htn hpp w7 hat hT7.fi)
        clear hsf hat hT7 htn
        go_wp2_with (first | (go_at_call 60; refine CB.out.mono ?_; rintro e w8 ⟨rfl, hb8⟩))
        have HB8 := Aside0.mk (HB7.out.trans (Below.mono hb8 hsz6))
        go_ret3
        refine ⟨HB8.out, ?_⟩
        rw [HQ.out.1]
        show match readF (sgn s.data.toList).2 with | none => _ | some r => _
        rw [HQ.out.2]
        show Ending.returned _ = Ending.returned (.tuple #[.float .f64 (numF H O X (sgn s.data.toList).1 (s.data.toList.take (s.size - r.rest.length)) r).1, .int .i64 ((s.size - r.rest.length : Nat) : Int), erN (numF H O X (sgn s.data.toList).1 (s.data.toList.take (s.size - r.rest.length)) r).2])
        rw [← HN.out.1, ← HN.out.2.1, ← HN.out.2.2, EQ.out]
        rfl
      · have hgood : t.Good := (setF_ok hsf).resolve_left htn
        have EQ := Aside0.mk (show numF H O X false T r = ((signB (sgn T).1 (outB (fM t) (fX t))).toNat, if over t then 1 else 0) by unfold numF slowF; rw [if_neg (by rw [hx1]; decide), if_neg hm, if_neg (by omega), if_neg (by omega), if_neg (by rw [htr]; decide), ← HF.out.1, ← HF.out.2, if_neg (by rw [heq]; decide), hsf]; exact if_neg htn)
        have CB := Aside0.mk (bits_walk w6.heap.size 4 B (sgn T).1 t hgood hpp w7 hat hT7.fi hT7.pt hT7.lt)
        obtain ⟨bv, hbv⟩ : ∃ bv, bv = signB (sgn T).1 (outB (fM t) (fX t)) := ⟨_, rfl⟩
        unfold BitsP at CB
        rw [← hbv] at CB EQ
        clear hsf hat hT7 htn hbv
        cases hov : over t with
        | true =>
          rw [hov] at CB EQ
          go_wp2_with (first | (go_at_call 60; refine CB.out.mono ?_; rintro e w8 ⟨rfl, hb8⟩))
          have HB8 := Aside0.mk (HB7.out.trans (Below.mono hb8 hsz6))
          go_ret3
          refine ⟨HB8.out, ?_⟩
          rw [HQ.out.1]
          show match readF (sgn s.data.toList).2 with | none => _ | some r => _
          rw [HQ.out.2]
          show Ending.returned _ = Ending.returned (.tuple #[.float .f64 (numF H O X (sgn s.data.toList).1 (s.data.toList.take (s.size - r.rest.length)) r).1, .int .i64 ((s.size - r.rest.length : Nat) : Int), erN (numF H O X (sgn s.data.toList).1 (s.data.toList.take (s.size - r.rest.length)) r).2])
          rw [← HN.out.1, ← HN.out.2.1, ← HN.out.2.2, EQ.out]
          rfl
        | false =>
          rw [hov] at CB EQ
          go_wp2_with (first | (go_at_call 60; refine CB.out.mono ?_; rintro e w8 ⟨rfl, hb8⟩))
          have HB8 := Aside0.mk (HB7.out.trans (Below.mono hb8 hsz6))
          go_ret3
          refine ⟨HB8.out, ?_⟩
          rw [HQ.out.1]
          show match readF (sgn s.data.toList).2 with | none => _ | some r => _
          rw [HQ.out.2]
          show Ending.returned _ = Ending.returned (.tuple #[.float .f64 (numF H O X (sgn s.data.toList).1 (s.data.toList.take (s.size - r.rest.length)) r).1, .int .i64 ((s.size - r.rest.length : Nat) : Int), erN (numF H O X (sgn s.data.toList).1 (s.data.toList.take (s.size - r.rest.length)) r).2])
          rw [← HN.out.1, ← HN.out.2.1, ← HN.out.2.2, EQ.out]
          rfl

/-- atof64 at every text without underscores. -/
theorem atof_walk (B : Nat) (H O X : Nat → Nat) (s : ByteArray) (hsz : s.size ≤ 2200000000) (hus : ∀ i (h : i < s.size), s[i].toNat ≠ 95) (w : World) (hB : B ≤ w.heap.size) (hT : Tabs B H O X w) : Calls Tryd.prog 46 #[.string s] w (AtP H O X s w) := by
  cases hq : spF s.data.toList with
  | some q => exact atof_special H O X s hsz w q hq
  | none =>
    cases hr : readF (sgn s.data.toList).2 with
    | none => exact atof_none H O X s hsz hus w hq hr
    | some r =>
      cases hx : r.hx with
      | true => exact atof_hex B H O X s hsz hus w hB hT hq r hr hx
      | false =>
        by_cases h1 : r.man = 0
        · exact atof_easy B H O X s hsz hus w hT hq r hr ⟨hx, .inl h1⟩
        · by_cases h2 : 310 < r.exp
          · exact atof_easy B H O X s hsz hus w hT hq r hr ⟨hx, .inr (.inl h2)⟩
          · by_cases h3 : r.exp < -345
            · exact atof_easy B H O X s hsz hus w hT hq r hr ⟨hx, .inr (.inr h3)⟩
            · cases htr : r.tr with
              | false => exact atof_fast B H O X s hsz hus w hB hT hq r hr hx h1 (by omega) (by omega) htr
              | true =>
                cases he : ((FloatKind.format .f64).order (pfV (fun k => H k) (fun k => O k) r.man r.exp (sgB (sgn s.data.toList).1)) (pfV (fun k => H k) (fun k => O k) (IntKind.u64.wrap (r.man + 1)) r.exp (sgB (sgn s.data.toList).1)) == some .eq) with
                | true => exact atof_same B H O X s hsz hus w hB hT hq r hr hx h1 (by omega) (by omega) htr he
                | false => exact atof_slow B H O X s hsz hus w hB hT hq r hr hx h1 (by omega) (by omega) htr he
end Go.Proofs.YtlkbhmmelejmjaaDoor.FltAtof4

/- ParseFloat of package internal/strconv, walked. -/
namespace Go.Proofs.YtlkbhmmelejmjaaDoor.FltParse
open Go.RowKit Go.Proofs.YtlkbhmmelejmjaaDoorW.PrintWords Go.Proofs.YtlkbhmmelejmjaaDoor.FltDec Go.Proofs.YtlkbhmmelejmjaaDoor.FltTextP Go.Proofs.YtlkbhmmelejmjaaDoor.FltSpecial Go.Proofs.YtlkbhmmelejmjaaDoor.FltAtof Go.Proofs.YtlkbhmmelejmjaaDoor.FltAtof4
set_option linter.unusedVariables false
set_option linter.unusedSimpArgs false

/-- What atof64 gives, in one form: the float, how much was read, the kind of the error. -/
def At3 (H O X : Nat → Nat) (s : ByteArray) (w : World) (e : Ending) (w' : World) : Prop := Below w.heap.size w w' ∧ ∃ (v : Nat) (n : Int) (k : Nat), e = .returned (.tuple #[.float .f64 v, .int .i64 n, erN k]) ∧
  match spF s.data.toList with
  | some q => v = q.1 ∧ n = (q.2 : Nat) ∧ k = 0
  | none => match readF (sgn s.data.toList).2 with
    | none => v = 0 ∧ k = 2
    | some r => v = (numF H O X (sgn s.data.toList).1 (s.data.toList.take (s.size - r.rest.length)) r).1 ∧ n = ((s.size - r.rest.length : Nat) : Int) ∧ k = (numF H O X (sgn s.data.toList).1 (s.data.toList.take (s.size - r.rest.length)) r).2
theorem at3 {H O X : Nat → Nat} {s : ByteArray} {w : World} {e : Ending} {w' : World} (h : AtP H O X s w e w') : At3 H O X s w e w' := by
  obtain ⟨hb, h⟩ := h
  refine ⟨hb, ?_⟩
  revert h
  cases spF s.data.toList with
  | some q => exact fun h => ⟨q.1, _, 0, h, rfl, rfl, rfl⟩
  | none =>
    cases readF (sgn s.data.toList).2 with
    | none => exact fun ⟨n, h⟩ => ⟨0, n, 2, h, rfl, rfl⟩
    | some r => exact fun h => ⟨_, _, _, h, rfl, rfl, rfl⟩
/-- What ParseFloat gives: the float and the kind of the error. -/
def parF (H O X : Nat → Nat) (s : ByteArray) : Nat × Nat :=
  match spF s.data.toList with
  | some q => if q.2 = s.size then (q.1, 0) else (0, 2)
  | none => match readF (sgn s.data.toList).2 with
    | none => (0, 2)
    | some r => if s.size - r.rest.length = s.size then numF H O X (sgn s.data.toList).1 (s.data.toList.take (s.size - r.rest.length)) r else (0, 2)
def PaP (q : Nat × Nat) (w : World) (e : Ending) (w' : World) : Prop := Below w.heap.size w w' ∧ e = .returned (.tuple #[.float .f64 q.1, erN q.2])

set_option maxRecDepth 100000 in
theorem prefix_walk (B : Nat) (H O X : Nat → Nat) (s : ByteArray) (hsz : s.size ≤ 2200000000) (hus : ∀ i (h : i < s.size), s[i].toNat ≠ 95) (w : World) (hB : B ≤ w.heap.size) (hT : Tabs B H O X w) : Calls Tryd.prog 34 #[.string s, .int .i64 64] w (At3 H O X s w) := by
  have C := Aside0.mk (atof_walk B H O X s hsz hus w hB hT)
  clear hus hT
  go_enter Tryd.func34, Tryd.ntmps34
  go_wp2_with (first | (go_at_call 46; refine C.out.mono ?_; rintro e w1 hAt; have H3 := Aside0.mk (at3 hAt); obtain ⟨hb3, v, n, k, rfl, h3⟩ := at3 hAt; clear hAt; replace h3 := Aside0.mk h3))
  go_ret3
  exact ⟨hb3, v, n, k, rfl, h3.out⟩

set_option maxRecDepth 100000 in
theorem parse_walk (B : Nat) (H O X : Nat → Nat) (s : ByteArray) (hsz : s.size ≤ 2200000000) (hus : ∀ i (h : i < s.size), s[i].toNat ≠ 95) (w : World) (hB : B ≤ w.heap.size) (hT : Tabs B H O X w) : Calls Tryd.prog 23 #[.string s, .int .i64 64] w (PaP (parF H O X s) w) := by
  have C := Aside0.mk (prefix_walk B H O X s hsz hus w hB hT)
  clear hus hT
  go_enter Tryd.func23, Tryd.ntmps23
  go_upto_region 2 with (first | (go_at_call 34; refine C.out.mono ?_; rintro e w1 ⟨hb3, v, n, k, rfl, h3⟩; replace h3 := Aside0.mk h3))
  by_cases hn : n = (s.size : Int)
  · have q1 : (n != (s.size : Int)) = false := by rw [hn]; simp
    have HN := Aside0.mk hn
    have hP : parF H O X s = (v, k) := by
      have h := h3.out
      unfold parF
      revert h
      cases spF s.data.toList with
      | some q => rintro ⟨rfl, h2, rfl⟩; exact if_pos (by omega)
      | none =>
        cases readF (sgn s.data.toList).2 with
        | none => rintro ⟨rfl, rfl⟩; rfl
        | some r => rintro ⟨rfl, h2, rfl⟩; exact if_pos (by omega)
    replace hP := Aside0.mk hP
    clear hn h3
    go_wp2_with fail
    go_ret2
    exact ⟨hb3, by rw [hP.out]; rfl⟩
  · have q1 : (n != (s.size : Int)) = true := bne_iff_ne.mpr hn
    have hP : parF H O X s = (0, 2) := by
      have h := h3.out
      unfold parF
      revert h
      cases spF s.data.toList with
      | some q => rintro ⟨rfl, h2, rfl⟩; exact if_neg (by omega)
      | none =>
        cases readF (sgn s.data.toList).2 with
        | none => rintro ⟨rfl, rfl⟩; rfl
        | some r => rintro ⟨rfl, h2, rfl⟩; exact if_neg (by omega)
    replace hP := Aside0.mk hP
    clear hn h3
    go_wp2_with fail
    go_ret2
    exact ⟨hb3, by rw [hP.out]; rfl⟩

set_option maxRecDepth 100000 in
/-- strconv.ParseFloat where there is no error. -/
theorem float_ok (B : Nat) (H O X : Nat → Nat) (s : ByteArray) (hsz : s.size ≤ 2200000000) (hus : ∀ i (h : i < s.size), s[i].toNat ≠ 95) (w : World) (hB : B ≤ w.heap.size) (hT : Tabs B H O X w) (hk : (parF H O X s).2 = 0) : Calls Tryd.prog 19 #[.string s, .int .i64 64] w (fun e w' => Below w.heap.size w w' ∧ e = .returned (.tuple #[.float .f64 (parF H O X s).1, .nilIface])) := by
  have C := parse_walk B H O X s hsz hus w hB hT
  unfold PaP at C
  rw [hk] at C
  obtain ⟨v, hv⟩ : ∃ v, v = (parF H O X s).1 := ⟨_, rfl⟩
  rw [← hv] at C ⊢
  have C := Aside0.mk C
  clear hus hT hk hv
  go_enter Tryd.func19, Tryd.ntmps19
  go_wp2_with (first | (go_at_call 23; refine C.out.mono ?_; rintro e w1 ⟨hb3, rfl⟩; rw [show erN 0 = .nilIface from rfl]))
  go_ret2
  exact ⟨hb3, rfl⟩
end Go.Proofs.YtlkbhmmelejmjaaDoor.FltParse

/- Numbers: internal/strconv.ParseUint at the bases 2, 8, 10 and 16, for 64 bits, at any text that is not empty. (Written by wip/tools/numparse.py.) -/
namespace Go.Proofs.YtlkbhmmelejmjaaDoor.NumParse
open Go.RowKit Go.Proofs.YtlkbhmmelejmjaaDoorW.PrintWords Go.Proofs.YtlkbhmmelejmjaaDoor.NumKnown
set_option linter.unusedVariables false
set_option linter.unusedSimpArgs false

/-- The value of a digit. -/
def dg (c : Nat) : Option Nat := if 48 ≤ c ∧ c ≤ 57 then some (c - 48) else if 97 ≤ (Go.bits .or .u8 c 32).toNat ∧ (Go.bits .or .u8 c 32).toNat ≤ 122 then some ((Go.bits .or .u8 c 32).toNat - 87) else none
def cut (b : Nat) : Nat := 18446744073709551615 / b + 1
/-- A number, one too great, none. -/
inductive En where
  | ok (n : Nat)
  | range
  | bad
def uTup (T : TypeId) : En → Value
  | .ok n => .tuple #[.int .u64 n, .nilIface]
  | .bad => .tuple #[.int .u64 0, .iface T (.int .i64 2)]
  | .range => .tuple #[.int .u64 18446744073709551615, .iface T (.int .i64 1)]
/-- What the digits of a base spell, behind 'acc'. -/
def pu (b acc : Nat) : List UInt8 → En
  | [] => .ok acc
  | c :: r => match dg c.toNat with
    | none => .bad
    | some d => if b ≤ d then .bad else if cut b ≤ acc then .range else if 18446744073709551616 ≤ acc * b + d then .range else pu b (acc * b + d) r
theorem pu_none {b acc : Nat} {c : UInt8} {r : List UInt8} (h : dg c.toNat = none) : pu b acc (c :: r) = .bad := by simp only [pu, h]
theorem pu_big {b acc d : Nat} {c : UInt8} {r : List UInt8} (h : dg c.toNat = some d) (hd : b ≤ d) : pu b acc (c :: r) = .bad := by simp only [pu, h]; rw [if_pos hd]
theorem pu_cut {b acc d : Nat} {c : UInt8} {r : List UInt8} (h : dg c.toNat = some d) (hd : ¬ b ≤ d) (hc : cut b ≤ acc) : pu b acc (c :: r) = .range := by simp only [pu, h]; rw [if_neg hd, if_pos hc]
theorem pu_over {b acc d : Nat} {c : UInt8} {r : List UInt8} (h : dg c.toNat = some d) (hd : ¬ b ≤ d) (hc : ¬ cut b ≤ acc) (ho : 18446744073709551616 ≤ acc * b + d) : pu b acc (c :: r) = .range := by simp only [pu, h]; rw [if_neg hd, if_neg hc, if_pos ho]
theorem pu_step {b acc d : Nat} {c : UInt8} {r : List UInt8} (h : dg c.toNat = some d) (hd : ¬ b ≤ d) (hc : ¬ cut b ≤ acc) (ho : ¬ 18446744073709551616 ≤ acc * b + d) : pu b acc (c :: r) = pu b (acc * b + d) r := by simp only [pu, h]; rw [if_neg hd, if_neg hc, if_neg ho]

/-- What ParseUint gives of a text that is not empty. -/
def PUd (t : ByteArray) (b : Nat) (w : World) (e : Ending) (w' : World) : Prop := e = .returned (uTup 65 (pu b 0 t.data.toList)) ∧ Below w.heap.size w w'
def Lowd (l : Int) (w : World) (e : Ending) (w' : World) : Prop := e = .returned (.int .u8 l) ∧ w = w'
theorem lower_any (c : Int) (w : World) : Calls Tryd.prog 50 #[.int .u8 c] w (Lowd (Go.bits .or .u8 c 32) w) := by
  go_enter Tryd.func50, Tryd.ntmps50
  go_wp2
  go_ret
  exact ⟨rfl, rfl⟩

set_option maxHeartbeats 32000000 in
set_option maxRecDepth 100000 in
theorem parse_2 (t : ByteArray) (hne : t.size ≠ 0) (hmax : t.size ≤ 9223372036854775806) (w : World) : Calls Tryd.prog 44 #[.string t, .int .i64 2, .int .i64 64] w (PUd t 2 w) := by
  have hemp : t.toList.isEmpty = false := by
    rw [← decide_eq_emptyBytes]
    exact decide_eq_false (fun h => hne (by rw [h]; rfl))
  have hcv := Lib.run_convert_string_bytes (P := Tryd.prog) w 9 44 5 t (u := .string) Tryd.underlying9 Tryd.underlying44 Tryd.underlying5
  have hB : ∀ j, j < t.size → (Lib.bytesWorld w 5 t).cell? ⟨w.heap.size, j, none⟩ = some (.int .u8 (t.data.toList.getD j 0).toNat) := fun j hj => Lib.bytesWorld_cell w 5 t j hj
  have HBW := Aside0.mk (Go.Joins.below_bytesWorld w.heap.size w 5 t (Nat.le_refl _))
  unfold PUd
  obtain ⟨W1, hW1⟩ : ∃ W1, W1 = Lib.bytesWorld w 5 t := ⟨_, rfl⟩
  rw [← hW1] at hcv hB HBW
  clear hW1
  obtain ⟨bs, hL⟩ : ∃ bs, bs = t.data.toList := ⟨_, rfl⟩
  have hLn : bs.length = t.size := by rw [hL, Lib.size_eq]
  rw [← hL] at hB ⊢
  clear hL
  have hmv : IntKind.u64.wrap (IntKind.u64.wrap 18446744073709551616 - 1) = 18446744073709551615 := by
    rw [IntKind.wrap_u64, IntKind.wrap_u64]
    decide
  go_enter Tryd.func44, Tryd.ntmps44
  go_wp2_with fail
  go_loop [12, 13, 101] (fun vu vn vi => ∃ (k acc : Nat) (a : Int), vu = .bool false ∧ vn = .int .u64 a ∧ vi = .int .i64 k ∧ k ≤ t.size ∧ Hid (a = (acc : Int) ∧ acc < 18446744073709551616 ∧ pu 2 0 bs = pu 2 acc (bs.drop k)))
    (fun _ _ vi => t.size - (intOf vi).toNat)
  case atStart => exact ⟨0, 0, 0, rfl, rfl, rfl, by omega, rfl, by omega, rfl⟩
  case round =>
    obtain ⟨k, acc, a, rfl, rfl, rfl, hk, hh⟩ := hrel
    obtain ⟨ha, hacc, hdec⟩ := hh.out
    clear hh
    have a0 : 0 ≤ a := by omega
    have a1 : a < 18446744073709551616 := by omega
    have hct : cut 2 = 9223372036854775808 := by decide
    by_cases hkn : k < t.size
    · have hc := hB k hkn
      have hdrop : bs.drop k = bs[k]'(by omega) :: bs.drop (k + 1) := List.drop_eq_getElem_cons (by omega)
      have hget : bs.getD k 0 = bs[k]'(by omega) := by simp [List.getD, List.getElem?_eq_getElem (show k < bs.length by omega)]
      rw [hdrop] at hdec
      rw [hget] at hc
      generalize bs[k]'(by omega) = c at hc hdec
      have hc256 : c.toNat < 256 := c.toNat_lt
      clear hB hdrop hget
      by_cases hdig : 48 ≤ c.toNat ∧ c.toNat ≤ 57
      · have hdd : dg c.toNat = some (c.toNat - 48) := if_pos hdig
        obtain ⟨hd0, hd1⟩ := hdig
        by_cases hdb : c.toNat < 50
        · have hdb' : ¬ 50 ≤ c.toNat := by omega
          by_cases hcut : 9223372036854775808 ≤ acc
          · have hF := pu_cut (r := bs.drop (k + 1)) hdd (show ¬ 2 ≤ c.toNat - 48 by omega) (show cut 2 ≤ acc by rw [hct]; exact hcut)
            rw [hF] at hdec
            have icut : 9223372036854775808 ≤ a := by omega
            clear hcut hacc hF ha hct
            go_wp2_with (first | (go_at_call 50; refine (lower_any _ _).mono ?_; rintro e w' ⟨rfl, rfl⟩))
            all_goals go_ret2
            all_goals exact ⟨by first | rfl | (rw [hdec]; rfl), HBW.out⟩
          · have hcut' : ¬ cut 2 ≤ acc := by rw [hct]; exact hcut
            by_cases hov : 18446744073709551616 ≤ acc * 2 + (c.toNat - 48)
            · exact absurd hov (by omega)
            · have hF := pu_step (r := bs.drop (k + 1)) hdd (show ¬ 2 ≤ c.toNat - 48 by omega) hcut' hov
              have HN : Hid (a * 2 + ((c.toNat : Int) - 48) = ((acc * 2 + (c.toNat - 48) : Nat) : Int) ∧ acc * 2 + (c.toNat - 48) < 18446744073709551616 ∧ pu 2 0 bs = pu 2 (acc * 2 + (c.toNat - 48)) (bs.drop (k + 1))) := Lib.hid ⟨by omega, by omega, hdec.trans hF⟩
              have icut : a < 9223372036854775808 := by omega
              have iov : a * 2 + ((c.toNat : Int) - 48) < 18446744073709551616 := by omega
              clear hcut hcut' hacc hF hov hdec ha hct
              go_wp2_with (first | (go_at_call 50; refine (lower_any _ _).mono ?_; rintro e w' ⟨rfl, rfl⟩))
              all_goals refine ⟨⟨k + 1, acc * 2 + (c.toNat - 48), a * 2 + ((c.toNat : Int) - 48), rfl, (by first | rfl | (congr 1; omega)), (by first | rfl | (congr 1; omega)), by omega, HN⟩, by simp [intOf]; omega⟩
        · have hdb' : 50 ≤ c.toNat := by omega
          have hF := pu_big (b := 2) (acc := acc) (r := bs.drop (k + 1)) hdd (by omega)
          rw [hF] at hdec
          clear hacc hF ha hct
          go_wp2_with (first | (go_at_call 50; refine (lower_any _ _).mono ?_; rintro e w' ⟨rfl, rfl⟩))
          all_goals go_ret2
          all_goals exact ⟨by first | rfl | (rw [hdec]; rfl), HBW.out⟩
      · by_cases h95 : c.toNat = 95
        · have hdd : dg c.toNat = none := by rw [h95]; decide
          have hF := pu_none (b := 2) (acc := acc) (r := bs.drop (k + 1)) hdd
          rw [hF] at hdec
          have hb95 : Go.bits .or .u8 95 32 = 127 := by decide
          rw [h95] at hc
          clear hacc hF ha hct hdd h95 hdig hc256
          go_wp2_with (first | (go_at_call 50; refine (lower_any _ _).mono ?_; rintro e w' ⟨rfl, rfl⟩))
          all_goals go_ret2
          all_goals exact ⟨by first | rfl | (rw [hdec]; rfl), HBW.out⟩
        have h95b : ((c.toNat : Int) == 95) = false := beq_eq_false_iff_ne.mpr (by omega)
        have hv0 := bits_lo_u8 .or (c.toNat : Int) 32
        have hv1 := bits_hi_u8 .or (c.toNat : Int) 32
        have hlw : ∀ l : Int, l = Go.bits .or .u8 (c.toNat : Int) 32 → (97 ≤ l ∧ l ≤ 122 → dg c.toNat = some (l.toNat - 87)) ∧ (¬ (97 ≤ l ∧ l ≤ 122) → dg c.toNat = none) := fun l hl => by
          subst hl
          refine ⟨fun h => ?_, fun h => ?_⟩
          · unfold dg; rw [if_neg hdig, if_pos (by omega)]
          · unfold dg; rw [if_neg hdig, if_neg (by omega)]
        obtain ⟨l, hl⟩ : ∃ l, l = Go.bits .or .u8 (c.toNat : Int) 32 := ⟨_, rfl⟩
        have hlw := hlw l hl
        rw [← hl] at hv0 hv1
        have hnd : ¬ (48 ≤ (c.toNat : Int) ∧ (c.toNat : Int) ≤ 57) := by omega
        have HNC : Hid (l = Go.bits .or .u8 (c.toNat : Int) 32) := Lib.hid hl
        have CL : Aside0 (∀ W, Calls Tryd.prog 50 #[.int .u8 (c.toNat : Int)] W (Lowd l W)) := ⟨fun W => (lower_any _ _).mono fun e w' h => ⟨by rw [h.1, ← hl], h.2⟩⟩
        clear hl
        have hsp : c.toNat < 48 ∨ 57 < c.toNat := by omega
        by_cases hlet : 97 ≤ l ∧ l ≤ 122
        · have hdd := hlw.1 hlet
          obtain ⟨hl0, hl1⟩ := hlet
          have hF := pu_big (b := 2) (acc := acc) (r := bs.drop (k + 1)) hdd (by omega)
          rw [hF] at hdec
          clear hacc hF ha hct hlw
          go_wp2_with (first | (go_at_call 50; refine (CL.out _).mono ?_; rintro e w' ⟨rfl, rfl⟩))
          all_goals go_ret2
          all_goals exact ⟨by first | rfl | (rw [hdec]; rfl), HBW.out⟩
        · have hdd := hlw.2 hlet
          have hl1 : l < 97 ∨ 122 < l := by omega
          clear hlet
          rcases hl1 with hl1 | hl1
          · have hF := pu_none (b := 2) (acc := acc) (r := bs.drop (k + 1)) hdd
            rw [hF] at hdec
            clear hacc hF ha hct hlw
            go_wp2_with (first | (go_at_call 50; refine (CL.out _).mono ?_; rintro e w' ⟨rfl, rfl⟩))
            all_goals go_ret2
            all_goals exact ⟨by first | rfl | (rw [hdec]; rfl), HBW.out⟩
          · have hF := pu_none (b := 2) (acc := acc) (r := bs.drop (k + 1)) hdd
            rw [hF] at hdec
            clear hacc hF ha hct hlw
            go_wp2_with (first | (go_at_call 50; refine (CL.out _).mono ?_; rintro e w' ⟨rfl, rfl⟩))
            all_goals go_ret2
            all_goals exact ⟨by first | rfl | (rw [hdec]; rfl), HBW.out⟩
    · have hkk : k = t.size := by omega
      subst hkk
      have hF : pu 2 acc (bs.drop t.size) = .ok acc := by rw [List.drop_eq_nil_of_le (by omega)]; rfl
      rw [hF] at hdec
      subst ha
      clear hacc hF a0 a1 hct
      go_wp2_with fail
      go_ret2
      exact ⟨by first | rfl | (rw [hdec]; rfl), HBW.out⟩

set_option maxHeartbeats 32000000 in
set_option maxRecDepth 100000 in
theorem parse_8 (t : ByteArray) (hne : t.size ≠ 0) (hmax : t.size ≤ 9223372036854775806) (w : World) : Calls Tryd.prog 44 #[.string t, .int .i64 8, .int .i64 64] w (PUd t 8 w) := by
  have hemp : t.toList.isEmpty = false := by
    rw [← decide_eq_emptyBytes]
    exact decide_eq_false (fun h => hne (by rw [h]; rfl))
  have hcv := Lib.run_convert_string_bytes (P := Tryd.prog) w 9 44 5 t (u := .string) Tryd.underlying9 Tryd.underlying44 Tryd.underlying5
  have hB : ∀ j, j < t.size → (Lib.bytesWorld w 5 t).cell? ⟨w.heap.size, j, none⟩ = some (.int .u8 (t.data.toList.getD j 0).toNat) := fun j hj => Lib.bytesWorld_cell w 5 t j hj
  have HBW := Aside0.mk (Go.Joins.below_bytesWorld w.heap.size w 5 t (Nat.le_refl _))
  unfold PUd
  obtain ⟨W1, hW1⟩ : ∃ W1, W1 = Lib.bytesWorld w 5 t := ⟨_, rfl⟩
  rw [← hW1] at hcv hB HBW
  clear hW1
  obtain ⟨bs, hL⟩ : ∃ bs, bs = t.data.toList := ⟨_, rfl⟩
  have hLn : bs.length = t.size := by rw [hL, Lib.size_eq]
  rw [← hL] at hB ⊢
  clear hL
  have hmv : IntKind.u64.wrap (IntKind.u64.wrap 18446744073709551616 - 1) = 18446744073709551615 := by
    rw [IntKind.wrap_u64, IntKind.wrap_u64]
    decide
  go_enter Tryd.func44, Tryd.ntmps44
  go_wp2_with fail
  go_loop [12, 13, 101] (fun vu vn vi => ∃ (k acc : Nat) (a : Int), vu = .bool false ∧ vn = .int .u64 a ∧ vi = .int .i64 k ∧ k ≤ t.size ∧ Hid (a = (acc : Int) ∧ acc < 18446744073709551616 ∧ pu 8 0 bs = pu 8 acc (bs.drop k)))
    (fun _ _ vi => t.size - (intOf vi).toNat)
  case atStart => exact ⟨0, 0, 0, rfl, rfl, rfl, by omega, rfl, by omega, rfl⟩
  case round =>
    obtain ⟨k, acc, a, rfl, rfl, rfl, hk, hh⟩ := hrel
    obtain ⟨ha, hacc, hdec⟩ := hh.out
    clear hh
    have a0 : 0 ≤ a := by omega
    have a1 : a < 18446744073709551616 := by omega
    have hct : cut 8 = 2305843009213693952 := by decide
    by_cases hkn : k < t.size
    · have hc := hB k hkn
      have hdrop : bs.drop k = bs[k]'(by omega) :: bs.drop (k + 1) := List.drop_eq_getElem_cons (by omega)
      have hget : bs.getD k 0 = bs[k]'(by omega) := by simp [List.getD, List.getElem?_eq_getElem (show k < bs.length by omega)]
      rw [hdrop] at hdec
      rw [hget] at hc
      generalize bs[k]'(by omega) = c at hc hdec
      have hc256 : c.toNat < 256 := c.toNat_lt
      clear hB hdrop hget
      by_cases hdig : 48 ≤ c.toNat ∧ c.toNat ≤ 57
      · have hdd : dg c.toNat = some (c.toNat - 48) := if_pos hdig
        obtain ⟨hd0, hd1⟩ := hdig
        by_cases hdb : c.toNat < 56
        · have hdb' : ¬ 56 ≤ c.toNat := by omega
          by_cases hcut : 2305843009213693952 ≤ acc
          · have hF := pu_cut (r := bs.drop (k + 1)) hdd (show ¬ 8 ≤ c.toNat - 48 by omega) (show cut 8 ≤ acc by rw [hct]; exact hcut)
            rw [hF] at hdec
            have icut : 2305843009213693952 ≤ a := by omega
            clear hcut hacc hF ha hct
            go_wp2_with (first | (go_at_call 50; refine (lower_any _ _).mono ?_; rintro e w' ⟨rfl, rfl⟩))
            all_goals go_ret2
            all_goals exact ⟨by first | rfl | (rw [hdec]; rfl), HBW.out⟩
          · have hcut' : ¬ cut 8 ≤ acc := by rw [hct]; exact hcut
            by_cases hov : 18446744073709551616 ≤ acc * 8 + (c.toNat - 48)
            · exact absurd hov (by omega)
            · have hF := pu_step (r := bs.drop (k + 1)) hdd (show ¬ 8 ≤ c.toNat - 48 by omega) hcut' hov
              have HN : Hid (a * 8 + ((c.toNat : Int) - 48) = ((acc * 8 + (c.toNat - 48) : Nat) : Int) ∧ acc * 8 + (c.toNat - 48) < 18446744073709551616 ∧ pu 8 0 bs = pu 8 (acc * 8 + (c.toNat - 48)) (bs.drop (k + 1))) := Lib.hid ⟨by omega, by omega, hdec.trans hF⟩
              have icut : a < 2305843009213693952 := by omega
              have iov : a * 8 + ((c.toNat : Int) - 48) < 18446744073709551616 := by omega
              clear hcut hcut' hacc hF hov hdec ha hct
              go_wp2_with (first | (go_at_call 50; refine (lower_any _ _).mono ?_; rintro e w' ⟨rfl, rfl⟩))
              all_goals refine ⟨⟨k + 1, acc * 8 + (c.toNat - 48), a * 8 + ((c.toNat : Int) - 48), rfl, (by first | rfl | (congr 1; omega)), (by first | rfl | (congr 1; omega)), by omega, HN⟩, by simp [intOf]; omega⟩
        · have hdb' : 56 ≤ c.toNat := by omega
          have hF := pu_big (b := 8) (acc := acc) (r := bs.drop (k + 1)) hdd (by omega)
          rw [hF] at hdec
          clear hacc hF ha hct
          go_wp2_with (first | (go_at_call 50; refine (lower_any _ _).mono ?_; rintro e w' ⟨rfl, rfl⟩))
          all_goals go_ret2
          all_goals exact ⟨by first | rfl | (rw [hdec]; rfl), HBW.out⟩
      · by_cases h95 : c.toNat = 95
        · have hdd : dg c.toNat = none := by rw [h95]; decide
          have hF := pu_none (b := 8) (acc := acc) (r := bs.drop (k + 1)) hdd
          rw [hF] at hdec
          have hb95 : Go.bits .or .u8 95 32 = 127 := by decide
          rw [h95] at hc
          clear hacc hF ha hct hdd h95 hdig hc256
          go_wp2_with (first | (go_at_call 50; refine (lower_any _ _).mono ?_; rintro e w' ⟨rfl, rfl⟩))
          all_goals go_ret2
          all_goals exact ⟨by first | rfl | (rw [hdec]; rfl), HBW.out⟩
        have h95b : ((c.toNat : Int) == 95) = false := beq_eq_false_iff_ne.mpr (by omega)
        have hv0 := bits_lo_u8 .or (c.toNat : Int) 32
        have hv1 := bits_hi_u8 .or (c.toNat : Int) 32
        have hlw : ∀ l : Int, l = Go.bits .or .u8 (c.toNat : Int) 32 → (97 ≤ l ∧ l ≤ 122 → dg c.toNat = some (l.toNat - 87)) ∧ (¬ (97 ≤ l ∧ l ≤ 122) → dg c.toNat = none) := fun l hl => by
          subst hl
          refine ⟨fun h => ?_, fun h => ?_⟩
          · unfold dg; rw [if_neg hdig, if_pos (by omega)]
          · unfold dg; rw [if_neg hdig, if_neg (by omega)]
        obtain ⟨l, hl⟩ : ∃ l, l = Go.bits .or .u8 (c.toNat : Int) 32 := ⟨_, rfl⟩
        have hlw := hlw l hl
        rw [← hl] at hv0 hv1
        have hnd : ¬ (48 ≤ (c.toNat : Int) ∧ (c.toNat : Int) ≤ 57) := by omega
        have HNC : Hid (l = Go.bits .or .u8 (c.toNat : Int) 32) := Lib.hid hl
        have CL : Aside0 (∀ W, Calls Tryd.prog 50 #[.int .u8 (c.toNat : Int)] W (Lowd l W)) := ⟨fun W => (lower_any _ _).mono fun e w' h => ⟨by rw [h.1, ← hl], h.2⟩⟩
        clear hl
        have hsp : c.toNat < 48 ∨ 57 < c.toNat := by omega
        by_cases hlet : 97 ≤ l ∧ l ≤ 122
        · have hdd := hlw.1 hlet
          obtain ⟨hl0, hl1⟩ := hlet
          have hF := pu_big (b := 8) (acc := acc) (r := bs.drop (k + 1)) hdd (by omega)
          rw [hF] at hdec
          clear hacc hF ha hct hlw
          go_wp2_with (first | (go_at_call 50; refine (CL.out _).mono ?_; rintro e w' ⟨rfl, rfl⟩))
          all_goals go_ret2
          all_goals exact ⟨by first | rfl | (rw [hdec]; rfl), HBW.out⟩
        · have hdd := hlw.2 hlet
          have hl1 : l < 97 ∨ 122 < l := by omega
          clear hlet
          rcases hl1 with hl1 | hl1
          · have hF := pu_none (b := 8) (acc := acc) (r := bs.drop (k + 1)) hdd
            rw [hF] at hdec
            clear hacc hF ha hct hlw
            go_wp2_with (first | (go_at_call 50; refine (CL.out _).mono ?_; rintro e w' ⟨rfl, rfl⟩))
            all_goals go_ret2
            all_goals exact ⟨by first | rfl | (rw [hdec]; rfl), HBW.out⟩
          · have hF := pu_none (b := 8) (acc := acc) (r := bs.drop (k + 1)) hdd
            rw [hF] at hdec
            clear hacc hF ha hct hlw
            go_wp2_with (first | (go_at_call 50; refine (CL.out _).mono ?_; rintro e w' ⟨rfl, rfl⟩))
            all_goals go_ret2
            all_goals exact ⟨by first | rfl | (rw [hdec]; rfl), HBW.out⟩
    · have hkk : k = t.size := by omega
      subst hkk
      have hF : pu 8 acc (bs.drop t.size) = .ok acc := by rw [List.drop_eq_nil_of_le (by omega)]; rfl
      rw [hF] at hdec
      subst ha
      clear hacc hF a0 a1 hct
      go_wp2_with fail
      go_ret2
      exact ⟨by first | rfl | (rw [hdec]; rfl), HBW.out⟩

set_option maxHeartbeats 32000000 in
set_option maxRecDepth 100000 in
theorem parse_10 (t : ByteArray) (hne : t.size ≠ 0) (hmax : t.size ≤ 9223372036854775806) (w : World) : Calls Tryd.prog 44 #[.string t, .int .i64 10, .int .i64 64] w (PUd t 10 w) := by
  have hemp : t.toList.isEmpty = false := by
    rw [← decide_eq_emptyBytes]
    exact decide_eq_false (fun h => hne (by rw [h]; rfl))
  have hcv := Lib.run_convert_string_bytes (P := Tryd.prog) w 9 44 5 t (u := .string) Tryd.underlying9 Tryd.underlying44 Tryd.underlying5
  have hB : ∀ j, j < t.size → (Lib.bytesWorld w 5 t).cell? ⟨w.heap.size, j, none⟩ = some (.int .u8 (t.data.toList.getD j 0).toNat) := fun j hj => Lib.bytesWorld_cell w 5 t j hj
  have HBW := Aside0.mk (Go.Joins.below_bytesWorld w.heap.size w 5 t (Nat.le_refl _))
  unfold PUd
  obtain ⟨W1, hW1⟩ : ∃ W1, W1 = Lib.bytesWorld w 5 t := ⟨_, rfl⟩
  rw [← hW1] at hcv hB HBW
  clear hW1
  obtain ⟨bs, hL⟩ : ∃ bs, bs = t.data.toList := ⟨_, rfl⟩
  have hLn : bs.length = t.size := by rw [hL, Lib.size_eq]
  rw [← hL] at hB ⊢
  clear hL
  have hmv : IntKind.u64.wrap (IntKind.u64.wrap 18446744073709551616 - 1) = 18446744073709551615 := by
    rw [IntKind.wrap_u64, IntKind.wrap_u64]
    decide
  go_enter Tryd.func44, Tryd.ntmps44
  go_wp2_with fail
  go_loop [12, 13, 101] (fun vu vn vi => ∃ (k acc : Nat) (a : Int), vu = .bool false ∧ vn = .int .u64 a ∧ vi = .int .i64 k ∧ k ≤ t.size ∧ Hid (a = (acc : Int) ∧ acc < 18446744073709551616 ∧ pu 10 0 bs = pu 10 acc (bs.drop k)))
    (fun _ _ vi => t.size - (intOf vi).toNat)
  case atStart => exact ⟨0, 0, 0, rfl, rfl, rfl, by omega, rfl, by omega, rfl⟩
  case round =>
    obtain ⟨k, acc, a, rfl, rfl, rfl, hk, hh⟩ := hrel
    obtain ⟨ha, hacc, hdec⟩ := hh.out
    clear hh
    have a0 : 0 ≤ a := by omega
    have a1 : a < 18446744073709551616 := by omega
    have hct : cut 10 = 1844674407370955162 := by decide
    by_cases hkn : k < t.size
    · have hc := hB k hkn
      have hdrop : bs.drop k = bs[k]'(by omega) :: bs.drop (k + 1) := List.drop_eq_getElem_cons (by omega)
      have hget : bs.getD k 0 = bs[k]'(by omega) := by simp [List.getD, List.getElem?_eq_getElem (show k < bs.length by omega)]
      rw [hdrop] at hdec
      rw [hget] at hc
      generalize bs[k]'(by omega) = c at hc hdec
      have hc256 : c.toNat < 256 := c.toNat_lt
      clear hB hdrop hget
      by_cases hdig : 48 ≤ c.toNat ∧ c.toNat ≤ 57
      · have hdd : dg c.toNat = some (c.toNat - 48) := if_pos hdig
        obtain ⟨hd0, hd1⟩ := hdig
        by_cases hcut : 1844674407370955162 ≤ acc
        · have hF := pu_cut (r := bs.drop (k + 1)) hdd (show ¬ 10 ≤ c.toNat - 48 by omega) (show cut 10 ≤ acc by rw [hct]; exact hcut)
          rw [hF] at hdec
          have icut : 1844674407370955162 ≤ a := by omega
          clear hcut hacc hF ha hct
          go_wp2_with (first | (go_at_call 50; refine (lower_any _ _).mono ?_; rintro e w' ⟨rfl, rfl⟩))
          all_goals go_ret2
          all_goals exact ⟨by first | rfl | (rw [hdec]; rfl), HBW.out⟩
        · have hcut' : ¬ cut 10 ≤ acc := by rw [hct]; exact hcut
          by_cases hov : 18446744073709551616 ≤ acc * 10 + (c.toNat - 48)
          · have hF := pu_over (r := bs.drop (k + 1)) hdd (show ¬ 10 ≤ c.toNat - 48 by omega) hcut' hov
            rw [hF] at hdec
            have icut : a < 1844674407370955162 := by omega
            have iov : 18446744073709551616 ≤ a * 10 + ((c.toNat : Int) - 48) := by omega
            have hwr : IntKind.u64.wrap (a * 10 + ((c.toNat : Int) - 48)) = a * 10 + ((c.toNat : Int) - 48) - 18446744073709551616 := by
              rw [IntKind.wrap_u64]
              omega
            clear hcut hcut' hacc hF hov ha hct
            go_wp2_with (first | (go_at_call 50; refine (lower_any _ _).mono ?_; rintro e w' ⟨rfl, rfl⟩))
            all_goals go_ret2
            all_goals exact ⟨by first | rfl | (rw [hdec]; rfl), HBW.out⟩
          · have hF := pu_step (r := bs.drop (k + 1)) hdd (show ¬ 10 ≤ c.toNat - 48 by omega) hcut' hov
            have HN : Hid (a * 10 + ((c.toNat : Int) - 48) = ((acc * 10 + (c.toNat - 48) : Nat) : Int) ∧ acc * 10 + (c.toNat - 48) < 18446744073709551616 ∧ pu 10 0 bs = pu 10 (acc * 10 + (c.toNat - 48)) (bs.drop (k + 1))) := Lib.hid ⟨by omega, by omega, hdec.trans hF⟩
            have icut : a < 1844674407370955162 := by omega
            have iov : a * 10 + ((c.toNat : Int) - 48) < 18446744073709551616 := by omega
            clear hcut hcut' hacc hF hov hdec ha hct
            go_wp2_with (first | (go_at_call 50; refine (lower_any _ _).mono ?_; rintro e w' ⟨rfl, rfl⟩))
            all_goals refine ⟨⟨k + 1, acc * 10 + (c.toNat - 48), a * 10 + ((c.toNat : Int) - 48), rfl, (by first | rfl | (congr 1; omega)), (by first | rfl | (congr 1; omega)), by omega, HN⟩, by simp [intOf]; omega⟩
      · by_cases h95 : c.toNat = 95
        · have hdd : dg c.toNat = none := by rw [h95]; decide
          have hF := pu_none (b := 10) (acc := acc) (r := bs.drop (k + 1)) hdd
          rw [hF] at hdec
          have hb95 : Go.bits .or .u8 95 32 = 127 := by decide
          rw [h95] at hc
          clear hacc hF ha hct hdd h95 hdig hc256
          go_wp2_with (first | (go_at_call 50; refine (lower_any _ _).mono ?_; rintro e w' ⟨rfl, rfl⟩))
          all_goals go_ret2
          all_goals exact ⟨by first | rfl | (rw [hdec]; rfl), HBW.out⟩
        have h95b : ((c.toNat : Int) == 95) = false := beq_eq_false_iff_ne.mpr (by omega)
        have hv0 := bits_lo_u8 .or (c.toNat : Int) 32
        have hv1 := bits_hi_u8 .or (c.toNat : Int) 32
        have hlw : ∀ l : Int, l = Go.bits .or .u8 (c.toNat : Int) 32 → (97 ≤ l ∧ l ≤ 122 → dg c.toNat = some (l.toNat - 87)) ∧ (¬ (97 ≤ l ∧ l ≤ 122) → dg c.toNat = none) := fun l hl => by
          subst hl
          refine ⟨fun h => ?_, fun h => ?_⟩
          · unfold dg; rw [if_neg hdig, if_pos (by omega)]
          · unfold dg; rw [if_neg hdig, if_neg (by omega)]
        obtain ⟨l, hl⟩ : ∃ l, l = Go.bits .or .u8 (c.toNat : Int) 32 := ⟨_, rfl⟩
        have hlw := hlw l hl
        rw [← hl] at hv0 hv1
        have hnd : ¬ (48 ≤ (c.toNat : Int) ∧ (c.toNat : Int) ≤ 57) := by omega
        have HNC : Hid (l = Go.bits .or .u8 (c.toNat : Int) 32) := Lib.hid hl
        have CL : Aside0 (∀ W, Calls Tryd.prog 50 #[.int .u8 (c.toNat : Int)] W (Lowd l W)) := ⟨fun W => (lower_any _ _).mono fun e w' h => ⟨by rw [h.1, ← hl], h.2⟩⟩
        clear hl
        have hsp : c.toNat < 48 ∨ 57 < c.toNat := by omega
        by_cases hlet : 97 ≤ l ∧ l ≤ 122
        · have hdd := hlw.1 hlet
          obtain ⟨hl0, hl1⟩ := hlet
          have hF := pu_big (b := 10) (acc := acc) (r := bs.drop (k + 1)) hdd (by omega)
          rw [hF] at hdec
          clear hacc hF ha hct hlw
          go_wp2_with (first | (go_at_call 50; refine (CL.out _).mono ?_; rintro e w' ⟨rfl, rfl⟩))
          all_goals go_ret2
          all_goals exact ⟨by first | rfl | (rw [hdec]; rfl), HBW.out⟩
        · have hdd := hlw.2 hlet
          have hl1 : l < 97 ∨ 122 < l := by omega
          clear hlet
          rcases hl1 with hl1 | hl1
          · have hF := pu_none (b := 10) (acc := acc) (r := bs.drop (k + 1)) hdd
            rw [hF] at hdec
            clear hacc hF ha hct hlw
            go_wp2_with (first | (go_at_call 50; refine (CL.out _).mono ?_; rintro e w' ⟨rfl, rfl⟩))
            all_goals go_ret2
            all_goals exact ⟨by first | rfl | (rw [hdec]; rfl), HBW.out⟩
          · have hF := pu_none (b := 10) (acc := acc) (r := bs.drop (k + 1)) hdd
            rw [hF] at hdec
            clear hacc hF ha hct hlw
            go_wp2_with (first | (go_at_call 50; refine (CL.out _).mono ?_; rintro e w' ⟨rfl, rfl⟩))
            all_goals go_ret2
            all_goals exact ⟨by first | rfl | (rw [hdec]; rfl), HBW.out⟩
    · have hkk : k = t.size := by omega
      subst hkk
      have hF : pu 10 acc (bs.drop t.size) = .ok acc := by rw [List.drop_eq_nil_of_le (by omega)]; rfl
      rw [hF] at hdec
      subst ha
      clear hacc hF a0 a1 hct
      go_wp2_with fail
      go_ret2
      exact ⟨by first | rfl | (rw [hdec]; rfl), HBW.out⟩

set_option maxHeartbeats 32000000 in
set_option maxRecDepth 100000 in
theorem parse_16 (t : ByteArray) (hne : t.size ≠ 0) (hmax : t.size ≤ 9223372036854775806) (w : World) : Calls Tryd.prog 44 #[.string t, .int .i64 16, .int .i64 64] w (PUd t 16 w) := by
  have hemp : t.toList.isEmpty = false := by
    rw [← decide_eq_emptyBytes]
    exact decide_eq_false (fun h => hne (by rw [h]; rfl))
  have hcv := Lib.run_convert_string_bytes (P := Tryd.prog) w 9 44 5 t (u := .string) Tryd.underlying9 Tryd.underlying44 Tryd.underlying5
  have hB : ∀ j, j < t.size → (Lib.bytesWorld w 5 t).cell? ⟨w.heap.size, j, none⟩ = some (.int .u8 (t.data.toList.getD j 0).toNat) := fun j hj => Lib.bytesWorld_cell w 5 t j hj
  have HBW := Aside0.mk (Go.Joins.below_bytesWorld w.heap.size w 5 t (Nat.le_refl _))
  unfold PUd
  obtain ⟨W1, hW1⟩ : ∃ W1, W1 = Lib.bytesWorld w 5 t := ⟨_, rfl⟩
  rw [← hW1] at hcv hB HBW
  clear hW1
  obtain ⟨bs, hL⟩ : ∃ bs, bs = t.data.toList := ⟨_, rfl⟩
  have hLn : bs.length = t.size := by rw [hL, Lib.size_eq]
  rw [← hL] at hB ⊢
  clear hL
  have hmv : IntKind.u64.wrap (IntKind.u64.wrap 18446744073709551616 - 1) = 18446744073709551615 := by
    rw [IntKind.wrap_u64, IntKind.wrap_u64]
    decide
  go_enter Tryd.func44, Tryd.ntmps44
  go_wp2_with fail
  go_loop [12, 13, 101] (fun vu vn vi => ∃ (k acc : Nat) (a : Int), vu = .bool false ∧ vn = .int .u64 a ∧ vi = .int .i64 k ∧ k ≤ t.size ∧ Hid (a = (acc : Int) ∧ acc < 18446744073709551616 ∧ pu 16 0 bs = pu 16 acc (bs.drop k)))
    (fun _ _ vi => t.size - (intOf vi).toNat)
  case atStart => exact ⟨0, 0, 0, rfl, rfl, rfl, by omega, rfl, by omega, rfl⟩
  case round =>
    obtain ⟨k, acc, a, rfl, rfl, rfl, hk, hh⟩ := hrel
    obtain ⟨ha, hacc, hdec⟩ := hh.out
    clear hh
    have a0 : 0 ≤ a := by omega
    have a1 : a < 18446744073709551616 := by omega
    have hct : cut 16 = 1152921504606846976 := by decide
    by_cases hkn : k < t.size
    · have hc := hB k hkn
      have hdrop : bs.drop k = bs[k]'(by omega) :: bs.drop (k + 1) := List.drop_eq_getElem_cons (by omega)
      have hget : bs.getD k 0 = bs[k]'(by omega) := by simp [List.getD, List.getElem?_eq_getElem (show k < bs.length by omega)]
      rw [hdrop] at hdec
      rw [hget] at hc
      generalize bs[k]'(by omega) = c at hc hdec
      have hc256 : c.toNat < 256 := c.toNat_lt
      clear hB hdrop hget
      by_cases hdig : 48 ≤ c.toNat ∧ c.toNat ≤ 57
      · have hdd : dg c.toNat = some (c.toNat - 48) := if_pos hdig
        obtain ⟨hd0, hd1⟩ := hdig
        by_cases hcut : 1152921504606846976 ≤ acc
        · have hF := pu_cut (r := bs.drop (k + 1)) hdd (show ¬ 16 ≤ c.toNat - 48 by omega) (show cut 16 ≤ acc by rw [hct]; exact hcut)
          rw [hF] at hdec
          have icut : 1152921504606846976 ≤ a := by omega
          clear hcut hacc hF ha hct
          go_wp2_with (first | (go_at_call 50; refine (lower_any _ _).mono ?_; rintro e w' ⟨rfl, rfl⟩))
          all_goals go_ret2
          all_goals exact ⟨by first | rfl | (rw [hdec]; rfl), HBW.out⟩
        · have hcut' : ¬ cut 16 ≤ acc := by rw [hct]; exact hcut
          by_cases hov : 18446744073709551616 ≤ acc * 16 + (c.toNat - 48)
          · exact absurd hov (by omega)
          · have hF := pu_step (r := bs.drop (k + 1)) hdd (show ¬ 16 ≤ c.toNat - 48 by omega) hcut' hov
            have HN : Hid (a * 16 + ((c.toNat : Int) - 48) = ((acc * 16 + (c.toNat - 48) : Nat) : Int) ∧ acc * 16 + (c.toNat - 48) < 18446744073709551616 ∧ pu 16 0 bs = pu 16 (acc * 16 + (c.toNat - 48)) (bs.drop (k + 1))) := Lib.hid ⟨by omega, by omega, hdec.trans hF⟩
            have icut : a < 1152921504606846976 := by omega
            have iov : a * 16 + ((c.toNat : Int) - 48) < 18446744073709551616 := by omega
            clear hcut hcut' hacc hF hov hdec ha hct
            go_wp2_with (first | (go_at_call 50; refine (lower_any _ _).mono ?_; rintro e w' ⟨rfl, rfl⟩))
            all_goals refine ⟨⟨k + 1, acc * 16 + (c.toNat - 48), a * 16 + ((c.toNat : Int) - 48), rfl, (by first | rfl | (congr 1; omega)), (by first | rfl | (congr 1; omega)), by omega, HN⟩, by simp [intOf]; omega⟩
      · by_cases h95 : c.toNat = 95
        · have hdd : dg c.toNat = none := by rw [h95]; decide
          have hF := pu_none (b := 16) (acc := acc) (r := bs.drop (k + 1)) hdd
          rw [hF] at hdec
          have hb95 : Go.bits .or .u8 95 32 = 127 := by decide
          rw [h95] at hc
          clear hacc hF ha hct hdd h95 hdig hc256
          go_wp2_with (first | (go_at_call 50; refine (lower_any _ _).mono ?_; rintro e w' ⟨rfl, rfl⟩))
          all_goals go_ret2
          all_goals exact ⟨by first | rfl | (rw [hdec]; rfl), HBW.out⟩
        have h95b : ((c.toNat : Int) == 95) = false := beq_eq_false_iff_ne.mpr (by omega)
        have hv0 := bits_lo_u8 .or (c.toNat : Int) 32
        have hv1 := bits_hi_u8 .or (c.toNat : Int) 32
        have hlw : ∀ l : Int, l = Go.bits .or .u8 (c.toNat : Int) 32 → (97 ≤ l ∧ l ≤ 122 → dg c.toNat = some (l.toNat - 87)) ∧ (¬ (97 ≤ l ∧ l ≤ 122) → dg c.toNat = none) := fun l hl => by
          subst hl
          refine ⟨fun h => ?_, fun h => ?_⟩
          · unfold dg; rw [if_neg hdig, if_pos (by omega)]
          · unfold dg; rw [if_neg hdig, if_neg (by omega)]
        obtain ⟨l, hl⟩ : ∃ l, l = Go.bits .or .u8 (c.toNat : Int) 32 := ⟨_, rfl⟩
        have hlw := hlw l hl
        rw [← hl] at hv0 hv1
        have hnd : ¬ (48 ≤ (c.toNat : Int) ∧ (c.toNat : Int) ≤ 57) := by omega
        have HNC : Hid (l = Go.bits .or .u8 (c.toNat : Int) 32) := Lib.hid hl
        have CL : Aside0 (∀ W, Calls Tryd.prog 50 #[.int .u8 (c.toNat : Int)] W (Lowd l W)) := ⟨fun W => (lower_any _ _).mono fun e w' h => ⟨by rw [h.1, ← hl], h.2⟩⟩
        clear hl
        have hsp : c.toNat < 48 ∨ 57 < c.toNat := by omega
        by_cases hlet : 97 ≤ l ∧ l ≤ 122
        · have hdd := hlw.1 hlet
          obtain ⟨hl0, hl1⟩ := hlet
          by_cases hl6 : l ≤ 102
          · obtain ⟨d, hde⟩ : ∃ d, d = l.toNat - 87 := ⟨_, rfl⟩
            rw [← hde] at hdd
            have hdl : (d : Int) = l - 87 := by omega
            clear hde
            by_cases hcut : 1152921504606846976 ≤ acc
            · have hF := pu_cut (r := bs.drop (k + 1)) hdd (show ¬ 16 ≤ d by omega) (show cut 16 ≤ acc by rw [hct]; exact hcut)
              rw [hF] at hdec
              have icut : 1152921504606846976 ≤ a := by omega
              clear hcut hacc hF ha hct
              go_wp2_with (first | (go_at_call 50; refine (CL.out _).mono ?_; rintro e w' ⟨rfl, rfl⟩))
              all_goals go_ret2
              all_goals exact ⟨by first | rfl | (rw [hdec]; rfl), HBW.out⟩
            · have hcut' : ¬ cut 16 ≤ acc := by rw [hct]; exact hcut
              by_cases hov : 18446744073709551616 ≤ acc * 16 + (d)
              · exact absurd hov (by omega)
              · have hF := pu_step (r := bs.drop (k + 1)) hdd (show ¬ 16 ≤ d by omega) hcut' hov
                have HN : Hid (a * 16 + (l - 97 + 10) = ((acc * 16 + (d) : Nat) : Int) ∧ acc * 16 + (d) < 18446744073709551616 ∧ pu 16 0 bs = pu 16 (acc * 16 + (d)) (bs.drop (k + 1))) := Lib.hid ⟨by omega, by omega, hdec.trans hF⟩
                have icut : a < 1152921504606846976 := by omega
                have iov : a * 16 + (l - 97 + 10) < 18446744073709551616 := by omega
                clear hcut hcut' hacc hF hov hdec ha hct
                go_wp2_with (first | (go_at_call 50; refine (CL.out _).mono ?_; rintro e w' ⟨rfl, rfl⟩))
                all_goals refine ⟨⟨k + 1, acc * 16 + (d), a * 16 + (l - 97 + 10), rfl, (by first | rfl | (congr 1; omega)), (by first | rfl | (congr 1; omega)), by omega, HN⟩, by simp [intOf]; omega⟩
          · have hl6' : 103 ≤ l := by omega
            have hF := pu_big (b := 16) (acc := acc) (r := bs.drop (k + 1)) hdd (by omega)
            rw [hF] at hdec
            clear hacc hF ha hct hlw
            go_wp2_with (first | (go_at_call 50; refine (CL.out _).mono ?_; rintro e w' ⟨rfl, rfl⟩))
            all_goals go_ret2
            all_goals exact ⟨by first | rfl | (rw [hdec]; rfl), HBW.out⟩
        · have hdd := hlw.2 hlet
          have hl1 : l < 97 ∨ 122 < l := by omega
          clear hlet
          rcases hl1 with hl1 | hl1
          · have hF := pu_none (b := 16) (acc := acc) (r := bs.drop (k + 1)) hdd
            rw [hF] at hdec
            clear hacc hF ha hct hlw
            go_wp2_with (first | (go_at_call 50; refine (CL.out _).mono ?_; rintro e w' ⟨rfl, rfl⟩))
            all_goals go_ret2
            all_goals exact ⟨by first | rfl | (rw [hdec]; rfl), HBW.out⟩
          · have hF := pu_none (b := 16) (acc := acc) (r := bs.drop (k + 1)) hdd
            rw [hF] at hdec
            clear hacc hF ha hct hlw
            go_wp2_with (first | (go_at_call 50; refine (CL.out _).mono ?_; rintro e w' ⟨rfl, rfl⟩))
            all_goals go_ret2
            all_goals exact ⟨by first | rfl | (rw [hdec]; rfl), HBW.out⟩
    · have hkk : k = t.size := by omega
      subst hkk
      have hF : pu 16 acc (bs.drop t.size) = .ok acc := by rw [List.drop_eq_nil_of_le (by omega)]; rfl
      rw [hF] at hdec
      subst ha
      clear hacc hF a0 a1 hct
      go_wp2_with fail
      go_ret2
      exact ⟨by first | rfl | (rw [hdec]; rfl), HBW.out⟩

end Go.Proofs.YtlkbhmmelejmjaaDoor.NumParse

/- Numbers: a text without its underscores: the place of a byte, and what zzReplaceAll makes. -/
namespace Go.Proofs.YtlkbhmmelejmjaaDoor.NumStrip
open Go.RowKit Go.Proofs.YtlkbhmmelejmjaaDoorW.PrintWords Go.Proofs.YtlkbhmmelejmjaaDoor.NumKnown Go.Proofs.YtlkbhmmelejmjaaDoor.NumPure
set_option linter.unusedVariables false
set_option linter.unusedSimpArgs false

/-- A text without its underscores. -/
def strip (s : ByteArray) : ByteArray := ⟨(s.data.toList.filter fun b => b != 95).toArray⟩
theorem strip_list (s : ByteArray) : (strip s).data.toList = s.data.toList.filter fun b => b != 95 := by simp [strip]
theorem strip_no (s : ByteArray) : (95 : UInt8) ∉ (strip s).data.toList := by rw [strip_list]; simp
theorem strip_size (s : ByteArray) : (strip s).size ≤ s.size := by rw [Lib.size_eq, strip_list, Lib.size_eq]; exact List.length_filter_le _ _
theorem strip_same {s : ByteArray} (h : (95 : UInt8) ∉ s.data.toList) : strip s = s := by
  have e : (s.data.toList.filter fun b => b != 95) = s.data.toList := by
    rw [List.filter_eq_self]
    intro a ha
    rw [bne_iff_ne]
    rintro rfl
    exact h ha
  unfold strip
  rw [e]

theorem drop_at (s : ByteArray) (i : Nat) (h : i < s.size) : s.data.toList.drop i = s[i] :: s.data.toList.drop (i + 1) := by
  have hl : i < s.data.toList.length := by rw [← Lib.size_eq]; exact h
  rw [List.drop_eq_getElem_cons hl]
  rfl
theorem idx_go {s : ByteArray} {b : UInt8} (hs : s.size ≤ 2305843009213693952) (d : Nat) : ∀ (k i : Nat), s.size - i ≤ d → i ≤ s.size → d + 1 < k →
    (b ∉ s.data.toList.drop i ∧ token_zzIndex.l0 k s ⟨#[b]⟩ (i : Int) = some (-1)) ∨ ∃ j, i ≤ j ∧ (∃ h : j < s.size, s[j] = b) ∧ b ∉ (s.data.toList.drop i).take (j - i) ∧ token_zzIndex.l0 k s ⟨#[b]⟩ (i : Int) = some (j : Int) := by
  induction d with
  | zero =>
    intro k i h1 h2 h3
    obtain ⟨k, rfl⟩ : ∃ m, k = m + 1 := ⟨k - 1, by omega⟩
    have hp1 : ((ByteArray.mk #[b]).size : Int) = 1 := rfl
    have hw : wrap64 ((i : Int) + 1) = ((i + 1 : Nat) : Int) := by unfold wrap64; omega
    refine .inl ⟨?_, ?_⟩
    · rw [List.drop_eq_nil_of_le (by rw [← Lib.size_eq]; omega)]; exact List.not_mem_nil
    · simp only [token_zzIndex.l0, hp1, hw]
      rw [if_neg (by omega)]
  | succ d ih =>
    intro k i h1 h2 h3
    obtain ⟨k, rfl⟩ : ∃ m, k = m + 1 := ⟨k - 1, by omega⟩
    have hp1 : ((ByteArray.mk #[b]).size : Int) = 1 := rfl
    have hw : wrap64 ((i : Int) + 1) = ((i + 1 : Nat) : Int) := by unfold wrap64; omega
    by_cases hi : i < s.size
    · have hd := drop_at s i hi
      have hpc := piece_one s i hi
      have hbt : (ByteArray.mk #[b]).toList = [b] := by rw [Lib.toList_data]
      by_cases hb : s[i] = b
      · refine .inr ⟨i, Nat.le_refl _, ⟨hi, hb⟩, ?_, ?_⟩
        · rw [Nat.sub_self, List.take_zero]; exact List.not_mem_nil
        · simp only [token_zzIndex.l0, hp1, hw]
          rw [if_pos (by omega), if_pos (by omega), if_pos (by omega), if_pos]
          rw [Int.toNat_natCast, Int.toNat_natCast, hpc, hb, hbt]
      · have hstep : token_zzIndex.l0 (k + 1) s ⟨#[b]⟩ (i : Int) = token_zzIndex.l0 k s ⟨#[b]⟩ ((i + 1 : Nat) : Int) := by
          simp only [token_zzIndex.l0, hp1, hw]
          rw [if_pos (by omega), if_pos (by omega), if_pos (by omega), if_neg]
          rw [Int.toNat_natCast, Int.toNat_natCast, hpc, hbt]
          intro hh
          exact hb (List.cons.inj hh).1
        rw [hstep]
        rcases ih k (i + 1) (by omega) (by omega) (by omega) with ⟨hn, he⟩ | ⟨j, hj, hjb, hn, he⟩
        · refine .inl ⟨?_, he⟩
          rw [hd, List.mem_cons]
          rintro (h | h)
          · exact hb h.symm
          · exact hn h
        · refine .inr ⟨j, by omega, hjb, ?_, he⟩
          rw [hd, show j - i = (j - (i + 1)) + 1 by omega, List.take_succ_cons, List.mem_cons]
          rintro (h | h)
          · exact hb h.symm
          · exact hn h
    · refine .inl ⟨?_, ?_⟩
      · rw [List.drop_eq_nil_of_le (by rw [← Lib.size_eq]; omega)]; exact List.not_mem_nil
      · simp only [token_zzIndex.l0, hp1, hw]
        rw [if_neg (by omega)]

theorem filter_take {L : List UInt8} {j : Nat} (h : (95 : UInt8) ∉ L.take j) : (L.take j).filter (fun b => b != 95) = L.take j := by
  rw [List.filter_eq_self]
  intro a ha
  rw [bne_iff_ne]
  rintro rfl
  exact h ha
theorem ext_list (s : ByteArray) (i j : Nat) : (s.extract i j).data.toList = (s.data.toList.drop i).take (j - i) := by
  rw [← Lib.toList_data, Lib.extract_toList]
theorem rep_go (d : Nat) : ∀ (k : Nat) (s : ByteArray) (x : List Int), s.size ≤ d → x.length + s.size < 140737488355328 → s.size + d + 3 < k →
    token_zzReplaceAll.l0 k s ⟨#[95]⟩ ⟨#[]⟩ x = some (strOfNums (x ++ bytesOf (strip s))) := by
  induction d with
  | zero =>
    intro k s x h1 h2 h3
    obtain ⟨k, rfl⟩ : ∃ m, k = m + 1 := ⟨k - 1, by omega⟩
    simp only [token_zzReplaceAll.l0]
    rcases idx_go (s := s) (b := 95) (by omega) s.size k 0 (by omega) (by omega) (by omega) with ⟨hn, he⟩ | ⟨j, hj, ⟨hl, _⟩, _, _⟩
    · rw [List.drop_zero] at hn
      show ((token_zzIndex.l0 k s ⟨#[95]⟩ ((0 : Nat) : Int)).bind _) = _
      rw [he, strip_same hn]
      simp only [Option.bind_some]
      rw [if_pos (by omega), if_pos (by omega)]
    · omega
  | succ d ih =>
    intro k s x h1 h2 h3
    obtain ⟨k, rfl⟩ : ∃ m, k = m + 1 := ⟨k - 1, by omega⟩
    simp only [token_zzReplaceAll.l0]
    rcases idx_go (s := s) (b := 95) (by omega) s.size k 0 (by omega) (by omega) (by omega) with ⟨hn, he⟩ | ⟨j, hj, ⟨hl, hjb⟩, hn, he⟩
    · rw [List.drop_zero] at hn
      show ((token_zzIndex.l0 k s ⟨#[95]⟩ ((0 : Nat) : Int)).bind _) = _
      rw [he, strip_same hn]
      simp only [Option.bind_some]
      rw [if_pos (by omega), if_pos (by omega)]
    · rw [List.drop_zero, Nat.sub_zero] at hn
      show ((token_zzIndex.l0 k s ⟨#[95]⟩ ((0 : Nat) : Int)).bind _) = _
      rw [he]
      have hp1 : ((ByteArray.mk #[95]).size : Int) = 1 := rfl
      have hp0 : (ByteArray.mk #[]).size = 0 := rfl
      have hw : wrap64 ((j : Int) + 1) = ((j + 1 : Nat) : Int) := by unfold wrap64; omega
      have hb0 : bytesOf (ByteArray.mk #[]) = [] := rfl
      have hbl : (bytesOf (s.extract 0 j)).length = j := by
        unfold bytesOf
        rw [List.length_map, ext_list, List.drop_zero, List.length_take, ← Lib.size_eq]
        omega
      have hes : (s.extract 0 j).size ≤ s.size := by rw [ByteArray.size_extract]; omega
      have hes2 : (s.extract (j + 1) s.size).size = s.size - (j + 1) := by rw [ByteArray.size_extract]; omega
      have hes1 : (s.extract 0 j).size = j := by rw [ByteArray.size_extract]; omega
      simp only [Option.bind_some, hp1, hp0, hw, hb0, Int.toNat_natCast, List.append_nil, Nat.add_zero]
      rw [if_neg (by omega), if_pos (by omega), if_pos (by omega), if_pos (by omega), if_pos (by rw [List.length_append, hbl]; omega), if_pos (by omega), if_pos (by omega)]
      rw [ih k (s.extract (j + 1) s.size) _ (by omega) (by rw [List.length_append, hbl]; omega) (by omega)]
      have hst : bytesOf (strip s) = bytesOf (s.extract 0 j) ++ bytesOf (strip (s.extract (j + 1) s.size)) := by
        unfold bytesOf
        rw [← List.map_append, strip_list, strip_list, ext_list, ext_list, List.drop_zero, Nat.sub_zero]
        have hL : s.data.toList = s.data.toList.take j ++ 95 :: s.data.toList.drop (j + 1) := by
          conv => lhs; rw [← List.take_append_drop j s.data.toList, drop_at s j hl, hjb]
        conv => lhs; rw [hL]
        rw [List.filter_append, filter_take hn, List.filter_cons_of_neg (by decide), List.take_of_length_le (l := s.data.toList.drop (j + 1)) (by rw [List.length_drop, ← Lib.size_eq]; omega)]
      rw [hst, List.append_assoc]

def Stp (t : ByteArray) (w : World) (e : Ending) (w' : World) : Prop := e = .returned (.string t) ∧ Below w.heap.size w w'
/-- A text's underscores are taken out. -/
theorem strip_any (s : ByteArray) (hs : s.size ≤ 140737488355327) (w : World) : Calls Tryd.prog 30 #[.string s, .string ⟨#[95]⟩, .string ⟨#[]⟩] w (Stp (strip s) w) := by
  refine (token_zzReplaceAll.calls (2 * s.size + 4) s ⟨#[95]⟩ ⟨#[]⟩ (strip s) w ?_).mono fun e w' hh => ⟨hh.1, hh.2⟩
  have h := rep_go s.size (2 * s.size + 4) s [] (Nat.le_refl _) (by simp; omega) (by omega)
  rw [List.nil_append, strOfNums_bytes] at h
  exact h
end Go.Proofs.YtlkbhmmelejmjaaDoor.NumStrip

/-
  DERIVED: THE SHELF's CONTRACTS AT THIS DUMP, IN PLAIN WORDS (tools/lay-plain.mjs out of 'TrydErrp.lean', which tools/lay-shelf.mjs wrote): THE SAME DECLARATIONS UNDER THE SAME NAMES: 'import', 'namespace', 'open', 'def', 'theorem' AND NOTHING ELSE: no command of the shelf's: FOR A HAND-IN. Each laying: the table of numbers ('.._ren') and one theorem, a field a fact of the dump's own or the kernel's comparison; each contract: ONE APPLICATION.
-/
namespace Go.Proofs
open Go.Shelf
def Tryd.laysC245_ren : Go.Shelf.Ren := ⟨fun | 245 => 24 | 279 => 35 | 280 => 36 | 281 => 37 | 282 => 38 | 316 => 47 | 171 => 49 | 205 => 48 | 243 => 65 | 246 => 80 | 283 => 85 | 284 => 86 | 285 => 87 | 286 => 88 | 129 => 69 | 317 => 91 | 318 => 73 | 319 => 92 | 320 => 93 | 337 => 94 | 338 => 95 | n => n, fun | 9 => 9 | 3 => 3 | 75 => 49 | 167 => 65 | 4 => 4 | 168 => 66 | 210 => 74 | 37 => 44 | 0 => 0 | 127 => 103 | 145 => 106 | 143 => 104 | 2 => 2 | 171 => 135 | 53 => 22 | 5 => 5 | 173 => 137 | 212 => 144 | 51 => 87 | 20 => 20 | 213 => 145 | 46 => 77 | 232 => 149 | 233 => 150 | 80 => 151 | n => n, fun | 15 => 0 | 16 => 1 | 17 => 10 | 18 => 11 | 19 => 12 | n => n⟩
theorem Tryd.laysC245 : Go.Proofs.LaysC.n245 Tryd.prog Tryd.laysC245_ren := {
  mixed := by kernel_rfl
  f129 := Tryd.func69.trans (congrArg some (by kernel_rfl))
  f171 := Tryd.func49.trans (congrArg some (by kernel_rfl))
  f205 := Tryd.func48.trans (congrArg some (by kernel_rfl))
  f243 := Tryd.func65.trans (congrArg some (by kernel_rfl))
  f245 := Tryd.func24.trans (congrArg some (by kernel_rfl))
  f246 := Tryd.func80.trans (congrArg some (by kernel_rfl))
  f279 := Tryd.func35.trans (congrArg some (by kernel_rfl))
  f280 := Tryd.func36.trans (congrArg some (by kernel_rfl))
  f281 := Tryd.func37.trans (congrArg some (by kernel_rfl))
  f282 := Tryd.func38.trans (congrArg some (by kernel_rfl))
  f283 := Tryd.func85.trans (congrArg some (by kernel_rfl))
  f284 := Tryd.func86.trans (congrArg some (by kernel_rfl))
  f285 := Tryd.func87.trans (congrArg some (by kernel_rfl))
  f286 := Tryd.func88.trans (congrArg some (by kernel_rfl))
  f316 := Tryd.func47.trans (congrArg some (by kernel_rfl))
  f317 := Tryd.func91.trans (congrArg some (by kernel_rfl))
  f318 := Tryd.func73.trans (congrArg some (by kernel_rfl))
  f319 := Tryd.func92.trans (congrArg some (by kernel_rfl))
  f320 := Tryd.func93.trans (congrArg some (by kernel_rfl))
  f337 := Tryd.func94.trans (congrArg some (by kernel_rfl))
  f338 := Tryd.func95.trans (congrArg some (by kernel_rfl))
  t0 := Tryd.underlying0
  a0 := Tryd.isAgg0
  z0 := Tryd.sizeOf0
  v0 := Tryd.zeroValue0
  t2 := Tryd.underlying2
  a2 := Tryd.isAgg2
  z2 := Tryd.sizeOf2
  v2 := Tryd.zeroValue2
  t3 := Tryd.underlying3
  a3 := Tryd.isAgg3
  z3 := Tryd.sizeOf3
  v3 := Tryd.zeroValue3
  t4 := Tryd.underlying4
  a4 := Tryd.isAgg4
  z4 := Tryd.sizeOf4
  v4 := Tryd.zeroValue4
  t5 := Tryd.underlying5
  a5 := Tryd.isAgg5
  z5 := Tryd.sizeOf5
  v5 := Tryd.zeroValue5
  t9 := Tryd.underlying9
  a9 := Tryd.isAgg9
  z9 := Tryd.sizeOf9
  v9 := Tryd.zeroValue9
  t20 := Tryd.underlying20
  a20 := Tryd.isAgg20
  z20 := Tryd.sizeOf20
  v20 := Tryd.zeroValue20
  t37 := Tryd.underlying44
  a37 := Tryd.isAgg44
  z37 := Tryd.sizeOf44
  v37 := Tryd.zeroValue44
  t46 := Tryd.underlying77
  a46 := Tryd.isAgg77
  z46 := Tryd.sizeOf77
  v46 := Tryd.zeroValue77
  t51 := Tryd.underlying87
  a51 := Tryd.isAgg87
  z51 := Tryd.sizeOf87
  v51 := Tryd.zeroValue87
  t53 := Tryd.underlying22
  a53 := Tryd.isAgg22
  z53 := Tryd.sizeOf22
  v53 := Tryd.zeroValue22
  t75 := Tryd.underlying49
  a75 := Tryd.isAgg49
  z75 := Tryd.sizeOf49
  v75 := Tryd.zeroValue49
  t127 := Tryd.underlying103
  a127 := Tryd.isAgg103
  z127 := Tryd.sizeOf103
  v127 := Tryd.zeroValue103
  t143 := Tryd.underlying104
  a143 := Tryd.isAgg104
  z143 := Tryd.sizeOf104
  v143 := Tryd.zeroValue104
  t145 := Tryd.underlying106
  a145 := Tryd.isAgg106
  z145 := Tryd.sizeOf106
  v145 := Tryd.zeroValue106
  t167 := Tryd.underlying65
  a167 := Tryd.isAgg65
  z167 := Tryd.sizeOf65
  v167 := Tryd.zeroValue65
  t168 := Tryd.underlying66
  a168 := Tryd.isAgg66
  z168 := Tryd.sizeOf66
  v168 := Tryd.zeroValue66
  t171 := Tryd.underlying135
  a171 := Tryd.isAgg135
  z171 := Tryd.sizeOf135
  v171 := Tryd.zeroValue135
  t173 := Tryd.underlying137
  a173 := Tryd.isAgg137
  z173 := Tryd.sizeOf137
  v173 := Tryd.zeroValue137
  t210 := Tryd.underlying74
  a210 := Tryd.isAgg74
  z210 := Tryd.sizeOf74
  v210 := Tryd.zeroValue74
  t212 := Tryd.underlying144
  a212 := Tryd.isAgg144
  z212 := Tryd.sizeOf144
  v212 := Tryd.zeroValue144
  t213 := Tryd.underlying145
  a213 := Tryd.isAgg145
  z213 := Tryd.sizeOf145
  t232 := Tryd.underlying149
  a232 := Tryd.isAgg149
  z232 := Tryd.sizeOf149
  v232 := Tryd.zeroValue149
  t233 := Tryd.underlying150
  a233 := Tryd.isAgg150
  z233 := Tryd.sizeOf150
  v233 := Tryd.zeroValue150
  g15 := by kernel_rfl
  g16 := by kernel_rfl
  g17 := by kernel_rfl
  g18 := by kernel_rfl
  g19 := by kernel_rfl
  t80 := Tryd.underlying151
  a80 := Tryd.isAgg151
  z80 := Tryd.sizeOf151
  v80 := Tryd.zeroValue151
  i0 := by kernel_rfl
  i2 := by kernel_rfl
  i3 := by kernel_rfl
  i4 := by kernel_rfl
  i5 := by kernel_rfl
  i9 := by kernel_rfl
  i20 := by kernel_rfl
  i37 := by kernel_rfl
  i46 := by kernel_rfl
  i51 := by kernel_rfl
  i53 := by kernel_rfl
  i75 := by kernel_rfl
  i80 := by kernel_rfl
  i127 := by kernel_rfl
  i143 := by kernel_rfl
  i145 := by kernel_rfl
  i167 := by kernel_rfl
  i168 := by kernel_rfl
  i171 := by kernel_rfl
  i173 := by kernel_rfl
  i210 := by kernel_rfl
  i212 := by kernel_rfl
  i232 := by kernel_rfl
  i233 := by kernel_rfl
  m15 := by kernel_rfl
  m16 := by kernel_rfl
  m17 := by kernel_rfl
  m18 := by kernel_rfl
  m19 := by kernel_rfl
  c0 := by kernel_rfl
  c2 := by kernel_rfl
  c3 := by kernel_rfl
  c4 := by kernel_rfl
  c5 := by kernel_rfl
  c9 := by kernel_rfl
  c20 := by kernel_rfl
  c37 := by kernel_rfl
  c46 := by kernel_rfl
  c51 := by kernel_rfl
  c53 := by kernel_rfl
  c75 := by kernel_rfl
  c80 := by kernel_rfl
  c127 := by kernel_rfl
  c143 := by kernel_rfl
  c145 := by kernel_rfl
  c167 := by kernel_rfl
  c168 := by kernel_rfl
  c171 := by kernel_rfl
  c173 := by kernel_rfl
  c210 := by kernel_rfl
  c212 := by kernel_rfl
  c213 := by kernel_rfl
  c232 := by kernel_rfl
  c233 := by kernel_rfl }
open Go.RowKit in
/-- strconv.toError, at the inner package's ErrSyntax: 'syntaxError(fn, s)' as an error: A *NumError IN A NEW BLOCK. (LAID: no walk: one application.) -/
theorem Tryd.strconv_toError_syntax (fn s : ByteArray) (base bits : Int) (ev : Value) (w : World) (hlim : s.size ≤ 281474976710656) (hv : w.cell? ⟨0, 0, none⟩ = some ev) (hev : ev = .nilIface ∨ ∃ te pe, ev = .iface te pe) :
    Calls Tryd.prog 24 #[.string fn, .string s, .int .i64 base, .int .i64 bits, .iface 65 (.int .i64 2)] w fun e w' => ∃ N, e = .returned (.iface 66 (.pointer (some ⟨N, 0, none⟩))) ∧ w.heap.size ≤ N ∧ w'.heap[N]? = some (.cells #[.string fn, .string s, ev] 74 (0, 0)) ∧ Below w.heap.size w w' := Any.strconv_toError_syntax Tryd.laysC245 fn s base bits ev w hlim hv hev
open Go.RowKit in
/-- strconv.toError, at the inner package's ErrRange: 'rangeError(fn, s)' as an error: A *NumError IN A NEW BLOCK. (LAID: no walk: one application.) -/
theorem Tryd.strconv_toError_range (fn s : ByteArray) (base bits : Int) (ev : Value) (w : World) (hlim : s.size ≤ 281474976710656) (hv : w.cell? ⟨1, 0, none⟩ = some ev) (hev : ev = .nilIface ∨ ∃ te pe, ev = .iface te pe) :
    Calls Tryd.prog 24 #[.string fn, .string s, .int .i64 base, .int .i64 bits, .iface 65 (.int .i64 1)] w fun e w' => ∃ N, e = .returned (.iface 66 (.pointer (some ⟨N, 0, none⟩))) ∧ w.heap.size ≤ N ∧ w'.heap[N]? = some (.cells #[.string fn, .string s, ev] 74 (0, 0)) ∧ Below w.heap.size w w' := Any.strconv_toError_range Tryd.laysC245 fn s base bits ev w hlim hv hev
end Go.Proofs

/- The errors of package strconv; ParseFloat, ParseUint and ParseInt with their errors. -/
namespace Go.Proofs.YtlkbhmmelejmjaaDoor.NumErr
open Go.RowKit Go.Proofs.YtlkbhmmelejmjaaDoorW.PrintWords Go.Proofs.YtlkbhmmelejmjaaDoor.FltAtof Go.Proofs.YtlkbhmmelejmjaaDoor.FltParse Go.Proofs.YtlkbhmmelejmjaaDoor.NumParse Go.Proofs.YtlkbhmmelejmjaaDoor.NumStrip
set_option linter.unusedVariables false
set_option linter.unusedSimpArgs false


/-- What ErrRange (1) and ErrSyntax (2) hold. -/
structure Errs (B : Nat) (EV : Nat → Value) (w : World) : Prop where
  r : 1 < B ∧ w.cell? ⟨1, 0, none⟩ = some (EV 1)
  s : 0 < B ∧ w.cell? ⟨0, 0, none⟩ = some (EV 2)
  p : ∀ k, ∃ a, EV k = .iface 104 (.pointer (some a))
theorem Errs.keep {B p : Nat} {EV : Nat → Value} {w w' : World} (h : Errs B EV w) (hb : Below p w w') (hp : B ≤ p) : Errs B EV w' :=
  ⟨⟨h.r.1, (hb.cell (p := ⟨1, 0, none⟩) (Nat.lt_of_lt_of_le h.r.1 hp)).trans h.r.2⟩, ⟨h.s.1, (hb.cell (p := ⟨0, 0, none⟩) (Nat.lt_of_lt_of_le h.s.1 hp)).trans h.s.2⟩, h.p⟩

def ErP (EV : Nat → Value) (k : Nat) (fn s : ByteArray) (w : World) (e : Ending) (w' : World) : Prop := ∃ N, e = .returned (.iface 66 (.pointer (some ⟨N, 0, none⟩))) ∧ w.heap.size ≤ N ∧ w'.heap[N]? = some (.cells #[.string fn, .string s, EV k] 74 (0, 0)) ∧ Below w.heap.size w w'
theorem toErr (B : Nat) (EV : Nat → Value) (k : Nat) (hk : k = 1 ∨ k = 2) (fn s : ByteArray) (base bs : Int) (hs : s.size ≤ 281474976710656) (w : World) (hE : Errs B EV w) : Calls Tryd.prog 24 #[.string fn, .string s, .int .i64 base, .int .i64 bs, erN k] w (ErP EV k fn s w) := by
  rcases hk with rfl | rfl
  · obtain ⟨a, ha⟩ := hE.p 1
    exact Tryd.strconv_toError_range fn s base bs (EV 1) w hs hE.r.2 (.inr ⟨_, _, ha⟩)
  · obtain ⟨a, ha⟩ := hE.p 2
    exact Tryd.strconv_toError_syntax fn s base bs (EV 2) w hs hE.s.2 (.inr ⟨_, _, ha⟩)

/-- A number (k = 0), or the error of a kind. -/
def NumE (okv : Value) (k : Nat) (EV : Nat → Value) (w : World) (e : Ending) (w' : World) : Prop :=
  Below w.heap.size w w' ∧ ((k = 0 ∧ e = .returned (.tuple #[okv, .nilIface])) ∨ (k ≠ 0 ∧ ∃ v N fn s, e = .returned (.tuple #[v, .iface 66 (.pointer (some ⟨N, 0, none⟩))]) ∧ w.heap.size ≤ N ∧ w'.heap[N]? = some (.cells #[.string fn, .string s, EV k] 74 (0, 0))))

theorem parF_k (H O X : Nat → Nat) (s : ByteArray) : (parF H O X s).2 = 0 ∨ (parF H O X s).2 = 1 ∨ (parF H O X s).2 = 2 := by
  have hslow : ∀ T, (slowF T).2 = 0 ∨ (slowF T).2 = 1 ∨ (slowF T).2 = 2 := fun T => by
    unfold slowF
    cases FltTextP.setF (FltTextP.sgn T).2 with
    | none => exact .inr (.inr rfl)
    | some t =>
      by_cases h : t.n = 0
      · simp [h]
      · simp only [h, if_false]
        cases FltBitsP.over t
        · exact .inl rfl
        · exact .inr (.inl rfl)
  have hb : ∀ b : Bool, (if b then 1 else 0 : Nat) = 0 ∨ (if b then 1 else 0 : Nat) = 1 ∨ (if b then 1 else 0 : Nat) = 2 := fun b => by cases b <;> simp
  have hnum : ∀ ng T r, (numF H O X ng T r).2 = 0 ∨ (numF H O X ng T r).2 = 1 ∨ (numF H O X ng T r).2 = 2 := fun ng T r => by
    unfold numF
    split
    · exact hb _
    split
    · exact .inl rfl
    split
    · exact .inr (.inl rfl)
    split
    · exact .inl rfl
    split
    · split
      · exact .inl rfl
      · exact hb _
    split
    · exact hb _
    · exact hslow _
  unfold parF
  split
  · split
    · exact .inl rfl
    · exact .inr (.inr rfl)
  · split
    · exact .inr (.inr rfl)
    · split
      · exact hnum _ _ _
      · exact .inr (.inr rfl)

set_option maxRecDepth 100000 in
/-- strconv.ParseFloat. -/
theorem float_any (B : Nat) (H O X : Nat → Nat) (EV : Nat → Value) (s : ByteArray) (hsz : s.size ≤ 2200000000) (hus : ∀ i (h : i < s.size), s[i].toNat ≠ 95) (w : World) (hB : B ≤ w.heap.size) (hT : Tabs B H O X w) (hE : Errs B EV w) : Calls Tryd.prog 19 #[.string s, .int .i64 64] w (NumE (.float .f64 (parF H O X s).1) (parF H O X s).2 EV w) := by
  by_cases hk : (parF H O X s).2 = 0
  · exact (float_ok B H O X s hsz hus w hB hT hk).mono fun e w' h => ⟨h.1, .inl ⟨hk, h.2⟩⟩
  · have hk2 : (parF H O X s).2 = 1 ∨ (parF H O X s).2 = 2 := by
      rcases parF_k H O X s with h | h | h
      · exact absurd h hk
      · exact .inl h
      · exact .inr h
    have C := parse_walk B H O X s hsz hus w hB hT
    unfold PaP at C
    obtain ⟨v, hv⟩ : ∃ v, v = (parF H O X s).1 := ⟨_, rfl⟩
    obtain ⟨k, hkk⟩ : ∃ k, k = (parF H O X s).2 := ⟨_, rfl⟩
    rw [← hv, ← hkk] at C ⊢
    rw [← hkk] at hk hk2
    have C := Aside0.mk C
    have hEr : erN k = .iface 65 (.int .i64 (k : Int)) := if_neg hk
    have D := Aside0.mk (fun (W : World) (hb : Below w.heap.size w W) => toErr B EV k hk2 ⟨#[80, 97, 114, 115, 101, 70, 108, 111, 97, 116]⟩ s 0 64 (by omega) W (hE.keep hb hB))
    rw [hEr] at C D
    clear hus hT hv hE hkk hEr
    replace hk := Aside0.mk hk
    replace hk2 := Aside0.mk hk2
    go_enter Tryd.func19, Tryd.ntmps19
    go_wp2_with (first | (go_at_call 23; refine C.out.mono ?_; rintro e w1 ⟨hb3, rfl⟩; have HB3 := Aside0.mk hb3; clear hb3) | (go_at_call 24; refine (D.out _ HB3.out).mono ?_; rintro e w2 ⟨N, rfl, h1, h2, h3⟩; have H1 := Aside0.mk h1; have H2 := Aside0.mk h2; have H3 := Aside0.mk h3; clear h1 h2 h3))
    all_goals go_ret2
    all_goals exact ⟨HB3.out.trans (H3.out.mono HB3.out.size), .inr ⟨hk.out, _, _, _, _, rfl, Nat.le_trans HB3.out.size H1.out, H2.out⟩⟩
end Go.Proofs.YtlkbhmmelejmjaaDoor.NumErr
