/- Parts of the proof of FnPartLines, one behind the other: LnDouble, LnBad. Each part says ahead of itself what it proves. -/
import Derived.Test.YtgglhfbjbddjjaaDoorPkFnPartLines8

/- ReadDouble over a text that may stand there, that is neat and without the escape U: what is good has the value that the scanner comes to. -/
namespace Go.Proofs.YtgglhfbjbddjjaaDoor.LnDouble
open Go.RowKit Go.Proofs.YtgglhfbjbddjjaaDoorW.PrintWords Go.Proofs.YtgglhfbjbddjjaaDoor.PFnPartLines Go.Proofs.YtgglhfbjbddjjaaDoor.LKnown Go.Proofs.YtgglhfbjbddjjaaDoor.LEmpty Go.Proofs.YtgglhfbjbddjjaaDoor.LFeeds Go.Proofs.YtgglhfbjbddjjaaDoor.LBreak Go.Proofs.YtgglhfbjbddjjaaDoor.LEscape Go.Proofs.YtgglhfbjbddjjaaDoor.Utf Go.Proofs.YtgglhfbjbddjjaaDoor.Runes Go.Proofs.YtgglhfbjbddjjaaDoor.LnPure Go.Proofs.YtgglhfbjbddjjaaDoor.LnSpec Go.Proofs.YtgglhfbjbddjjaaDoor.LnEsc Go.Proofs.YtgglhfbjbddjjaaDoor.LnRun Go.Proofs.YtgglhfbjbddjjaaDoor.LnInv Go.Proofs.YtgglhfbjbddjjaaDoor.LnRead
set_option linter.unusedVariables false
set_option linter.unusedSimpArgs false

/-- What has been read, where nothing was wrong; how much it is at most. -/
def InvW (rs : List Int) (R : Option (List Int)) (b : Bool) (k : Nat) (o wh : ByteArray) : Prop := k ≤ rs.length + 1 ∧ o.size + wh.size ≤ 4 * k ∧ (b = false → Inv 34 rs R k o wh)
theorem size_two (a b : ByteArray) : (a ++ b).size = a.size + b.size := ByteArray.size_append
theorem enc_size (c : Int) : (Utf8.encode c).size ≤ 4 := encode_size_le c
theorem w_white {rs : List Int} {R : Option (List Int)} {b : Bool} {k : Nat} {o wh : ByteArray} (h : InvW rs R b k o wh) (hN : Neat rs) (hi : k < rs.length) (hc : rs.getD k 0 = 32) : InvW rs R b (k + 1) o (wh ++ Utf8.encode 32) := by
  refine ⟨by omega, ?_, fun hb => ?_⟩
  · have := h.2.1
    have := enc_size 32
    rw [size_two]; omega
  · rw [encode_eq 32 (by unfold Scalar; omega)]
    exact inv_white (h.2.2 hb) hN (.inl rfl) hi hc
theorem w_other {rs : List Int} {R : Option (List Int)} {b : Bool} {k : Nat} {o wh : ByteArray} {c : Int} (h : InvW rs R b k o wh) (hi : k < rs.length) (hc : rs.getD k 0 = c) (hs : Scalar c) (h32 : c ≠ 32) (h10 : c ≠ 10) (h9 : c ≠ 9) (h13 : c ≠ 13) (hq : c ≠ 34) (hb : c ≠ 92) : InvW rs R b (k + 1) (o ++ wh ++ Utf8.encode c) ⟨#[]⟩ := by
  refine ⟨by omega, ?_, fun hbb => ?_⟩
  · have := h.2.1
    have := enc_size c
    have : (⟨#[]⟩ : ByteArray).size = 0 := rfl
    rw [size_two, size_two]; omega
  · rw [encode_eq c hs]
    exact inv_other (h.2.2 hbb) hi hc h32 h10 h9 h13 hq (fun _ => hb)
theorem w_break {rs : List Int} {R : Option (List Int)} {b : Bool} {i : Nat} {o wh : ByteArray} (h : InvW rs R b i o wh) (hN : Neat rs) (hi : i < rs.length) (hc : rs.getD i 0 = 10) {k n : Nat} {r : List Int} (he : empt k 0 (rs.drop (i + 1)) = some (n, r)) : InvW rs R b (rs.length - r.length) (o ++ gap n) ⟨#[]⟩ := by
  have hl := empt_len _ _ _ he
  rw [List.length_drop] at hl
  refine ⟨by omega, ?_, fun hb => inv_break (h.2.2 hb) hN (.inl rfl) hi hc he⟩
  have := h.2.1
  have := gap_size n
  have : (⟨#[]⟩ : ByteArray).size = 0 := rfl
  rw [size_two]; omega
theorem w_join {rs : List Int} {R : Option (List Int)} {b : Bool} {i : Nat} {o wh : ByteArray} (h : InvW rs R b i o wh) (hN : Neat rs) (hi : i + 1 < rs.length) (hc : rs.getD i 0 = 92) (hd : rs.getD (i + 1) 0 = 10) {k n : Nat} {r : List Int} (he : empt k 0 (rs.drop (i + 2)) = some (n, r)) : n = 0 ∧ InvW rs R b (rs.length - r.length) (o ++ wh ++ ⟨#[]⟩) ⟨#[]⟩ := by
  have hl := empt_len _ _ _ he
  rw [List.length_drop] at hl
  have e0 : o ++ wh ++ ⟨#[]⟩ = o ++ wh := by
    refine eq_of_B ?_
    rw [B_append]; simp [B]
  -- an empty line behind a backslash does not stand there
  have hz : n = 0 := by
    cases n with
    | zero => rfl
    | succ n =>
      exfalso
      obtain ⟨k, rfl⟩ : ∃ j, k = j + 1 := by
        cases k with
        | zero => cases he
        | succ k => exact ⟨k, rfl⟩
      unfold empt at he
      split at he
      · cases he
      · split at he
        · rename_i hs
          have hN2 := hN.drop (i + 2)
          have e := skip_feed _ hN2 hs
          rw [e] at hs
          cases hx : rs.drop (i + 2) with
          | nil => rw [hx] at hs; cases hs
          | cons y t =>
            rw [hx] at hs
            injection hs with hs
            subst hs
            exact hN.bs10 _ t (take_eq rs i (by rw [at_i (by omega) hc, show rs.drop (i + 1) = 10 :: rs.drop (i + 2) from at_i hi hd, hx]))
        · injection he with he
          injection he with e1 e2
          cases e1
  refine ⟨hz, by omega, ?_, fun hb => ?_⟩
  · have := h.2.1
    have : (⟨#[]⟩ : ByteArray).size = 0 := rfl
    rw [size_two, size_two]; omega
  · rw [e0]
    exact (inv_join (h.2.2 hb) hN hi hc hd he).2
theorem w_esc {rs : List Int} {R : Option (List Int)} {b : Bool} {i : Nat} {o wh : ByteArray} {x : Int} {n : Nat} (h : InvW rs R b i o wh) (hN : Neat rs) (hi : i < rs.length) (hc : rs.getD i 0 = 92) (h10 : (rs.drop (i + 1)).head? ≠ some 10) (hn : n ≤ rs.length) (hin : i + 2 ≤ n) (hs : Scalar x) (he : esc (rs.drop (i + 1)) = some (x, rs.drop n)) : InvW rs R b n (o ++ wh ++ Utf8.encode x) ⟨#[]⟩ := by
  refine ⟨by omega, ?_, fun hb => ?_⟩
  · have := h.2.1
    have := enc_size x
    have : (⟨#[]⟩ : ByteArray).size = 0 := rfl
    rw [size_two, size_two]; omega
  · rw [encode_eq x hs]
    exact inv_esc (h.2.2 hb) hN hi hc h10 hn hin he
theorem w_bad {rs : List Int} {R : Option (List Int)} {b : Bool} {i : Nat} {o wh : ByteArray} (x : Int) (h : InvW rs R b i o wh) (hi : i < rs.length) : InvW rs R true (i + 2) (o ++ wh ++ Utf8.encode x) ⟨#[]⟩ := by
  refine ⟨by omega, ?_, fun hb => by cases hb⟩
  have := h.2.1
  have := enc_size x
  have : (⟨#[]⟩ : ByteArray).size = 0 := rfl
  rw [size_two, size_two]; omega

set_option maxHeartbeats 4000000 in
set_option maxRecDepth 100000 in
theorem double_any (s : ByteArray) (rs : List Int) (w : World) (hT : Tabs w) (hs : s.size ≤ 65535) (hsc : ∀ r ∈ rs, Scalar r) (hal : all true rs = true) (he : B s = enc rs) (hN : Neat rs) (hU : ∀ A C, rs ≠ A ++ 85 :: C) :
    Calls Tryd.prog 8 #[.string s] w (RdP 34 rs w) := by
  have C := Aside0.mk (scRunes_ok s rs w hT (by omega) hsc he)
  have hl := (enc_length rs).1
  rw [← he, B_length] at hl
  have HA := Aside0.mk (all_f rs true (by omega))
  rw [hal] at HA
  have HSC := Aside0.mk hsc
  have HNT := Aside0.mk hN
  have HU := Aside0.mk hU
  clear he hT hsc hal hN hU
  obtain ⟨N, hN⟩ : ∃ N, N = rs.length := ⟨_, rfl⟩
  have HN := Aside0.mk hN
  rw [← hN] at hl
  have hN2 : N ≤ 65535 := by omega
  clear hN
  go_enter Tryd.func8, Tryd.ntmps8
  go_wp2_with fail
  refine C.out.mono ?_
  rintro e w1 ⟨g, cap, rfl, hr, hc, hg, _, b1⟩
  have B1 := Aside0.mk b1
  have HR := Aside0.mk hr
  have HC := Aside0.mk hc
  clear b1 hr
  go_wp2_with fail
  refine (spec_scAll.calls _ _ cap rs true true _ (HR.out.kd (by have := HN.out; omega)) hc HA.out).mono ?_
  rintro e w2 ⟨rfl, ⟨m2, rfl⟩⟩
  clear hc
  rw [← HN.out]
  go_wp2_with fail
  go_loopw [6, 7, 8, 9] (fun o wh wg i wr => ∃ (k : Nat) (bo bw : ByteArray) (wb : Bool), k ≤ N + 1 ∧ i = .int .i64 (k : Nat) ∧ o = .string bo ∧ wh = .string bw ∧ wg = .bool wb ∧ Aside0 (InvW rs (scan 34 (rs.length + 2) (rs ++ [34, 10]) [] false) wb k bo bw) ∧ Aside0 (Below w1.heap.size w1 wr)) (fun _ _ _ i _ => N + 1 - (intOf i).toNat)
  case atStart => exact ⟨0, ⟨#[]⟩, ⟨#[]⟩, false, by omega, rfl, rfl, rfl, rfl, ⟨by omega, Nat.le_refl _, fun _ => inv_start 34 rs⟩, ⟨(Drawn0.below ⟨⟨m2, rfl⟩⟩)⟩⟩
  case round =>
    obtain ⟨k, bo, bw, wb, hk, rfl, rfl, rfl, rfl, HI, HB⟩ := hrel
    have hsz : bo.size + bw.size ≤ 4 * (N + 1) := by have := HI.out.2.1; omega
    by_cases hlt : k < N
    · have hkr : k < rs.length := by rw [← HN.out]; exact hlt
      have HK := Aside0.mk hkr
      have hcell := (HR.out.below HB.out) k hkr
      have hscal := HSC.out (rs.getD k 0) (by rw [show rs.getD k 0 = rs[k] by simp [List.getD, hkr]]; exact List.getElem_mem hkr)
      have HE := Aside0.mk (at_i hkr (rfl : rs.getD k 0 = _))
      clear hkr
      obtain ⟨c, hcd⟩ : ∃ c, c = rs.getD k 0 := ⟨_, rfl⟩
      rw [← hcd] at hcell hscal HE
      have HC2 := Aside0.mk hcd.symm
      clear hcd
      have c9 : c ≠ 9 := fun h => HNT.out.tab _ _ (by rw [← h]; exact take_eq rs k HE.out)
      have c13 : c ≠ 13 := fun h => HNT.out.cr _ _ (by rw [← h]; exact take_eq rs k HE.out)
      by_cases h92 : c = 92
      · subst h92
        clear hscal c9 c13
        -- the escape at k, whatever follows
        have HES : Aside0 (∃ (x : Int) (y : Int) (ok : Bool), spec_scEscape.f (rs.length + 5) rs (k : Int) = some (x, y, ok) ∧ (ok = true → ∃ n : Nat, y = (n : Int) ∧ k + 2 ≤ n ∧ n ≤ rs.length ∧ esc (rs.drop (k + 1)) = some (x, rs.drop n) ∧ Scalar x)) := ⟨escape_f rs (by have := HN.out; omega) HSC.out k HK.out (fun h => by
          cases hd : rs.drop (k + 1) with
          | nil => rw [hd] at h; cases h
          | cons d t =>
            rw [hd] at h; injection h with h; subst h
            exact HU.out _ _ (take_eq rs (k + 1) hd)) (fun h => by
          cases hd : rs.drop (k + 1) with
          | nil => rw [hd] at h; cases h
          | cons d t =>
            rw [hd] at h; injection h with h; subst h
            exact HNT.out.tab _ _ (take_eq rs (k + 1) hd))⟩
        by_cases hk1 : k + 1 < N
        · have hk1r : k + 1 < rs.length := by rw [← HN.out]; exact hk1
          have HK1 := Aside0.mk hk1r
          have hcell2 := (HR.out.below HB.out) (k + 1) hk1r
          have HE2 := Aside0.mk (at_i hk1r (rfl : rs.getD (k + 1) 0 = _))
          clear hk1r
          obtain ⟨d, hdd⟩ : ∃ d, d = rs.getD (k + 1) 0 := ⟨_, rfl⟩
          rw [← hdd] at hcell2 HE2
          have HD2 := Aside0.mk hdd.symm
          clear hdd
          have i1 : decide ((k : Int) + 1 < (N : Int)) = true := decide_eq_true (by omega)
          by_cases d10 : d = 10
          · subst d10
            cases hE : empt (rs.length + 1) 0 (rs.drop (k + 2)) with
            | none =>
              have HF := Aside0.mk (empty_f rs (by have := HN.out; omega) (k + 2) HK1.out)
              rw [hE] at HF
              have CBR := Aside0.mk (fun (W : World) (hW : Below w1.heap.size w1 W) => spec_scEmpty.calls _ (some ⟨g, 0, none⟩) cap rs ((k + 2 : Nat) : Int) 0 0 false W ((HR.out.below hW).kd (by have := HN.out; omega)) HC.out HF.out)
              rw [← HN.out] at CBR
              clear hE
              go_wp2_with (go_at_call 13; refine (CBR.out _ HB.out).mono ?_; rintro e w3 ⟨rfl, ⟨m3, rfl⟩⟩)
              go_ret2
              exact rd_out (B1.out.trans ((pw_below_drewN HB.out _).mono B1.out.size)) 0 (by decide)
            | some p =>
              obtain ⟨n, r⟩ := p
              have HF := Aside0.mk (empty_f rs (by have := HN.out; omega) (k + 2) HK1.out)
              rw [hE] at HF
              obtain ⟨hz, hV⟩ := w_join HI.out HNT.out HK1.out HC2.out HD2.out hE
              subst hz
              have HV := Aside0.mk hV
              have hl := empt_len _ _ _ hE
              rw [List.length_drop, ← HN.out] at hl
              have hy : rs.length - r.length = N - r.length := by rw [← HN.out]
              rw [hy] at HV
              have HF2 : Aside0 (spec_scEmpty.f (2 * rs.length + 3) rs ((k + 2 : Nat) : Int) = some (0, ((N - r.length : Nat) : Int), true)) := ⟨by rw [HF.out]; simp only [E]; rw [hy]; rfl⟩
              have CBR := Aside0.mk (fun (W : World) (hW : Below w1.heap.size w1 W) => spec_scEmpty.calls _ (some ⟨g, 0, none⟩) cap rs ((k + 2 : Nat) : Int) 0 ((N - r.length : Nat) : Int) true W ((HR.out.below hW).kd (by have := HN.out; omega)) HC.out HF2.out)
              rw [← HN.out] at CBR
              have CFE := Aside0.mk (fun W => spec_scFeeds.calls 5 0 ⟨#[]⟩ W (feeds_f 0 (by decide) 5 (by decide)))
              clear hE hV HF HF2 hy
              go_wp2_with (first
                | (go_at_call 13; refine (CBR.out _ HB.out).mono ?_; rintro e w3 ⟨rfl, ⟨m3, rfl⟩⟩)
                | (go_at_call 14; refine (CFE.out _).mono ?_; rintro e w4 ⟨rfl, hb4⟩; have HB4 := Aside0.mk hb4; clear hb4))
              go_roundw
              case rel => exact ⟨N - r.length, bo ++ bw ++ ⟨#[]⟩, ⟨#[]⟩, wb, by omega, rfl, rfl, rfl, rfl, HV, ⟨below_then (pw_below_drewN HB.out _) (by exact HB.out.size) HB4.out⟩⟩
              case measure => simp [intOf]; omega
          · have d10b : (d == 10) = false := by simpa using d10
            have hh10 := Aside0.mk (show (rs.drop (k + 1)).head? ≠ some 10 from fun h => by rw [HE2.out] at h; injection h with h; exact d10 h)
            by_cases d47 : d = 47
            · subst d47
              clear d10 d10b hh10
              go_wp2_with fail
              go_ret2
              exact rd_out (B1.out.trans (HB.out.mono B1.out.size)) 0 (by decide)
            have d47b : (d == 47) = false := by simpa using d47
            by_cases d39 : d = 39
            · subst d39
              clear d10 d10b hh10 d47 d47b
              go_wp2_with fail
              go_ret2
              exact rd_out (B1.out.trans (HB.out.mono B1.out.size)) 0 (by decide)
            have d39b : (d == 39) = false := by simpa using d39
            obtain ⟨x, y, ok, hf, hok⟩ := HES.out
            have CBR := Aside0.mk (fun (W : World) (hW : Below w1.heap.size w1 W) => spec_scEscape.calls _ (some ⟨g, 0, none⟩) cap rs (k : Nat) x y ok W ((HR.out.below hW).kd (by have := HN.out; omega)) HC.out hf)
            rw [← HN.out] at CBR
            have hes := enc_size x
            clear hf HES d10 d47 d39
            cases ok with
            | true =>
              obtain ⟨n, rfl, hn2, hn3, hesc, hsx⟩ := hok rfl
              have HV := Aside0.mk (w_esc HI.out HNT.out HK.out HC2.out hh10.out hn3 hn2 hsx hesc)
              rw [← HN.out] at hn3
              clear hok hesc hsx
              go_wp2_with (go_at_call 15; refine (CBR.out _ HB.out).mono ?_; rintro e w3 ⟨rfl, hb3⟩; have HB3 := Aside0.mk hb3; clear hb3)
              go_roundw
              case rel => exact ⟨n, bo ++ bw ++ Utf8.encode x, ⟨#[]⟩, wb, by omega, rfl, rfl, rfl, rfl, HV, ⟨below_then HB.out HB.out.size HB3.out⟩⟩
              case measure => simp [intOf]; omega
            | false =>
              have HV := Aside0.mk (w_bad x HI.out HK.out)
              clear hok
              go_wp2_with (go_at_call 15; refine (CBR.out _ HB.out).mono ?_; rintro e w3 ⟨rfl, hb3⟩; have HB3 := Aside0.mk hb3; clear hb3)
              go_roundw
              case rel => exact ⟨k + 2, bo ++ bw ++ Utf8.encode x, ⟨#[]⟩, true, by omega, by go_num, rfl, rfl, rfl, HV, ⟨below_then HB.out HB.out.size HB3.out⟩⟩
              case measure => simp [intOf]; omega
        · have i1 : decide ((k : Int) + 1 < (N : Int)) = false := decide_eq_false (by omega)
          have hh10 : (rs.drop (k + 1)).head? ≠ some 10 := by
            rw [List.drop_eq_nil_of_le (by have := HN.out; omega)]; decide
          obtain ⟨x, y, ok, hf, hok⟩ := HES.out
          have CBR := Aside0.mk (fun (W : World) (hW : Below w1.heap.size w1 W) => spec_scEscape.calls _ (some ⟨g, 0, none⟩) cap rs (k : Nat) x y ok W ((HR.out.below hW).kd (by have := HN.out; omega)) HC.out hf)
          rw [← HN.out] at CBR
          have hes := enc_size x
          clear hf HES hh10
          cases ok with
          | true =>
            obtain ⟨n, rfl, hn2, hn3, hesc, hsx⟩ := hok rfl
            exfalso
            have := HN.out
            omega
          | false =>
            have HV := Aside0.mk (w_bad x HI.out HK.out)
            clear hok
            go_wp2_with (go_at_call 15; refine (CBR.out _ HB.out).mono ?_; rintro e w3 ⟨rfl, hb3⟩; have HB3 := Aside0.mk hb3; clear hb3)
            go_roundw
            case rel => exact ⟨k + 2, bo ++ bw ++ Utf8.encode x, ⟨#[]⟩, true, by omega, by go_num, rfl, rfl, rfl, HV, ⟨below_then HB.out HB.out.size HB3.out⟩⟩
            case measure => simp [intOf]; omega
      · have h92b : (c == 92) = false := by simpa using h92
        by_cases h10 : c = 10
        · subst h10
          clear h92 h92b
          cases hE : empt (rs.length + 1) 0 (rs.drop (k + 1)) with
          | none =>
            have HF := Aside0.mk (break_f rs (by have := HN.out; omega) k HK.out)
            rw [hE] at HF
            have CBR := Aside0.mk (fun (W : World) (hW : Below w1.heap.size w1 W) => spec_scBreak.calls _ (some ⟨g, 0, none⟩) cap rs (k : Nat) _ _ _ W ((HR.out.below hW).kd (by have := HN.out; omega)) HC.out HF.out)
            rw [← HN.out] at CBR
            clear hE hscal c9 c13
            go_wp2_with (go_at_call 16; refine (CBR.out _ HB.out).mono ?_; rintro e w3 ⟨rfl, hb3⟩; have HB3 := Aside0.mk hb3; clear hb3)
            go_ret2
            exact rd_out (B1.out.trans ((below_then HB.out (HB.out.size) HB3.out).mono B1.out.size)) 0 (by decide)
          | some p =>
            obtain ⟨n, r⟩ := p
            have HF := Aside0.mk (break_f rs (by have := HN.out; omega) k HK.out)
            rw [hE] at HF
            have hy : rs.length - r.length = N - r.length := by rw [← HN.out]
            simp only [hy] at HF
            have CBR := Aside0.mk (fun (W : World) (hW : Below w1.heap.size w1 W) => spec_scBreak.calls _ (some ⟨g, 0, none⟩) cap rs (k : Nat) (gap n) ((N - r.length : Nat) : Int) true W ((HR.out.below hW).kd (by have := HN.out; omega)) HC.out HF.out)
            rw [← HN.out] at CBR
            have HV := Aside0.mk (w_break HI.out HNT.out HK.out HC2.out hE)
            rw [hy] at HV
            have hgs := gap_size n
            have hl := empt_len _ _ _ hE
            rw [List.length_drop, ← HN.out] at hl
            clear hE hscal c9 c13 hy HF
            go_wp2_with (go_at_call 16; refine (CBR.out _ HB.out).mono ?_; rintro e w3 ⟨rfl, hb3⟩; have HB3 := Aside0.mk hb3; clear hb3)
            go_roundw
            case rel => exact ⟨N - r.length, bo ++ gap n, ⟨#[]⟩, wb, by omega, rfl, rfl, rfl, rfl, HV, ⟨below_then HB.out HB.out.size HB3.out⟩⟩
            case measure => simp [intOf]; omega
        · have h10b : (c == 10) = false := by simpa using h10
          by_cases h34 : c = 34
          · subst h34
            clear hscal c9 c13 h10 h92
            go_wp2_with fail
            go_ret2
            exact rd_out (B1.out.trans (HB.out.mono B1.out.size)) 0 (by decide)
          have h34b : (c == 34) = false := by simpa using h34
          by_cases hwh : c = 32
          · subst hwh
            have HV := Aside0.mk (w_white HI.out HNT.out HK.out HC2.out)
            have HW := Aside0.mk (white_f 32)
            rw [decide_eq_true (.inl rfl)] at HW
            have he4 := enc_size 32
            clear hscal c9 c13 h10 h34 h92
            go_wp2_with (go_at_call 17; refine (spec_scWhite.calls 32 _ _ HW.out).mono ?_; rintro e w3 ⟨rfl, ⟨m3, rfl⟩⟩)
            go_roundw
            case rel => exact ⟨k + 1, bo, bw ++ Utf8.encode 32, wb, by omega, by go_num, rfl, rfl, rfl, HV, ⟨by repeat (first | exact HB.out | apply pw_below_drewN | apply below_drew1)⟩⟩
            case measure => simp [intOf]; omega
          · have HV := Aside0.mk (w_other HI.out HK.out HC2.out hscal hwh h10 c9 c13 h34 h92)
            have HW := Aside0.mk (white_f c)
            rw [decide_eq_false (show ¬ (c = 32 ∨ c = 9) by omega)] at HW
            have he4 := enc_size c
            clear hscal c9 c13 h10 hwh h34 h92
            go_wp2_with (go_at_call 17; refine (spec_scWhite.calls c _ _ HW.out).mono ?_; rintro e w3 ⟨rfl, ⟨m3, rfl⟩⟩)
            go_roundw
            case rel => exact ⟨k + 1, bo ++ bw ++ Utf8.encode c, ⟨#[]⟩, wb, by omega, by go_num, rfl, rfl, rfl, HV, ⟨by repeat (first | exact HB.out | apply pw_below_drewN | apply below_drew1)⟩⟩
            case measure => simp [intOf]; omega
    · have i1 : decide ((k : Int) < (N : Int)) = false := decide_eq_false (by omega)
      cases wb with
      | true =>
        go_wp2_with fail
        go_ret2
        exact rd_out (B1.out.trans (HB.out.mono B1.out.size)) 1 (by decide)
      | false =>
        have HI2 := HI.out.2.2 rfl
        have hk3 : k = rs.length := by have := HI2.1; have := HN.out; omega
        rw [hk3] at HI2
        have HF := Aside0.mk (inv_fin (.inl rfl) HI2)
        clear HI2 hk3
        go_wp2_with fail
        go_ret2
        exact ⟨B1.out.trans (HB.out.mono B1.out.size), _, _, rfl, fun _ => HF.out⟩
end Go.Proofs.YtgglhfbjbddjjaaDoor.LnDouble

/- ReadSingle and ReadDouble over a text that may not stand there: nothing is good. -/
namespace Go.Proofs.YtgglhfbjbddjjaaDoor.LnBad
open Go.RowKit Go.Proofs.YtgglhfbjbddjjaaDoorW.PrintWords Go.Proofs.YtgglhfbjbddjjaaDoor.PFnPartLines Go.Proofs.YtgglhfbjbddjjaaDoor.LKnown Go.Proofs.YtgglhfbjbddjjaaDoor.Utf Go.Proofs.YtgglhfbjbddjjaaDoor.Runes
set_option linter.unusedVariables false
set_option linter.unusedSimpArgs false

/-- The answer where nothing is good. -/
def BadP (w : World) (e : Ending) (w' : World) : Prop := e = .returned (.tuple #[.string ⟨#[]⟩, .int .i64 0]) ∧ Below w.heap.size w w'
set_option maxHeartbeats 1000000 in
set_option maxRecDepth 100000 in
theorem single_bad (s : ByteArray) (w : World) (hT : Tabs w) (hs : s.size ≤ 65535) (hn : ¬ mayStand true s) :
    Calls Tryd.prog 9 #[.string s] w (BadP w) := by
  rcases stands_not true s hn with h | ⟨_, hv⟩ | ⟨_, rs, hsc, he, hal⟩
  · omega
  · have C := Aside0.mk (scRunes_bad s w hT (by omega) hv)
    clear hT hn hv
    go_enter Tryd.func9, Tryd.ntmps9
    go_wp2_with fail
    refine C.out.mono ?_
    rintro e w1 ⟨rfl, b1⟩
    have B1 := Aside0.mk b1
    clear b1
    go_wp2_with fail
    go_ret2
    exact ⟨rfl, B1.out⟩
  · have C := Aside0.mk (scRunes_ok s rs w hT (by omega) hsc he)
    have hl := (enc_length rs).1
    rw [← he, B_length] at hl
    have HA := Aside0.mk (all_f rs true (by omega))
    rw [hal] at HA
    have HL := Aside0.mk hl
    clear he hT hsc hal hn hl
    go_enter Tryd.func9, Tryd.ntmps9
    go_wp2_with fail
    refine C.out.mono ?_
    rintro e w1 ⟨g, cap, rfl, hr, hc, hg, _, b1⟩
    have B1 := Aside0.mk b1
    have HR := Aside0.mk hr
    clear b1 hr
    go_wp2_with fail
    refine (spec_scAll.calls _ _ cap rs true false _ (HR.out.kd (by have := HL.out; omega)) hc HA.out).mono ?_
    rintro e w2 ⟨rfl, ⟨m2, rfl⟩⟩
    clear hc
    go_wp2_with fail
    go_ret2
    exact ⟨rfl, pw_below_drewN B1.out _⟩
set_option maxHeartbeats 1000000 in
set_option maxRecDepth 100000 in
theorem double_bad (s : ByteArray) (w : World) (hT : Tabs w) (hs : s.size ≤ 65535) (hn : ¬ mayStand true s) :
    Calls Tryd.prog 8 #[.string s] w (BadP w) := by
  rcases stands_not true s hn with h | ⟨_, hv⟩ | ⟨_, rs, hsc, he, hal⟩
  · omega
  · have C := Aside0.mk (scRunes_bad s w hT (by omega) hv)
    clear hT hn hv
    go_enter Tryd.func8, Tryd.ntmps8
    go_wp2_with fail
    refine C.out.mono ?_
    rintro e w1 ⟨rfl, b1⟩
    have B1 := Aside0.mk b1
    clear b1
    go_wp2_with fail
    go_ret2
    exact ⟨rfl, B1.out⟩
  · have C := Aside0.mk (scRunes_ok s rs w hT (by omega) hsc he)
    have hl := (enc_length rs).1
    rw [← he, B_length] at hl
    have HA := Aside0.mk (all_f rs true (by omega))
    rw [hal] at HA
    have HL := Aside0.mk hl
    clear he hT hsc hal hn hl
    go_enter Tryd.func8, Tryd.ntmps8
    go_wp2_with fail
    refine C.out.mono ?_
    rintro e w1 ⟨g, cap, rfl, hr, hc, hg, _, b1⟩
    have B1 := Aside0.mk b1
    have HR := Aside0.mk hr
    clear b1 hr
    go_wp2_with fail
    refine (spec_scAll.calls _ _ cap rs true false _ (HR.out.kd (by have := HL.out; omega)) hc HA.out).mono ?_
    rintro e w2 ⟨rfl, ⟨m2, rfl⟩⟩
    clear hc
    go_wp2_with fail
    go_ret2
    exact ⟨rfl, pw_below_drewN B1.out _⟩
end Go.Proofs.YtgglhfbjbddjjaaDoor.LnBad
