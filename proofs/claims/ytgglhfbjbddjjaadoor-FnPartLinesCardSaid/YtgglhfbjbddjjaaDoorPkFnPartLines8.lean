/- Parts of the proof of FnPartLines, one behind the other: LnRead. Each part says ahead of itself what it proves. -/
import Derived.Test.YtgglhfbjbddjjaaDoorPkFnPartLines6
import Derived.Test.YtgglhfbjbddjjaaDoorPkFnPartLines7
import Derived.Deep.RegionHeld3

/- ReadSingle over a text that may stand there, that is neat and without single quotes: what is good has the value that the scanner comes to. -/
namespace Go.Proofs.YtgglhfbjbddjjaaDoor.LnRead
open Go.RowKit Go.Proofs.YtgglhfbjbddjjaaDoorW.PrintWords Go.Proofs.YtgglhfbjbddjjaaDoor.PFnPartLines Go.Proofs.YtgglhfbjbddjjaaDoor.LKnown Go.Proofs.YtgglhfbjbddjjaaDoor.LEmpty Go.Proofs.YtgglhfbjbddjjaaDoor.LFeeds Go.Proofs.YtgglhfbjbddjjaaDoor.LBreak Go.Proofs.YtgglhfbjbddjjaaDoor.LEscape Go.Proofs.YtgglhfbjbddjjaaDoor.Utf Go.Proofs.YtgglhfbjbddjjaaDoor.Runes Go.Proofs.YtgglhfbjbddjjaaDoor.LnPure Go.Proofs.YtgglhfbjbddjjaaDoor.LnSpec Go.Proofs.YtgglhfbjbddjjaaDoor.LnRun Go.Proofs.YtgglhfbjbddjjaaDoor.LnInv
set_option linter.unusedVariables false
set_option linter.unusedSimpArgs false

/-- What string(r) is. -/
theorem encode_eq (r : Int) (h : Scalar r) : Utf8.encode r = ba (Lib.encodeRune r) := by
  obtain ⟨h0, h1⟩ := h
  have hv : Utf8.valid r = true := by unfold Utf8.valid; simp; omega
  unfold Utf8.encode
  simp only [hv, if_true]
  unfold ba Lib.encodeRune
  by_cases a : r ≤ 127
  · rw [if_pos (by omega), Lib.encodeRuneZ_one h0 a]; rfl
  · rw [if_neg (by omega)]
    by_cases b : r ≤ 2047
    · rw [if_pos (by omega), Lib.encodeRuneZ_two (by omega) b]
      simp only [List.map_cons, List.map_nil]
      have e0 : (192 + r / 64).toNat = 0xC0 + r.toNat / 64 := by omega
      have e1 : (128 + r % 64).toNat = 0x80 + r.toNat % 64 := by omega
      rw [e0, e1]
    · rw [if_neg (by omega)]
      by_cases c : r ≤ 65535
      · rw [if_pos (by omega), Lib.encodeRuneZ_three (by omega)]
        simp only [List.map_cons, List.map_nil]
        have e0 : (224 + r / 4096).toNat = 0xE0 + r.toNat / 4096 := by omega
        have e1 : (128 + r / 64 % 64).toNat = 0x80 + r.toNat / 64 % 64 := by omega
        have e2 : (128 + r % 64).toNat = 0x80 + r.toNat % 64 := by omega
        rw [e0, e1, e2]
      · rw [if_neg (by omega), Lib.encodeRuneZ_four (by omega) (by omega)]
        simp only [List.map_cons, List.map_nil]
        have e0 : (240 + r / 262144).toNat = 0xF0 + r.toNat / 262144 := by omega
        have e1 : (128 + r / 4096 % 64).toNat = 0x80 + r.toNat / 4096 % 64 := by omega
        have e2 : (128 + r / 64 % 64).toNat = 0x80 + r.toNat / 64 % 64 := by omega
        have e3 : (128 + r % 64).toNat = 0x80 + r.toNat % 64 := by omega
        rw [e0, e1, e2, e3]
/-- The answer: a value that the scanner comes to, too, if it is good. -/
def RdP (q : Int) (rs : List Int) (w : World) (e : Ending) (w' : World) : Prop := Below w.heap.size w w' ∧ ∃ (t : ByteArray) (k : Int), e = .returned (.tuple #[.string t, .int .i64 k]) ∧ (k = 2 → ∃ v, scan q (rs.length + 2) (rs ++ [q, 10]) [] false = some v ∧ B t = enc v)
theorem rd_out {q : Int} {rs : List Int} {w w' : World} (h : Below w.heap.size w w') (k : Int) (hk : k ≠ 2) : RdP q rs w (.returned (.tuple #[.string ⟨#[]⟩, .int .i64 k])) w' := ⟨h, _, _, rfl, fun h => absurd h hk⟩
theorem gap_size (n : Nat) : (gap n).size ≤ n + 1 := by
  unfold gap
  split
  · exact Nat.le_add_left _ _
  · rw [ba_size, List.length_replicate]; omega
set_option maxHeartbeats 2000000 in
set_option maxRecDepth 100000 in
theorem single_any (s : ByteArray) (rs : List Int) (w : World) (hT : Tabs w) (hs : s.size ≤ 65535) (hsc : ∀ r ∈ rs, Scalar r) (hal : all true rs = true) (he : B s = enc rs) (hN : Neat rs) (hq : ∀ A C, rs ≠ A ++ 39 :: C) :
    Calls Tryd.prog 9 #[.string s] w (RdP 39 rs w) := by
  have C := Aside0.mk (scRunes_ok s rs w hT (by omega) hsc he)
  have hl := (enc_length rs).1
  rw [← he, B_length] at hl
  have HA := Aside0.mk (all_f rs true (by omega))
  rw [hal] at HA
  have HSC := Aside0.mk hsc
  have HNT := Aside0.mk hN
  have HQ := Aside0.mk hq
  clear he hT hsc hal hN hq
  obtain ⟨N, hN⟩ : ∃ N, N = rs.length := ⟨_, rfl⟩
  have HN := Aside0.mk hN
  rw [← hN] at hl
  have hN2 : N ≤ 65535 := by omega
  clear hN
  go_enter Tryd.func9, Tryd.ntmps9
  go_wp2_with fail
  refine C.out.mono ?_
  rintro e w1 ⟨g, cap, rfl, hr, hc, hg, _, b1⟩
  have B1 := Aside0.mk b1
  have HR := Aside0.mk hr
  have HC := Aside0.mk hc
  clear b1 hr
  go_wp2_with fail
  refine (spec_scAll.calls _ _ cap rs true true _ (HR.out.kd (by have := HN.out; omega)) hc HA.out).mono ?_
  rintro e w2 ⟨rfl, ⟨m2, rfl⟩⟩
  clear hc
  rw [← HN.out]
  go_wp2_with fail
  go_loopw [6, 7, 8] (fun o wh i wr => ∃ (k : Nat) (bo bw : ByteArray), k ≤ N ∧ i = .int .i64 (k : Nat) ∧ o = .string bo ∧ wh = .string bw ∧ Aside0 (Inv 39 rs (scan 39 (rs.length + 2) (rs ++ [39, 10]) [] false) k bo bw) ∧ Aside0 (Below w1.heap.size w1 wr)) (fun _ _ i _ => N - (intOf i).toNat)
  case atStart => exact ⟨0, ⟨#[]⟩, ⟨#[]⟩, by omega, rfl, rfl, rfl, ⟨inv_start 39 rs⟩, ⟨(Drawn0.below ⟨⟨m2, rfl⟩⟩)⟩⟩
  case round =>
    obtain ⟨k, bo, bw, hk, rfl, rfl, rfl, HI, HB⟩ := hrel
    by_cases hlt : k < N
    · have hsz := inv_size HI.out
      rw [← HN.out] at hsz
      have hkr : k < rs.length := by rw [← HN.out]; exact hlt
      have HK := Aside0.mk hkr
      have hcell := (HR.out.below HB.out) k hkr
      have hscal := HSC.out (rs.getD k 0) (by rw [show rs.getD k 0 = rs[k] by simp [List.getD, hkr]]; exact List.getElem_mem hkr)
      have HE := Aside0.mk (at_i hkr (rfl : rs.getD k 0 = _))
      clear hkr
      obtain ⟨c, hcd⟩ : ∃ c, c = rs.getD k 0 := ⟨_, rfl⟩
      rw [← hcd] at hcell hscal HE
      have HC2 := Aside0.mk hcd.symm
      clear hcd
      have c9 : c ≠ 9 := fun h => HNT.out.tab _ _ (by rw [← h]; exact take_eq rs k HE.out)
      have c13 : c ≠ 13 := fun h => HNT.out.cr _ _ (by rw [← h]; exact take_eq rs k HE.out)
      have c39 : c ≠ 39 := fun h => HQ.out _ _ (by rw [← h]; exact take_eq rs k HE.out)
      by_cases h10 : c = 10
      · subst h10
        cases hE : empt (rs.length + 1) 0 (rs.drop (k + 1)) with
        | none =>
          have HF := Aside0.mk (break_f rs (by have := HN.out; omega) k HK.out)
          rw [hE] at HF
          have CBR := Aside0.mk (fun (W : World) (hW : Below w1.heap.size w1 W) => spec_scBreak.calls _ (some ⟨g, 0, none⟩) cap rs (k : Nat) _ _ _ W ((HR.out.below hW).kd (by have := HN.out; omega)) HC.out HF.out)
          rw [← HN.out] at CBR
          clear hE hscal c9 c13 c39
          go_wp2_with (go_at_call 16; refine (CBR.out _ HB.out).mono ?_; rintro e w3 ⟨rfl, hb3⟩; have HB3 := Aside0.mk hb3; clear hb3)
          go_ret2
          exact rd_out (B1.out.trans ((below_then HB.out (HB.out.size) HB3.out).mono B1.out.size)) 0 (by decide)
        | some p =>
          obtain ⟨n, r⟩ := p
          have HF := Aside0.mk (break_f rs (by have := HN.out; omega) k HK.out)
          rw [hE] at HF
          have CBR := Aside0.mk (fun (W : World) (hW : Below w1.heap.size w1 W) => spec_scBreak.calls _ (some ⟨g, 0, none⟩) cap rs (k : Nat) _ _ _ W ((HR.out.below hW).kd (by have := HN.out; omega)) HC.out HF.out)
          rw [← HN.out] at CBR
          have HV := Aside0.mk (inv_break HI.out HNT.out (.inr rfl) HK.out HC2.out hE)
          have hgs := gap_size n
          have hl := empt_len _ _ _ hE
          rw [List.length_drop, ← HN.out] at hl
          rw [← HN.out] at HV
          clear hE hscal c9 c13 c39
          go_wp2_with (go_at_call 16; refine (CBR.out _ HB.out).mono ?_; rintro e w3 ⟨rfl, hb3⟩; have HB3 := Aside0.mk hb3; clear hb3)
          go_roundw
          case rel => exact ⟨N - r.length, bo ++ gap n, ⟨#[]⟩, by omega, by rw [HN.out], rfl, rfl, ⟨by have h := HV.out; rw [HN.out] at h ⊢; exact h⟩, ⟨below_then HB.out (HB.out.size) HB3.out⟩⟩
          case measure => have := HN.out; simp [intOf]; omega
      · have h10b : (c == 10) = false := by simpa using h10
        by_cases hwh : c = 32
        · subst hwh
          have HV := Aside0.mk (inv_white HI.out HNT.out (.inr rfl) HK.out HC2.out)
          rw [← encode_eq 32 (by unfold Scalar; omega)] at HV
          have HW := Aside0.mk (white_f 32)
          rw [decide_eq_true (.inl rfl)] at HW
          have he4 := encode_size_le 32
          clear hscal c9 c13 c39 h10
          go_wp2_with (go_at_call 17; refine (spec_scWhite.calls 32 _ _ HW.out).mono ?_; rintro e w3 ⟨rfl, ⟨m3, rfl⟩⟩)
          go_roundw
          case rel => exact ⟨k + 1, bo, bw ++ Utf8.encode 32, by omega, by go_num, rfl, rfl, HV, ⟨by repeat (first | exact HB.out | apply pw_below_drewN | apply below_drew1)⟩⟩
          case measure => simp [intOf]; omega
        · have HV := Aside0.mk (inv_other HI.out HK.out HC2.out hwh h10 c9 c13 c39 (fun h => by cases h))
          rw [← encode_eq c hscal] at HV
          have HW := Aside0.mk (white_f c)
          rw [decide_eq_false (show ¬ (c = 32 ∨ c = 9) by omega)] at HW
          have h39 : (c == 39) = false := by simpa using c39
          have he4 := encode_size_le c
          clear hscal c9 c13 c39 h10 hwh
          go_wp2_with (go_at_call 17; refine (spec_scWhite.calls c _ _ HW.out).mono ?_; rintro e w3 ⟨rfl, ⟨m3, rfl⟩⟩)
          go_roundw
          case rel => exact ⟨k + 1, bo ++ bw ++ Utf8.encode c, ⟨#[]⟩, by omega, by go_num, rfl, rfl, HV, ⟨by repeat (first | exact HB.out | apply pw_below_drewN | apply below_drew1)⟩⟩
          case measure => simp [intOf]; omega
    · have hkn : k = N := by omega
      subst hkn
      have hsz := inv_size HI.out
      rw [← HN.out] at hsz
      have HI2 := HI.out
      rw [HN.out] at HI2
      have HF := Aside0.mk (inv_fin (.inr rfl) HI2)
      clear hlt HI2
      go_wp2_with fail
      go_ret2
      exact ⟨B1.out.trans (HB.out.mono B1.out.size), _, _, rfl, fun _ => HF.out⟩
end Go.Proofs.YtgglhfbjbddjjaaDoor.LnRead
