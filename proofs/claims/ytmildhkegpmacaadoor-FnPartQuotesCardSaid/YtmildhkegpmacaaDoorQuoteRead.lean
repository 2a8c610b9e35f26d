/- ReadSingle over a text whose quotes are doubled and that has no line feed: the text with single quotes, and that it is good. -/
import Derived.Test.YtmildhkegpmacaaDoorQuotePure
namespace Go.Proofs.YtmildhkegpmacaaDoor.QuoteRead
open Go.RowKit Go.Proofs.YtmildhkegpmacaaDoor.PFnPartQuotes Go.Proofs.YtmildhkegpmacaaDoorW.PrintWords Go.Proofs.YtmildhkegpmacaaDoor.Utf Go.Proofs.YtmildhkegpmacaaDoor.Runes Go.Proofs.YtmildhkegpmacaaDoor.QuotePure
set_option linter.unusedVariables false
set_option linter.unusedSimpArgs false

theorem white_f (c : Int) : spec_scWhite.f c = some (decide (c = 32 ∨ c = 9)) := by
  unfold spec_scWhite.f
  by_cases h : c = 32
  · rw [if_pos h]; simp [h]
  · rw [if_neg h]; congr 1; rw [Bool.eq_iff_iff]; simp [h]

theorem B_append (a b : ByteArray) : B (a ++ b) = B a ++ B b := by
  show (a ++ b).data.toList = _
  rw [ByteArray.data_append, Array.toList_append]

/-- What has been read: 'out', then 'white'. -/
def Read (rs : List Int) (k : Nat) (o wh : ByteArray) : Prop := B o ++ B wh = enc (rs.take k)

theorem Read.sizes {rs : List Int} {k : Nat} {o wh : ByteArray} (h : Read rs k o wh) (hk : k ≤ rs.length) : o.size + wh.size ≤ 4 * rs.length := by
  have e := congrArg List.length h
  rw [List.length_append, B_length, B_length] at e
  have := (enc_length (rs.take k)).2
  have : (rs.take k).length ≤ rs.length := List.length_take_le' k rs
  omega

theorem Read.white {rs : List Int} {k : Nat} {o wh : ByteArray} (h : Read rs k o wh) (hk : k < rs.length) (hs : Scalar (rs.getD k 0)) : Read rs (k + 1) o (wh ++ Utf8.encode (rs.getD k 0)) := by
  unfold Read at h ⊢
  rw [B_append, ← List.append_assoc, h, encode_eq _ hs, B_ba, enc_step rs k hk]
theorem Read.other {rs : List Int} {k : Nat} {o wh : ByteArray} (h : Read rs k o wh) (hk : k < rs.length) (hs : Scalar (rs.getD k 0)) : Read rs (k + 1) (o ++ wh ++ Utf8.encode (rs.getD k 0)) ⟨#[]⟩ := by
  unfold Read at h ⊢
  rw [B_append, B_append, h, encode_eq _ hs, B_ba, enc_step rs k hk]
  simp [B]
theorem Read.quote {rs : List Int} {k : Nat} {o wh : ByteArray} (h : Read rs k o wh) (hk : k < rs.length) (hq : rs.getD k 0 = 39) : Read rs (k + 1) (o ++ wh ++ ⟨#[39]⟩) ⟨#[]⟩ := by
  unfold Read at h ⊢
  rw [B_append, B_append, h, enc_step rs k hk, hq]
  simp [B]; rfl
theorem Read.fin {rs : List Int} {o wh : ByteArray} (h : Read rs rs.length o wh) : o ++ wh = ba (enc rs) := by
  refine eq_of_B ?_
  rw [B_append, B_ba]
  unfold Read at h
  rw [h, List.take_length]

theorem ret_sg {a b : ByteArray} (h : a = b) : Ending.returned (.tuple #[.string a, .int .i64 2]) = .returned (.tuple #[.string b, .int .i64 2]) := by rw [h]

set_option maxHeartbeats 2000000 in
set_option maxRecDepth 100000 in
theorem single_any (s : ByteArray) (rs : List Int) (w : World) (hT : Tabs w) (hs : s.size ≤ 65536) (hsc : ∀ r ∈ rs, Scalar r) (hal : all false rs = true) (he : B s = enc (dq rs)) :
    Calls Tryd.prog 18 #[.string s] w fun e w' => e = .returned (.tuple #[.string (ba (enc rs)), .int .i64 2]) ∧ Below w.heap.size w w' := by
  have C := Aside0.mk (scRunes_ok s (dq rs) w hT hs (dq_scalar rs hsc) he)
  obtain ⟨L, hL⟩ : ∃ L, L = dq rs := ⟨_, rfl⟩
  have hl := (enc_length (dq rs)).1
  rw [← he, B_length] at hl
  have hl2 := (dq_length rs).1
  have HA := Aside0.mk (all_f (dq rs) true (by omega))
  rw [dq_all rs hal] at HA
  rw [← hL] at C HA hl hl2
  have HL := Aside0.mk hL
  have HSC := Aside0.mk hsc
  have HAL := Aside0.mk hal
  clear he hT hL hsc hal
  obtain ⟨N, hN⟩ : ∃ N, N = L.length := ⟨_, rfl⟩
  have HN := Aside0.mk hN
  rw [← hN] at hl hl2
  have hN2 : N ≤ 65536 := by omega
  clear hN
  go_enter Tryd.func18, Tryd.ntmps18
  go_wp2_with fail
  refine C.out.mono ?_
  rintro e w1 ⟨g, cap, rfl, hr, hc, _, _, b1⟩
  have B1 := Aside0.mk b1
  have HR := Aside0.mk hr
  clear b1 hr
  go_wp2_with fail
  refine (spec_scAll.calls _ _ cap L true true _ (HR.out.kd (by have := HN.out; omega)) hc HA.out).mono ?_
  rintro e w2 ⟨rfl, ⟨m2, rfl⟩⟩
  rw [← HN.out] at hc ⊢
  go_wp2_with fail
  go_loopw [6, 7, 8] (fun o wh i wr => ∃ (k : Nat) (bo bw : ByteArray), k ≤ rs.length ∧ i = .int .i64 (at_ rs k : Nat) ∧ o = .string bo ∧ wh = .string bw ∧ Aside0 (Read rs k bo bw) ∧ Drawn0 w1 wr) (fun _ _ i _ => N - (intOf i).toNat)
  case atStart => exact ⟨0, ⟨#[]⟩, ⟨#[]⟩, by omega, rfl, rfl, rfl, ⟨rfl⟩, ⟨⟨m2, rfl⟩⟩⟩
  case round =>
    obtain ⟨k, bo, bw, hk, rfl, rfl, rfl, HRD, ⟨nq, rfl⟩⟩ := hrel
    by_cases hlt : k < rs.length
    · have hg := dq_get rs k hlt
      rw [← HL.out, ← HN.out] at hg
      have hst := at_step rs k hlt
      have hsz := HRD.out.sizes hk
      have hscal := HSC.out (rs.getD k 0) (by rw [show rs.getD k 0 = rs[k] by simp [List.getD, hlt]]; exact List.getElem_mem hlt)
      have hcon : all false (rs.drop k) = true := by
        have := HAL.out
        unfold all at this ⊢
        exact List.all_eq_true.2 fun x hx => List.all_eq_true.1 this x (List.mem_of_mem_drop hx)
      rw [List.drop_eq_getElem_cons hlt, all_cons] at hcon
      simp only [Bool.and_eq_true, Bool.false_and, Bool.or_false] at hcon
      have hco : content (rs.getD k 0) = true := by rw [show rs.getD k 0 = rs[k] by simp [List.getD, hlt]]; exact hcon.1
      have hcell := HR.out (at_ rs k) (by have := HN.out; omega)
      rw [hg.2.1] at hcell
      have W := Aside0.mk (HRD.out.white hlt hscal)
      have O := Aside0.mk (HRD.out.other hlt hscal)
      have Qu := Aside0.mk (fun h => HRD.out.quote hlt h)
      have hcell2 : rs.getD k 0 = 39 → w1.cell? ⟨g, at_ rs k + 1, none⟩ = some (.int .i32 39) := fun h => by
        have h2 := HR.out (at_ rs k + 1) (by have := (hg.2.2 h).1; have := HN.out; omega)
        rw [(hg.2.2 h).2] at h2
        exact h2
      have hp2 : rs.getD k 0 = 39 → at_ rs k + 1 < N := fun h => (hg.2.2 h).1
      have hp := hg.1
      clear hg hcon
      obtain ⟨c, hcd⟩ : ∃ c, c = rs.getD k 0 := ⟨_, rfl⟩
      rw [← hcd] at hst hscal hco hcell hcell2 hp2 W O Qu
      clear hcd
      obtain ⟨p, hpd⟩ : ∃ p, p = at_ rs k := ⟨_, rfl⟩
      rw [← hpd] at hst hcell hcell2 hp hp2 ⊢
      clear hpd
      have h10 : (c == 10) = false := by
        cases h : (c == 10) with
        | false => rfl
        | true => rw [eq_of_beq h] at hco; exact absurd hco (by decide)
      by_cases hwh : c = 32 ∨ c = 9
      · have HW := Aside0.mk (white_f c)
        rw [decide_eq_true hwh] at HW
        have hst2 : at_ rs (k + 1) = p + 1 := by rw [hst, if_neg (by omega)]
        have HST := Aside0.mk hst2
        have he4 := encode_size_le c
        clear hst hst2 hcell2 hp2 hscal hco O Qu hwh
        go_wp2_with (go_at_call 36; refine (spec_scWhite.calls c _ _ HW.out).mono ?_; rintro e w3 ⟨rfl, ⟨m3, rfl⟩⟩)
        go_roundw
        case rel => exact ⟨k + 1, bo, bw ++ Utf8.encode c, by omega, by rw [HST.out]; go_num, rfl, rfl, W, by repeat (first | exact Drawn0.refl _ | apply Drawn0.step)⟩
        case measure => have := HST.out; simp [intOf]; omega
      · have HW := Aside0.mk (white_f c)
        rw [decide_eq_false hwh] at HW
        by_cases hq : c = 39
        · subst hq
          have hcell3 := hcell2 rfl
          have hp3 := hp2 rfl
          have hst2 : at_ rs (k + 1) = p + 2 := by rw [hst, if_pos rfl]
          have HST := Aside0.mk hst2
          have QU := Aside0.mk (Qu.out rfl)
          have hne : ((p : Int) + 1 == (N : Int)) = false := by
            have : (p : Int) + 1 ≠ (N : Int) := by omega
            simpa using this
          clear hst hst2 hcell2 hp2 hscal hco O W Qu hwh h10
          go_wp2_with (go_at_call 36; refine (spec_scWhite.calls 39 _ _ HW.out).mono ?_; rintro e w3 ⟨rfl, ⟨m3, rfl⟩⟩)
          go_roundw
          case rel => exact ⟨k + 1, bo ++ bw ++ ⟨#[39]⟩, ⟨#[]⟩, by omega, by rw [HST.out]; go_num, rfl, rfl, QU, by repeat (first | exact Drawn0.refl _ | apply Drawn0.step)⟩
          case measure => have := HST.out; simp [intOf]; omega
        · have h39 : (c == 39) = false := by simpa using hq
          have hst2 : at_ rs (k + 1) = p + 1 := by rw [hst, if_neg hq]
          have HST := Aside0.mk hst2
          have he4 := encode_size_le c
          clear hst hst2 hcell2 hp2 hscal hco W Qu hwh hq
          go_wp2_with (go_at_call 36; refine (spec_scWhite.calls c _ _ HW.out).mono ?_; rintro e w3 ⟨rfl, ⟨m3, rfl⟩⟩)
          go_roundw
          case rel => exact ⟨k + 1, bo ++ bw ++ Utf8.encode c, ⟨#[]⟩, by omega, by rw [HST.out]; go_num, rfl, rfl, O, by repeat (first | exact Drawn0.refl _ | apply Drawn0.step)⟩
          case measure => have := HST.out; simp [intOf]; omega
    · have hkn : k = rs.length := by omega
      subst hkn
      have hsz := HRD.out.sizes (Nat.le_refl _)
      have HF := Aside0.mk HRD.out.fin
      have hend : at_ rs rs.length = N := by rw [at_end, ← HL.out]; exact HN.out.symm
      rw [hend]
      clear hend hlt
      go_wp2_with fail
      go_ret2
      exact ⟨ret_sg HF.out, B1.out.trans (Drawn0.below ⟨⟨nq, rfl⟩⟩ |>.mono B1.out.size)⟩
end Go.Proofs.YtmildhkegpmacaaDoor.QuoteRead
