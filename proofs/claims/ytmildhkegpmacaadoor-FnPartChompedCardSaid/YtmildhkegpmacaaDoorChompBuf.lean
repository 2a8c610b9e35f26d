/- The walks of bufferedSrc, at the three chomping signs. -/
import Derived.Test.YtmildhkegpmacaaDoorChompPure
import Derived.BigQuiet
namespace Go.Proofs.YtmildhkegpmacaaDoor.ChompBuf
open Go.RowKit Go.Proofs.YtmildhkegpmacaaDoorW.PrintWords Go.Proofs.YtmildhkegpmacaaDoor.Utf Go.Proofs.YtmildhkegpmacaaDoor.ChompWalks Go.Proofs.YtmildhkegpmacaaDoor.ChompPure Go.Proofs.YtmildhkegpmacaaDoor.PFnPartChomped
open Go.Proofs.YtmildhkegpmacaaDoor.Runes (Reads)
set_option linter.unusedVariables false
set_option linter.unusedSimpArgs false

/-- What the walks stand on: a context with a text of n runes, of which all are looked at, and a sign. -/
structure At (w : World) (g m : Nat) (o : ByteArray) (gb n cap : Nat) (L : List Int) : Prop where
  ctx : ∃ idx size nsop src obuf tok, Ctx w g idx size n nsop src (.slice (some ⟨gb, 0, none⟩) n cap) obuf tok (.pointer (some ⟨m, 0, none⟩))
  sign : ∃ x y, Sign w m o x y
  hn : n = L.length
  hcap : n ≤ cap
  rd : Reads w gb L

theorem At.below {w w1 : World} {g m : Nat} {o : ByteArray} {gb n cap : Nat} {L : List Int} (h : At w g m o gb n cap L) (hb : Below w.heap.size w w1) : At w1 g m o gb n cap L := by
  obtain ⟨⟨idx, size, nsop, src, obuf, tok, h1⟩, ⟨x, y, h2⟩, h3, h4, h5⟩ := h
  exact ⟨⟨idx, size, nsop, src, obuf, tok, blk_below h1 hb⟩, ⟨x, y, blk_below h2 hb⟩, h3, h4, h5.below hb⟩

/-- What comes back: a row of runes. -/
def Back (L : List Int) (w : World) (e : Ending) (w' : World) : Prop := ∃ g n cap, e = .returned (.slice (some ⟨g, 0, none⟩) n cap) ∧ n = L.length ∧ Reads w' g L ∧ Below w.heap.size w w'

theorem At.multi {w : World} {g m : Nat} {o : ByteArray} {gb n cap : Nat} {L : List Int} (h : At w g m o gb n cap L) : Calls Tryd.prog 97 #[.pointer (some ⟨g, 0, none⟩)] w fun e w' => e = .returned (.bool true) ∧ Drawn0 w w' := by
  obtain ⟨⟨idx, size, nsop, src, obuf, tok, h1⟩, _⟩ := h
  exact multi_any g m _ _ _ _ _ _ _ _ w h1
theorem At.state {w : World} {g m : Nat} {o : ByteArray} {gb n cap : Nat} {L : List Int} (h : At w g m o gb n cap L) : Calls Tryd.prog 98 #[.pointer (some ⟨g, 0, none⟩)] w fun e w' => e = .returned (.pointer (some ⟨m, 0, none⟩)) ∧ Drawn0 w w' := by
  obtain ⟨⟨idx, size, nsop, src, obuf, tok, h1⟩, _⟩ := h
  exact state_any g m _ _ _ _ _ _ _ _ w h1
theorem At.trims {w : World} {g m : Nat} {o : ByteArray} {gb n cap : Nat} {L : List Int} (h : At w g m o gb n cap L) (p1 p2 : Bool) (h1 : strings_HasPrefix.f o ⟨#[45]⟩ = some p1) (h2 : strings_HasSuffix.f o ⟨#[45]⟩ = some p2) :
    Calls Tryd.prog 99 #[.pointer (some ⟨m, 0, none⟩)] w fun e w' => e = .returned (.bool (p1 || p2)) ∧ Drawn0 w w' := by
  obtain ⟨_, ⟨x, y, h3⟩, _⟩ := h
  exact trims_any m o x y p1 p2 h1 h2 w h3
theorem At.keeps {w : World} {g m : Nat} {o : ByteArray} {gb n cap : Nat} {L : List Int} (h : At w g m o gb n cap L) (p1 p2 : Bool) (h1 : strings_HasPrefix.f o ⟨#[43]⟩ = some p1) (h2 : strings_HasSuffix.f o ⟨#[43]⟩ = some p2) :
    Calls Tryd.prog 101 #[.pointer (some ⟨m, 0, none⟩)] w fun e w' => e = .returned (.bool (p1 || p2)) ∧ Drawn0 w w' := by
  obtain ⟨_, ⟨x, y, h3⟩, _⟩ := h
  exact keeps_any m o x y p1 p2 h1 h2 w h3
theorem At.drew {w : World} {g m : Nat} {o : ByteArray} {gb n cap : Nat} {L : List Int} (h : At w g m o gb n cap L) (k : Nat) : At (w.drewN k) g m o gb n cap L := h.below (Drawn0.below ⟨⟨k, rfl⟩⟩)

theorem grow {w0 w5 w6 : World} {o : Obj} (B5 : Below w0.heap.size w0 w5) (b6 : Drawn0 ((w5.alloc o).drew) w6) : Below w0.heap.size w0 w6 := by
  have X : Below w5.heap.size w5 (w5.alloc o).drew := ((Below.refl _ w5).alloc (Nat.le_refl _) _).drew
  exact B5.trans ((X.trans (b6.below.mono X.size)).mono B5.size)

theorem ne_feed (l : List UInt8) (m : Nat) (hne : l ≠ []) (hlast : l.getLast? ≠ some 10) : ((E l m).toList == [10]) = false := by
  refine beq_eq_false_iff_ne.mpr fun e => ?_
  rw [ByteArray.toList_eq] at e
  have e2 : l ++ List.replicate m 10 = [10] := e
  cases l with
  | nil => exact hne rfl
  | cons a b =>
    simp only [List.cons_append, List.cons.injEq, List.append_eq_nil_iff] at e2
    apply hlast
    rw [e2.1, e2.2.1]; rfl

theorem pre43_45 : strings_HasPrefix.f ⟨#[43]⟩ ⟨#[45]⟩ = some false := by decide +kernel
theorem suf43_45 : strings_HasSuffix.f ⟨#[43]⟩ ⟨#[45]⟩ = some false := by decide +kernel
theorem pre43_43 : strings_HasPrefix.f ⟨#[43]⟩ ⟨#[43]⟩ = some true := by decide +kernel
theorem suf43_43 : strings_HasSuffix.f ⟨#[43]⟩ ⟨#[43]⟩ = some true := by decide +kernel
theorem pre45_45 : strings_HasPrefix.f ⟨#[45]⟩ ⟨#[45]⟩ = some true := by decide +kernel
theorem suf45_45 : strings_HasSuffix.f ⟨#[45]⟩ ⟨#[45]⟩ = some true := by decide +kernel
theorem pre45_43 : strings_HasPrefix.f ⟨#[45]⟩ ⟨#[43]⟩ = some false := by decide +kernel
theorem suf45_43 : strings_HasSuffix.f ⟨#[45]⟩ ⟨#[43]⟩ = some false := by decide +kernel
theorem pre0_45 : strings_HasPrefix.f ⟨#[]⟩ ⟨#[45]⟩ = some false := by decide +kernel
theorem suf0_45 : strings_HasSuffix.f ⟨#[]⟩ ⟨#[45]⟩ = some false := by decide +kernel
theorem pre0_43 : strings_HasPrefix.f ⟨#[]⟩ ⟨#[43]⟩ = some false := by decide +kernel
theorem suf0_43 : strings_HasSuffix.f ⟨#[]⟩ ⟨#[43]⟩ = some false := by decide +kernel

set_option maxHeartbeats 2000000 in
set_option maxRecDepth 100000 in
theorem keep_any (g m gb n cap : Nat) (L : List Int) (w : World) (h : At w g m ⟨#[43]⟩ gb n cap L) (hsc : ∀ r ∈ L, Scalar r) (hn1 : 1 ≤ n) (hn2 : n ≤ 5000) (hnf : ((ba (enc L)).toList == [10]) = false) :
    Calls Tryd.prog 64 #[.pointer (some ⟨g, 0, none⟩)] w (Back L w) := by
  have HA := Aside0.mk h
  obtain ⟨⟨idx, size, nsop, src, obuf, tok, hctx⟩, _, hnL, hcap, hrd⟩ := h
  have x5 := blk_cell hctx 5
  have x2 := blk_cell hctx 2
  simp only [List.getElem?_toArray, List.getElem?_cons_succ, List.getElem?_cons_zero] at x5 x2
  have HR := Aside0.mk hrd
  have HL := Aside0.mk hnL
  have HTS := Aside0.mk fun W (hW : Reads W gb L) => to_str W gb L n cap hnL hW hsc
  obtain ⟨S, hS⟩ : ∃ S, S = ba (enc L) := ⟨_, rfl⟩
  rw [← hS] at HTS hnf
  have hn0 : ((n : Int) == 0) = false := by
    have : (n : Int) ≠ 0 := by omega
    simpa using this
  clear hctx hrd hnL hsc hS
  go_enter Tryd.func64, Tryd.ntmps64
  go_wp2_with fail
  go_quiet (fail)
  have A1 := Aside0.mk (HA.out.drew nq)
  have B1 := Aside0.mk (Drawn0.below (w := w) (w' := w.drewN nq) ⟨⟨nq, rfl⟩⟩)
  have R1 := Aside0.mk (HR.out.below B1.out)
  obtain ⟨w1, hw1⟩ : ∃ w1, w1 = w.drewN nq := ⟨_, rfl⟩
  rw [← hw1] at A1 B1 R1 ⊢
  clear hw1 x5 x2
  go_wp2_with fail
  refine A1.out.multi.mono ?_
  rintro e w2 ⟨rfl, ⟨m2, rfl⟩⟩
  go_wp2_with fail
  refine (A1.out.drew _).state.mono ?_
  rintro e w3 ⟨rfl, ⟨m3, rfl⟩⟩
  go_wp2_with fail
  refine ((A1.out.drew _).trims _ _ pre43_45 suf43_45).mono ?_
  rintro e w4 ⟨rfl, ⟨m4, rfl⟩⟩
  go_wp2_with fail
  refine ((A1.out.drew _).keeps _ _ pre43_43 suf43_43).mono ?_
  rintro e w5 ⟨rfl, ⟨m5, rfl⟩⟩
  go_wp2_with fail
  refine ((A1.out.drew _).trims _ _ pre43_45 suf43_45).mono ?_
  rintro e w6 ⟨rfl, ⟨m6, rfl⟩⟩
  have hts := fun k => HTS.out (w1.drewN k) (R1.out.below (Drawn0.below ⟨⟨k, rfl⟩⟩))
  go_wp2_with fail
  refine ((A1.out.drew _).keeps _ _ pre43_43 suf43_43).mono ?_
  rintro e w7 ⟨rfl, ⟨m7, rfl⟩⟩
  go_wp2_with fail
  go_ret
  exact ⟨gb, n, cap, rfl, HL.out, R1.out.below (Drawn0.below ⟨⟨_, rfl⟩⟩), B1.out.trans ((Drawn0.below ⟨⟨_, rfl⟩⟩).mono B1.out.size)⟩

set_option maxHeartbeats 2000000 in
set_option maxRecDepth 100000 in
theorem trim_any (g m gb n cap : Nat) (rs : List Int) (q : Nat) (w : World) (h : At w g m ⟨#[45]⟩ gb n cap (rs ++ List.replicate q 10)) (hsc : ∀ r ∈ rs, Scalar r) (hn2 : (enc rs).length ≤ 5000) (hq : q ≤ 100)
    (hne : enc rs ≠ []) (h10 : (enc rs).getLast? ≠ some 10) (h32 : (enc rs).getLast? ≠ some 32) :
    Calls Tryd.prog 64 #[.pointer (some ⟨g, 0, none⟩)] w (Back rs w) := by
  have HA := Aside0.mk h
  obtain ⟨⟨idx, size, nsop, src, obuf, tok, hctx⟩, _, hnL, hcap, hrd⟩ := h
  have x5 := blk_cell hctx 5
  have x2 := blk_cell hctx 2
  simp only [List.getElem?_toArray, List.getElem?_cons_succ, List.getElem?_cons_zero] at x5 x2
  have HR := Aside0.mk hrd
  have hscL : ∀ r ∈ rs ++ List.replicate q 10, Scalar r := fun r hr => by
    rcases List.mem_append.1 hr with h | h
    · exact hsc r h
    · rw [List.eq_of_mem_replicate h]; exact ⟨by omega, by omega⟩
  have HTS := Aside0.mk fun W (hW : Reads W gb (rs ++ List.replicate q 10)) => to_str W gb _ n cap hnL hW hscL
  rw [enc_E] at HTS
  have hrl := (enc_length rs).1
  have hnn : n ≤ 5100 := by rw [hnL]; simp; omega
  have HT1 := Aside0.mk (trim_f (enc rs) 10 q (by omega) (by omega) hne h10 (3 * q + 4) (by omega))
  have HT2 := Aside0.mk (trim_f (enc rs) 32 0 (by omega) (by omega) hne h32 4 (by omega))
  rw [List.replicate_zero, List.append_nil] at HT2
  have hnf := ne_feed (enc rs) 0 hne h10
  unfold E at hnf
  rw [List.replicate_zero, List.append_nil] at hnf
  obtain ⟨N1, hN1⟩ : ∃ N1, N1 = rs.length := ⟨_, rfl⟩
  have HTR := Aside0.mk fun W => to_runes (ba (enc rs)) rs N1 hN1 (by rw [ba_size]; omega) hsc rfl W
  have HNR := Aside0.mk fun W C => new_reads (ba (enc rs)) rs hsc rfl W C
  have HTS2 := Aside0.mk fun W g cap (hW : Reads W g rs) => to_str W g rs N1 cap hN1 hW hsc
  obtain ⟨S1, hS1⟩ : ∃ S1, S1 = ba (enc rs) := ⟨_, rfl⟩
  rw [← hS1] at HTS2 HTR HNR hnf HT1 HT2
  obtain ⟨S0, hS0⟩ : ∃ S0, S0 = ba (enc rs ++ List.replicate q 10) := ⟨_, rfl⟩
  rw [← hS0] at HTS HT1
  have HN1 := Aside0.mk hN1
  clear hctx hrd hnL hsc hscL hS1 hS0 hN1 hne h10 h32
  go_enter Tryd.func64, Tryd.ntmps64
  go_wp2_with fail
  go_quiet (fail)
  have A1 := Aside0.mk (HA.out.drew nq)
  have B1 := Aside0.mk (Drawn0.below (w := w) (w' := w.drewN nq) ⟨⟨nq, rfl⟩⟩)
  have R1 := Aside0.mk (HR.out.below B1.out)
  obtain ⟨w1, hw1⟩ : ∃ w1, w1 = w.drewN nq := ⟨_, rfl⟩
  rw [← hw1] at A1 B1 R1 ⊢
  clear hw1 x5 x2
  go_wp2_with fail
  refine A1.out.multi.mono ?_
  rintro e w2 ⟨rfl, ⟨m2, rfl⟩⟩
  go_wp2_with fail
  refine (A1.out.drew _).state.mono ?_
  rintro e w3 ⟨rfl, ⟨m3, rfl⟩⟩
  go_wp2_with fail
  refine ((A1.out.drew _).trims _ _ pre45_45 suf45_45).mono ?_
  rintro e w4 ⟨rfl, ⟨m4, rfl⟩⟩
  have hts := fun k => HTS.out (w1.drewN k) (R1.out.below (Drawn0.below ⟨⟨k, rfl⟩⟩))
  go_wp2_with fail
  refine (scanner_zzTrimRight.calls _ S0 ⟨#[10]⟩ S1 _ HT1.out).mono ?_
  rintro e w5 ⟨rfl, b5⟩
  have A5 := Aside0.mk ((A1.out.drew _).below b5.below)
  have B5 := Aside0.mk (B1.out.trans (((Drawn0.below ⟨⟨_, rfl⟩⟩).trans b5.below).mono B1.out.size))
  clear b5 hts
  have hrn := HTR.out w5
  go_wp2_with fail
  refine ((A5.out.below (((Below.refl _ w5).alloc (Nat.le_refl _) _).drew)).trims _ _ pre45_45 suf45_45).mono ?_
  rintro e w6 ⟨rfl, b6⟩
  have A6 := Aside0.mk ((A5.out.below (((Below.refl _ w5).alloc (Nat.le_refl _) _).drew)).below b6.below)
  have B6 := Aside0.mk (grow B5.out b6)
  have R6 := Aside0.mk ((HNR.out w5 _).below b6.below)
  clear b6 hrn
  obtain ⟨g5, hg5⟩ : ∃ g5, g5 = w5.heap.size := ⟨_, rfl⟩
  obtain ⟨c5, hc5⟩ : ∃ c5, c5 = grownCap w5 N1 0 21 := ⟨_, rfl⟩
  rw [← hg5] at R6 ⊢
  rw [← hc5]
  have hts2 := HTS2.out w6 g5 c5 R6.out
  clear hg5 hc5
  go_wp2_with fail
  refine (scanner_zzTrimRight.calls _ S1 ⟨#[32]⟩ S1 _ HT2.out).mono ?_
  rintro e w7 ⟨rfl, b7⟩
  have A7 := Aside0.mk (A6.out.below b7.below)
  have B7 := Aside0.mk (B6.out.trans (b7.below.mono B6.out.size))
  clear b7 hts2
  have hrn := HTR.out w7
  have hts3 := HTS2.out _ w7.heap.size (grownCap w7 N1 0 21) (HNR.out w7 (Array.replicate (grownCap w7 N1 0 21 - N1) (.int .i32 0)))
  go_wp2_with fail
  refine ((A7.out.below (((Below.refl _ w7).alloc (Nat.le_refl _) _).drew)).keeps _ _ pre45_43 suf45_43).mono ?_
  rintro e w8 ⟨rfl, b8⟩
  have B8 := Aside0.mk (grow B7.out b8)
  have R8 := Aside0.mk ((HNR.out w7 _).below b8.below)
  clear b8 hrn hts3
  go_wp2_with fail
  go_ret
  exact ⟨_, _, _, rfl, HN1.out, R8.out, B8.out⟩
end Go.Proofs.YtmildhkegpmacaaDoor.ChompBuf
