/- FnHeaderRead: the law's walk. -/
import Derived.Test.YtmildhkegpmacaaDoorParseDoors
import Derived.Test.YtmildhkegpmacaaDoorParseKinds
import Derived.Test.YtmildhkegpmacaaDoorParseRead
namespace Go.Proofs.YtmildhkegpmacaaDoor.ParseLaw
open Go.RowKit Go.Proofs.YtmildhkegpmacaaDoorW.PrintWords Go.Proofs.YtmildhkegpmacaaDoor.Utf Go.Proofs.YtmildhkegpmacaaDoor.ParseOpt Go.Proofs.YtmildhkegpmacaaDoor.ParseOther Go.Proofs.YtmildhkegpmacaaDoor.ParseKinds
open Go.Proofs.YtmildhkegpmacaaDoor.Runes (Tabs tabs_below)
set_option linter.unusedVariables false
set_option linter.unusedSimpArgs false

theorem enc1 (d : Int) (h0 : 0 ≤ d) (h1 : d ≤ 127) : enc [d] = [d.toNat.toUInt8] := by
  rw [enc_cons, encodeRune_ascii d h0 h1]; rfl
theorem enc2 (d c : Int) (h0 : 0 ≤ d) (h1 : d ≤ 127) (h2 : 0 ≤ c) (h3 : c ≤ 127) : enc [d, c] = [d.toNat.toUInt8, c.toNat.toUInt8] := by
  rw [enc_cons, encodeRune_ascii d h0 h1, enc1 c h2 h3]; rfl
theorem dig (d : Int) (h0 : 49 ≤ d) (h1 : d ≤ 57) : ∃ n, n < 9 ∧ d.toNat.toUInt8 = dg n ∧ d - 48 = (n : Int) + 1 := by
  refine ⟨(d - 49).toNat, by omega, ?_, by omega⟩
  show UInt8.ofNat d.toNat = UInt8.ofNat (49 + (d - 49).toNat)
  rw [show 49 + (d - 49).toNat = d.toNat by omega]

/-- What is a header leaves its number behind the trims. -/
theorem good_left (s : ByteArray) (L : List Int) (i : Int) (he : B s = enc L) (hg : ParseRead.Good L i) : ∃ t, trims s = some t ∧ ParseWalk.Left t i := by
  rcases hg with ⟨rfl, rfl⟩ | ⟨d, a, b, rfl, rfl⟩ | ⟨g, hs, rfl, rfl⟩ | ⟨d, g, a, b, hs, rfl, rfl⟩ | ⟨d, g, a, b, hs, rfl, rfl⟩
  · obtain rfl : s = ⟨#[]⟩ := eq_of_B he
    exact ⟨_, trims_nil, .inl ⟨rfl, rfl⟩⟩
  · obtain ⟨n, hn, e, e2⟩ := dig d a b
    rw [enc1 d (by omega) (by omega), e] at he
    obtain rfl : s = ⟨#[dg n]⟩ := eq_of_B he
    exact ⟨_, trims_d n hn, .inr ⟨n, hn, rfl, e2⟩⟩
  · rcases hs with rfl | rfl
    · rw [enc1 43 (by omega) (by omega)] at he
      obtain rfl : s = ⟨#[43]⟩ := eq_of_B he
      exact ⟨_, trims_plus, .inl ⟨rfl, rfl⟩⟩
    · rw [enc1 45 (by omega) (by omega)] at he
      obtain rfl : s = ⟨#[45]⟩ := eq_of_B he
      exact ⟨_, trims_minus, .inl ⟨rfl, rfl⟩⟩
  · obtain ⟨n, hn, e, e2⟩ := dig d a b
    rcases hs with rfl | rfl
    · rw [enc2 d 43 (by omega) (by omega) (by omega) (by omega), e] at he
      obtain rfl : s = ⟨#[dg n, 43]⟩ := eq_of_B he
      exact ⟨_, trims_dp n hn, .inr ⟨n, hn, rfl, e2⟩⟩
    · rw [enc2 d 45 (by omega) (by omega) (by omega) (by omega), e] at he
      obtain rfl : s = ⟨#[dg n, 45]⟩ := eq_of_B he
      exact ⟨_, trims_dm n hn, .inr ⟨n, hn, rfl, e2⟩⟩
  · obtain ⟨n, hn, e, e2⟩ := dig d a b
    rcases hs with rfl | rfl
    · rw [enc2 43 d (by omega) (by omega) (by omega) (by omega), e] at he
      obtain rfl : s = ⟨#[43, dg n]⟩ := eq_of_B he
      exact ⟨_, trims_pd n hn, .inr ⟨n, hn, rfl, e2⟩⟩
    · rw [enc2 45 d (by omega) (by omega) (by omega) (by omega), e] at he
      obtain rfl : s = ⟨#[45, dg n]⟩ := eq_of_B he
      exact ⟨_, trims_md n hn, .inr ⟨n, hn, rfl, e2⟩⟩

/-- ReadHeader at a text of at most three digits and signs. -/
theorem read_any (s : ByteArray) (h3 : s.size ≤ 3) (h : ((B s).any fun c => !isSign c) = false) (w : World) (hT : Tabs w) :
    Calls Tryd.prog 11 #[.string s] w (ParseRead.Says (ParseKinds.nums (B s)) w) := by
  have he : B s = enc (ParseKinds.nums (B s)) := (enc_nums (B s) h).symm
  have hk := kinds (B s) h
  have hl : (B s).length ≤ 3 := by rw [B_length]; exact h3
  clear h
  generalize hb : B s = l at he hk hl ⊢
  match l, hb, he, hk, hl with
  | [], hb, he, hk, hl =>
    obtain rfl : s = ⟨#[]⟩ := eq_of_B hb
    refine (HeadWalks.header_none w hT).mono ?_
    rintro e w' ⟨rfl, b⟩
    exact ⟨1, 0, 2, rfl, fun _ => .inl ⟨rfl, rfl⟩, b⟩
  | [a], hb, he, hk, hl => exact ParseRead.read1 s _ (hk _ (by simp [ParseKinds.nums])) (hb.trans he) w hT
  | [a, b], hb, he, hk, hl => exact ParseRead.read2 s _ _ (hk _ (by simp [ParseKinds.nums])) (hk _ (by simp [ParseKinds.nums])) (hb.trans he) w hT
  | [a, b, c], hb, he, hk, hl => exact ParseRead.read3 s _ _ _ (hk _ (by simp [ParseKinds.nums])) (hk _ (by simp [ParseKinds.nums])) (hk _ (by simp [ParseKinds.nums])) (hb.trans he) w hT
  | a :: b :: c :: d :: t, hb, he, hk, hl => simp at hl

/-- The scanner lets pass what leaves a number or nothing. -/
theorem right_all (s t : ByteArray) (v : Int) (ht : trims s = some t) (h : ParseWalk.Left t v) (ev : Value) (w : World) (hE : w.cell? ⟨6, 0, none⟩ = some ev) (hev : ev = .nilIface ∨ ∃ te pe, ev = .iface te pe) :
    Calls Tryd.prog 22 #[.string s] w fun e w' => e = .returned (.bool true) ∧ Below w.heap.size w w' := by
  refine ParseDoors.right_any s w fun wx hx => ParseDoors.right_zz s wx fun p w0 h0 => ?_
  by_cases hs : s.size = 0
  · obtain rfl : s = ⟨#[]⟩ := eq_of_B (List.eq_nil_of_length_eq_zero (by rw [B_length]; exact hs))
    exact ParseWalk.valid_nil p w0
  · exact ParseWalk.valid_any p s t v (by omega) ht h ev w0 (pw_cell_below h0 (pw_cell_below hx hE)) hev

theorem indent_all (s t : ByteArray) (v : Int) (ht : trims s = some t) (h : ParseWalk.Left t v) (ev : Value) (w : World) (hE : w.cell? ⟨6, 0, none⟩ = some ev) (hev : ev = .nilIface ∨ ∃ te pe, ev = .iface te pe) :
    Calls Tryd.prog 23 #[.string s] w fun e w' => e = .returned (.int .i64 v) ∧ Below w.heap.size w w' :=
  ParseDoors.indent_any s v w (ParseDoors.indent_zz s v w (ParseWalk.indent_any s t v ht h ev w hE hev))

set_option maxHeartbeats 2000000 in
set_option maxRecDepth 100000 in
theorem law_any (s : ByteArray) (w : World) (hs : s.size ≤ 140737488351232) (hT : Tabs w) (ev : Value) (hE : w.cell? ⟨6, 0, none⟩ = some ev) (hev : ev = .nilIface ∨ ∃ te pe, ev = .iface te pe) :
    Calls Tryd.prog 6 #[.string s] w fun e w' => e = .returned (.bool true) ∧ Below w.heap.size w w' := by
  by_cases hbig : 2147483647 < s.size
  · clear hT hE hev
    go_enter Tryd.func6, Tryd.ntmps6
    go_wp2_with fail
    go_ret
    exact ⟨rfl, Below.refl _ _⟩
  · by_cases hq3 : 3 < s.size
    · clear hT hE hev
      go_enter Tryd.func6, Tryd.ntmps6
      go_wp2_with fail
      go_ret
      exact ⟨rfl, Below.refl _ _⟩
    · have HO := Aside0.mk (other_f s (by omega))
      cases hb : (B s).any fun c => !isSign c with
      | true =>
        rw [hb] at HO
        clear hT hE hev hb
        go_enter Tryd.func6, Tryd.ntmps6
        go_wp2_with fail
        refine (PFnHeaderRead.spec_Other.calls (s.size + 21) s signs true _ HO.out).mono ?_
        rintro e w1 ⟨rfl, b1⟩
        have B1 := Aside0.mk b1.below
        clear b1
        go_wp2_with fail
        go_ret
        exact ⟨rfl, B1.out⟩
      | false =>
        rw [hb] at HO
        have HK := Aside0.mk hb
        have HRD := Aside0.mk fun wx (hTx : Tabs wx) => read_any s (by omega) hb wx hTx
        have HEN := Aside0.mk (enc_nums (B s) hb).symm
        have HT := Aside0.mk hT
        have HE := Aside0.mk hE
        have HV := Aside0.mk hev
        clear hT hE hev hb
        go_enter Tryd.func6, Tryd.ntmps6
        go_wp2_with fail
        refine (PFnHeaderRead.spec_Other.calls (s.size + 21) s signs false _ HO.out).mono ?_
        rintro e w1 ⟨rfl, b1⟩
        have B1 := Aside0.mk b1.below
        clear b1
        go_wp2_with fail
        refine (HRD.out _ (tabs_below HT.out B1.out)).mono ?_
        rintro e w2 ⟨ch, i, is, rfl, hg, b2⟩
        have B2 := Aside0.mk (B1.out.trans (b2.mono B1.out.size))
        have HG := Aside0.mk hg
        clear b2 hg
        by_cases h2 : is = 2
        · subst h2
          obtain ⟨t, ht, hl⟩ := good_left s _ i HEN.out (HG.out rfl)
          have CR := Aside0.mk fun wx (hx : wx.cell? ⟨6, 0, none⟩ = some ev) => right_all s t i ht hl ev wx hx HV.out
          have CI := Aside0.mk fun wx (hx : wx.cell? ⟨6, 0, none⟩ = some ev) => indent_all s t i ht hl ev wx hx HV.out
          clear ht hl
          go_wp2_with fail
          refine (CR.out _ (pw_cell_below B2.out HE.out)).mono ?_
          rintro e w3 ⟨rfl, b3⟩
          have B3 := Aside0.mk (B2.out.trans (b3.mono B2.out.size))
          clear b3
          go_wp2_with fail
          refine (CI.out _ (pw_cell_below B3.out HE.out)).mono ?_
          rintro e w4 ⟨rfl, b4⟩
          have B4 := Aside0.mk (B3.out.trans (b4.mono B3.out.size))
          clear b4
          go_wp2_with fail
          go_ret
          exact ⟨rfl, B4.out⟩
        · have hne : (is != 2) = true := by simpa using h2
          have hne2 : (is == 2) = false := by simpa using h2
          go_wp2_with fail
          go_ret
          exact ⟨rfl, B2.out⟩

/-- The variable strconv.ErrSyntax holds an error, or nothing. -/
def ErrCell (w : World) : Prop := ∃ ev, w.cell? ⟨6, 0, none⟩ = some ev ∧ (ev = .nilIface ∨ ∃ te pe, ev = .iface te pe)

theorem law (s : ByteArray) (w : World) (hs : s.size ≤ 140737488351232) (hT : Tabs w) (hX : ErrCell w) :
    Calls Tryd.prog 6 #[.string s] w fun e w' => e = .returned (.bool true) ∧ Below w.heap.size w w' := by
  obtain ⟨ev, h1, h2⟩ := hX
  exact law_any s w hs hT ev h1 h2
end Go.Proofs.YtmildhkegpmacaaDoor.ParseLaw
