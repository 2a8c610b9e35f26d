/- The walks of firstLineIndentColumnByOpt (66) and validateMultiLineHeaderOption (65) at a header's option. -/
import Derived.Test.YtmildhkegpmacaaDoorParseOpt
import Derived.WalkKit
import Derived.Deep.LoopGhost
import Derived.Deep.QuietTactic
import Derived.BigQuiet
import Derived.WalkSpells
namespace Go.Proofs.YtmildhkegpmacaaDoor.ParseWalk
open Go.RowKit Go.Proofs.YtmildhkegpmacaaDoorW.PrintWords Go.Proofs.YtmildhkegpmacaaDoor.Utf Go.Proofs.YtmildhkegpmacaaDoor.PFnHeaderRead Go.Proofs.YtmildhkegpmacaaDoor.ParseOpt
set_option linter.unusedVariables false
set_option linter.unusedSimpArgs false

/-- What is left of an option, and what it is worth. -/
def Left (t : ByteArray) (v : Int) : Prop := (t = ⟨#[]⟩ ∧ v = 0) ∨ ∃ n, n < 9 ∧ t = ⟨#[dg n]⟩ ∧ v = (n : Int) + 1

/-- ParseInt of what is left: the number, or 0 and an error. -/
theorem parse_any (t : ByteArray) (v : Int) (h : Left t v) (ev : Value) (w : World) (hE : w.cell? ⟨6, 0, none⟩ = some ev) (hev : ev = .nilIface ∨ ∃ te pe, ev = .iface te pe) :
    Calls Tryd.prog 105 #[.string t, .int .i64 10, .int .i64 64] w fun e w' => ∃ er, e = .returned (.tuple #[.int .i64 v, er]) ∧ (t ≠ ⟨#[]⟩ → er = .nilIface) ∧ Below w.heap.size w w' := by
  rcases h with ⟨rfl, rfl⟩ | ⟨n, hn, rfl, rfl⟩
  · refine (Tryd.strconv_ParseInt_10_at64_none ev w hE hev).mono ?_
    rintro e w' ⟨N, rfl, _, _, b⟩
    exact ⟨_, rfl, fun h => absurd rfl h, b⟩
  · refine (Tryd.strconv_ParseInt_10_at64_ok ⟨#[dg n]⟩ (by show (1 : Nat) ≤ _; omega) _ (parse_d n hn) w).mono ?_
    rintro e w' ⟨rfl, hw⟩
    refine ⟨_, rfl, fun _ => rfl, ?_⟩
    rcases hw with rfl | ⟨t, rfl⟩
    · exact Below.refl _ _
    · exact Lib.bytesWorld_below w 5 t

set_option maxHeartbeats 1000000 in
set_option maxRecDepth 100000 in
theorem indent_any (s t : ByteArray) (v : Int) (ht : trims s = some t) (h : Left t v) (ev : Value) (w : World) (hE : w.cell? ⟨6, 0, none⟩ = some ev) (hev : ev = .nilIface ∨ ∃ te pe, ev = .iface te pe) :
    Calls Tryd.prog 66 #[.string s] w fun e w' => e = .returned (.int .i64 v) ∧ Below w.heap.size w w' := by
  unfold trims at ht
  obtain ⟨a, ha, ht⟩ := Option.bind_eq_some_iff.1 ht
  obtain ⟨b, hb, ht⟩ := Option.bind_eq_some_iff.1 ht
  obtain ⟨c, hc, ht⟩ := Option.bind_eq_some_iff.1 ht
  have HA := Aside0.mk ha
  have HB := Aside0.mk hb
  have HC := Aside0.mk hc
  have HT := Aside0.mk ht
  have HE := Aside0.mk hE
  have CP := Aside0.mk fun wx (hx : wx.cell? ⟨6, 0, none⟩ = some ev) => parse_any t v h ev wx hx hev
  clear ha hb hc ht hE h hev
  go_enter Tryd.func66, Tryd.ntmps66
  go_wp2_with fail
  refine (strings_TrimPrefix.calls _ _ _ _ HA.out).mono ?_
  rintro e w1 ⟨rfl, ⟨m1, rfl⟩⟩
  go_wp2_with fail
  refine (strings_TrimPrefix.calls _ _ _ _ HB.out).mono ?_
  rintro e w2 ⟨rfl, ⟨m2, rfl⟩⟩
  go_wp2_with fail
  refine (strings_TrimSuffix.calls _ _ _ _ HC.out).mono ?_
  rintro e w3 ⟨rfl, ⟨m3, rfl⟩⟩
  go_wp2_with fail
  refine (strings_TrimSuffix.calls _ _ _ _ HT.out).mono ?_
  rintro e w4 ⟨rfl, ⟨m4, rfl⟩⟩
  go_wp2_with fail
  refine (CP.out (w.drewN (m1 + m2 + m3 + m4)) HE.out).mono ?_
  rintro e w5 ⟨er, rfl, _, b5⟩
  have B5 := Aside0.mk ((Drawn0.below (w := w) (w' := w.drewN (m1 + m2 + m3 + m4)) ⟨⟨_, rfl⟩⟩).trans b5)
  clear b5
  go_wp2_with fail
  go_ret
  exact ⟨rfl, B5.out⟩

set_option maxHeartbeats 1000000 in
set_option maxRecDepth 100000 in
/-- An option of no byte: no error. -/
theorem valid_nil (p : Value) (w : World) : Calls Tryd.prog 65 #[p, .string ⟨#[]⟩] w fun e w' => e = .returned .nilIface ∧ Below w.heap.size w w' := by
  go_enter Tryd.func65, Tryd.ntmps65
  go_wp2_with fail
  go_ret
  exact ⟨rfl, Below.refl _ _⟩

set_option maxHeartbeats 1000000 in
set_option maxRecDepth 100000 in
theorem valid_any (p : Value) (s t : ByteArray) (v : Int) (hs : 1 ≤ s.size) (ht : trims s = some t) (h : Left t v) (ev : Value) (w : World) (hE : w.cell? ⟨6, 0, none⟩ = some ev) (hev : ev = .nilIface ∨ ∃ te pe, ev = .iface te pe) :
    Calls Tryd.prog 65 #[p, .string s] w fun e w' => e = .returned .nilIface ∧ Below w.heap.size w w' := by
  unfold trims at ht
  obtain ⟨a, ha, ht⟩ := Option.bind_eq_some_iff.1 ht
  obtain ⟨b, hb, ht⟩ := Option.bind_eq_some_iff.1 ht
  obtain ⟨c, hc, ht⟩ := Option.bind_eq_some_iff.1 ht
  have HA := Aside0.mk ha
  have HB := Aside0.mk hb
  have HC := Aside0.mk hc
  have HT := Aside0.mk ht
  have HE := Aside0.mk hE
  have CP := Aside0.mk fun wx (hx : wx.cell? ⟨6, 0, none⟩ = some ev) => parse_any t v h ev wx hx hev
  have hz : ((s.size : Int) == 0) = false := by
    have : (s.size : Int) ≠ 0 := by omega
    simpa using this
  have HH := Aside0.mk h
  clear ha hb hc ht hE hev h
  go_enter Tryd.func65, Tryd.ntmps65
  go_wp2_with fail
  refine (strings_TrimPrefix.calls _ _ _ _ HA.out).mono ?_
  rintro e w1 ⟨rfl, ⟨m1, rfl⟩⟩
  go_wp2_with fail
  refine (strings_TrimPrefix.calls _ _ _ _ HB.out).mono ?_
  rintro e w2 ⟨rfl, ⟨m2, rfl⟩⟩
  go_wp2_with fail
  refine (strings_TrimSuffix.calls _ _ _ _ HC.out).mono ?_
  rintro e w3 ⟨rfl, ⟨m3, rfl⟩⟩
  go_wp2_with fail
  refine (strings_TrimSuffix.calls _ _ _ _ HT.out).mono ?_
  rintro e w4 ⟨rfl, ⟨m4, rfl⟩⟩
  rcases HH.out with ⟨rfl, rfl⟩ | ⟨n, hn, hdt, rfl⟩
  · go_wp2_with fail
    go_ret
    exact ⟨rfl, Drawn0.below ⟨⟨_, rfl⟩⟩⟩
  · have h48 : (t.toList == [48]) = false := by rw [hdt, ByteArray.toList_eq]; exact one_d n hn
    have hz2 : ((t.size : Int) == 0) = false := by rw [hdt]; rfl
    have hz3 : 1 ≤ t.size := by rw [hdt]; exact Nat.le_refl 1
    have HDT := Aside0.mk hdt
    clear hdt
    go_wp2_with fail
    refine (CP.out (w.drewN (m1 + m2 + m3 + m4)) HE.out).mono ?_
    rintro e w5 ⟨er, rfl, her, b5⟩
    obtain rfl := her (by rw [HDT.out]; intro h; exact absurd (congrArg ByteArray.size h) (by show (1 : Nat) ≠ 0; omega))
    have B5 := Aside0.mk ((Drawn0.below (w := w) (w' := w.drewN (m1 + m2 + m3 + m4)) ⟨⟨_, rfl⟩⟩).trans b5)
    clear b5 her
    go_wp2_with fail
    go_ret
    exact ⟨rfl, B5.out⟩
end Go.Proofs.YtmildhkegpmacaaDoor.ParseWalk
