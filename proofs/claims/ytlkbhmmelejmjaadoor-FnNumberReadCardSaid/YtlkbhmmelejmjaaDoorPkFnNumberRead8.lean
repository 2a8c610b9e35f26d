/- Parts of the proof of FnNumberRead, one behind the other: NumInt, NumAny. Each part says ahead of itself what it proves. -/
import Derived.Test.YtlkbhmmelejmjaaDoorPkFnNumberRead7
import Derived.Deep.RegionHeld3
import Derived.Deep.DrawnRows

/- ParseUint and ParseInt of package strconv, with their errors. -/
namespace Go.Proofs.YtlkbhmmelejmjaaDoor.NumInt
open Go.RowKit Go.Proofs.YtlkbhmmelejmjaaDoorW.PrintWords Go.Proofs.YtlkbhmmelejmjaaDoor.FltAtof Go.Proofs.YtlkbhmmelejmjaaDoor.FltParse Go.Proofs.YtlkbhmmelejmjaaDoor.NumParse Go.Proofs.YtlkbhmmelejmjaaDoor.NumStrip Go.Proofs.YtlkbhmmelejmjaaDoor.NumErr
set_option linter.unusedVariables false
set_option linter.unusedSimpArgs false


/-- The kind of the error: 0 none, 1 too great, 2 no number. -/
def kd : En → Nat
  | .ok _ => 0
  | .range => 1
  | .bad => 2
def vl : En → Nat
  | .ok n => n
  | _ => 0
/-- What the digits of a base spell; no digits are no number. -/
def puE (b : Nat) (t : ByteArray) : En := if t.size = 0 then .bad else pu b 0 t.data.toList
def Bs (b : Nat) (B : Int) : Prop := (b = 2 ∧ B = 2) ∨ (b = 8 ∧ B = 8) ∨ (b = 10 ∧ B = 10) ∨ (b = 16 ∧ B = 16)
def PUe (q : En) (w : World) (e : Ending) (w' : World) : Prop := e = .returned (uTup 65 q) ∧ Below w.heap.size w w'

set_option maxRecDepth 100000 in
theorem parse_any (b : Nat) (B : Int) (hb : Bs b B) (t : ByteArray) (hmax : t.size ≤ 9223372036854775806) (w : World) : Calls Tryd.prog 44 #[.string t, .int .i64 B, .int .i64 64] w (PUe (puE b t) w) := by
  by_cases h0 : t.size = 0
  · have ht : t = ⟨#[]⟩ := ByteArray.ext (Array.eq_empty_of_size_eq_zero h0)
    have hq : puE b t = .bad := if_pos h0
    rw [hq]
    subst ht
    unfold PUe uTup
    clear hq h0 hb
    go_enter Tryd.func44, Tryd.ntmps44
    go_wp2_with fail
    go_ret2
    exact ⟨rfl, Below.refl _ _⟩
  · have hq : puE b t = pu b 0 t.data.toList := if_neg h0
    rw [hq]
    rcases hb with ⟨rfl, rfl⟩ | ⟨rfl, rfl⟩ | ⟨rfl, rfl⟩ | ⟨rfl, rfl⟩
    · exact parse_2 t h0 hmax w
    · exact parse_8 t h0 hmax w
    · exact parse_10 t h0 hmax w
    · exact parse_16 t h0 hmax w

theorem tup_ok (n : Nat) : uTup 65 (.ok n) = .tuple #[.int .u64 n, .nilIface] := rfl
theorem tup_syn : uTup 65 .bad = .tuple #[.int .u64 0, erN 2] := rfl
theorem tup_ran : uTup 65 .range = .tuple #[.int .u64 18446744073709551615, erN 1] := rfl

def Un (q : En) (EV : Nat → Value) (w : World) (e : Ending) (w' : World) : Prop := NumE (.int .u64 (vl q : Nat)) (kd q) EV w e w'
set_option maxRecDepth 100000 in
/-- strconv.ParseUint. -/
theorem uint_any (Bk : Nat) (EV : Nat → Value) (b : Nat) (B : Int) (hb : Bs b B) (t : ByteArray) (hs : t.size ≤ 281474976710656) (w : World) (hB : Bk ≤ w.heap.size) (hE : Errs Bk EV w) : Calls Tryd.prog 33 #[.string t, .int .i64 B, .int .i64 64] w (Un (puE b t) EV w) := by
  have C := parse_any b B hb t (by omega) w
  unfold PUe at C
  unfold Un
  generalize puE b t = q at C
  have D : Aside0 (∀ (k : Nat), k = 1 ∨ k = 2 → ∀ (W : World) (hbl : Below w.heap.size w W), Calls Tryd.prog 24 #[.string ⟨#[80, 97, 114, 115, 101, 85, 105, 110, 116]⟩, .string t, .int .i64 B, .int .i64 64, erN k] W (ErP EV k ⟨#[80, 97, 114, 115, 101, 85, 105, 110, 116]⟩ t W)) := ⟨fun k hk W hbl => toErr Bk EV k hk _ t B 64 hs W (hE.keep hbl hB)⟩
  clear hE hb
  cases q with
  | ok n =>
    rw [tup_ok] at C
    obtain ⟨v, hv⟩ : ∃ v, v = (n : Int) := ⟨_, rfl⟩
    show Calls _ _ _ _ (NumE (.int .u64 (n : Int)) 0 EV w)
    rw [← hv] at C ⊢
    have C := Aside0.mk C
    clear hv
    go_enter Tryd.func33, Tryd.ntmps33
    go_wp2_with (first | (go_at_call 44; refine C.out.mono ?_; rintro e w1 ⟨rfl, hb3⟩; have HB3 := Aside0.mk hb3; clear hb3))
    go_ret2
    exact ⟨HB3.out, .inl ⟨rfl, rfl⟩⟩
  | bad =>
    rw [tup_syn, show erN 2 = .iface 65 (.int .i64 2) from rfl] at C
    have C := Aside0.mk C
    have D := Aside0.mk (D.out 2 (.inr rfl))
    rw [show erN 2 = .iface 65 (.int .i64 2) from rfl] at D
    show Calls _ _ _ _ (NumE (.int .u64 0) 2 EV w)
    go_enter Tryd.func33, Tryd.ntmps33
    go_wp2_with (first | (go_at_call 44; refine C.out.mono ?_; rintro e w1 ⟨rfl, hb3⟩; have HB3 := Aside0.mk hb3; clear hb3) | (go_at_call 24; refine (D.out _ HB3.out).mono ?_; rintro e w2 ⟨N, rfl, h1, h2, h3⟩; have H1 := Aside0.mk h1; have H2 := Aside0.mk h2; have H3 := Aside0.mk h3; clear h1 h2 h3))
    all_goals go_ret2
    all_goals exact ⟨HB3.out.trans (H3.out.mono HB3.out.size), .inr ⟨by decide, _, _, _, _, rfl, Nat.le_trans HB3.out.size H1.out, H2.out⟩⟩
  | range =>
    rw [tup_ran, show erN 1 = .iface 65 (.int .i64 1) from rfl] at C
    have C := Aside0.mk C
    have D := Aside0.mk (D.out 1 (.inl rfl))
    rw [show erN 1 = .iface 65 (.int .i64 1) from rfl] at D
    show Calls _ _ _ _ (NumE (.int .u64 0) 1 EV w)
    go_enter Tryd.func33, Tryd.ntmps33
    go_wp2_with (first | (go_at_call 44; refine C.out.mono ?_; rintro e w1 ⟨rfl, hb3⟩; have HB3 := Aside0.mk hb3; clear hb3) | (go_at_call 24; refine (D.out _ HB3.out).mono ?_; rintro e w2 ⟨N, rfl, h1, h2, h3⟩; have H1 := Aside0.mk h1; have H2 := Aside0.mk h2; have H3 := Aside0.mk h3; clear h1 h2 h3))
    all_goals go_ret2
    all_goals exact ⟨HB3.out.trans (H3.out.mono HB3.out.size), .inr ⟨by decide, _, _, _, _, rfl, Nat.le_trans HB3.out.size H1.out, H2.out⟩⟩

/-- What a number of 64 bits behind a minus is. -/
def inE : En → En
  | .ok n => if 9223372036854775808 < n then .range else .ok n
  | .range => .range
  | .bad => .bad
def Ie (q : En) (w : World) (e : Ending) (w' : World) : Prop := Below w.heap.size w w' ∧ match q with
  | .ok n => e = .returned (.tuple #[.int .i64 (-(n : Int)), .nilIface])
  | .range => ∃ v, e = .returned (.tuple #[v, .iface 65 (.int .i64 1)])
  | .bad => e = .returned (.tuple #[.int .i64 0, .iface 65 (.int .i64 2)])
theorem neq21 (W : World) : (binOp .neq 49 (.iface 65 (.int .i64 2)) (.iface 65 (.int .i64 1))).run Tryd.prog W = .ok (.bool true) W := by kernel_rfl
theorem neq11 (W : World) : (binOp .neq 49 (.iface 65 (.int .i64 1)) (.iface 65 (.int .i64 1))).run Tryd.prog W = .ok (.bool false) W := by kernel_rfl

set_option maxHeartbeats 4000000 in
set_option maxRecDepth 100000 in
theorem int_in (b : Nat) (B : Int) (hb : Bs b B) (r : ByteArray) (hs : r.size ≤ 140737488351232) (w : World) : Calls Tryd.prog 43 #[.string (⟨#[45]⟩ ++ r), .int .i64 B, .int .i64 64] w (Ie (inE (puE b r)) w) := by
  have C := parse_any b B hb r (by omega)
  unfold PUe at C
  generalize puE b r = q at C
  obtain ⟨t, ht⟩ : ∃ t : ByteArray, t = ⟨#[45]⟩ ++ r := ⟨_, rfl⟩
  rw [← ht]
  have hd : t.data.toList = 45 :: r.data.toList := by rw [ht, ByteArray.data_append]; simp
  have hsz : t.size = r.size + 1 := by rw [Lib.size_eq, hd, Lib.size_eq]; rfl
  have hemp : t.toList.isEmpty = false := by rw [Lib.toList_data, hd]; rfl
  have hx : t.extract 1 t.size = r := by
    rw [Lib.extract_eq, hd, hsz, Nat.add_sub_cancel]
    rw [List.drop_succ_cons, List.drop_zero, List.take_of_length_le (by rw [← Lib.size_eq]; exact Nat.le_refl _)]
  have h45 : ∀ h, ((t[0]'h).toNat : Int) = 45 := fun h => by
    have : t[0]'h = t.data.toList[0]'(by rw [← Lib.size_eq]; exact h) := rfl
    rw [this]; simp [hd]
  have hs0 : 0 < t.size := by omega
  have hs1 : 1 ≤ t.size := by omega
  clear hd hsz ht hb
  have n21 := neq21
  have n11 := neq11
  cases q with
  | ok n =>
    simp only [tup_ok] at C
    obtain ⟨a, ha⟩ : ∃ a, a = (n : Int) := ⟨_, rfl⟩
    rw [← ha] at C
    have C := Aside0.mk C
    have h0 : 0 ≤ a := by omega
    by_cases h63 : 9223372036854775808 < n
    · have h63' : 9223372036854775808 < a := by omega
      rw [show inE (.ok n) = .range from if_pos h63]
      unfold Ie
      clear ha h63
      go_enter Tryd.func43, Tryd.ntmps43
      go_wp2_with fail
      refine (C.out _).mono ?_
      rintro e w1 ⟨rfl, hbl⟩
      have HB := Aside0.mk hbl
      clear hbl
      go_wp2_with fail
      go_ret2
      exact ⟨HB.out, _, rfl⟩
    · have h63' : ¬ 9223372036854775808 < a := by omega
      have HW : Aside0 (wrap64 (-wrap64 a) = -(n : Int)) := ⟨by unfold wrap64; omega⟩
      rw [show inE (.ok n) = .ok n from if_neg h63]
      unfold Ie
      clear ha h63
      go_enter Tryd.func43, Tryd.ntmps43
      go_wp2_with fail
      refine (C.out _).mono ?_
      rintro e w1 ⟨rfl, hbl⟩
      have HB := Aside0.mk hbl
      clear hbl
      go_wp2_with fail
      go_ret2
      refine ⟨HB.out, ?_⟩
      show Ending.returned (.tuple #[.int .i64 (wrap64 (-wrap64 a)), .nilIface]) = _
      rw [HW.out]
  | bad =>
    simp only [tup_syn, show erN 2 = .iface 65 (.int .i64 2) from rfl] at C
    have C := Aside0.mk C
    show Calls _ _ _ _ (Ie .bad w)
    unfold Ie
    go_enter Tryd.func43, Tryd.ntmps43
    go_wp2_with fail
    refine (C.out _).mono ?_
    rintro e w1 ⟨rfl, hbl⟩
    have HB := Aside0.mk hbl
    clear hbl
    go_wp2_with fail
    go_ret2
    exact ⟨HB.out, rfl⟩
  | range =>
    simp only [tup_ran, show erN 1 = .iface 65 (.int .i64 1) from rfl] at C
    have C := Aside0.mk C
    show Calls _ _ _ _ (Ie .range w)
    unfold Ie
    go_enter Tryd.func43, Tryd.ntmps43
    go_wp2_with fail
    refine (C.out _).mono ?_
    rintro e w1 ⟨rfl, hbl⟩
    have HB := Aside0.mk hbl
    clear hbl
    go_wp2_with fail
    go_ret2
    exact ⟨HB.out, _, rfl⟩

set_option maxRecDepth 100000 in
/-- strconv.ParseInt of a text behind a minus. -/
theorem int_any (Bk : Nat) (EV : Nat → Value) (b : Nat) (B : Int) (hb : Bs b B) (r : ByteArray) (hs : r.size ≤ 140737488351232) (w : World) (hB : Bk ≤ w.heap.size) (hE : Errs Bk EV w) : Calls Tryd.prog 32 #[.string (⟨#[45]⟩ ++ r), .int .i64 B, .int .i64 64] w (NumE (.int .i64 (-(vl (inE (puE b r)) : Nat) : Int)) (kd (inE (puE b r))) EV w) := by
  have C := int_in b B hb r hs w
  have hsz : (⟨#[45]⟩ ++ r : ByteArray).size ≤ 281474976710656 := by
    rw [ByteArray.size_append]
    have : (ByteArray.mk #[45]).size = 1 := rfl
    omega
  generalize inE (puE b r) = q at C
  generalize (⟨#[45]⟩ ++ r : ByteArray) = t at C hsz
  have D : Aside0 (∀ (k : Nat), k = 1 ∨ k = 2 → ∀ (W : World) (hbl : Below w.heap.size w W), Calls Tryd.prog 24 #[.string ⟨#[80, 97, 114, 115, 101, 73, 110, 116]⟩, .string t, .int .i64 B, .int .i64 64, erN k] W (ErP EV k ⟨#[80, 97, 114, 115, 101, 73, 110, 116]⟩ t W)) := ⟨fun k hk W hbl => toErr Bk EV k hk _ t B 64 hsz W (hE.keep hbl hB)⟩
  clear hE hb
  unfold Ie at C
  cases q with
  | ok n =>
    show Calls _ _ _ _ (NumE (.int .i64 (-(n : Int))) 0 EV w)
    obtain ⟨v, hv⟩ : ∃ v, v = -(n : Int) := ⟨_, rfl⟩
    simp only [← hv] at C ⊢
    have C := Aside0.mk C
    clear hv
    go_enter Tryd.func32, Tryd.ntmps32
    go_wp2_with (first | (go_at_call 43; refine C.out.mono ?_; rintro e w1 ⟨hb3, rfl⟩; have HB3 := Aside0.mk hb3; clear hb3))
    go_ret2
    exact ⟨HB3.out, .inl ⟨rfl, rfl⟩⟩
  | bad =>
    have C := Aside0.mk C
    have D := Aside0.mk (D.out 2 (.inr rfl))
    rw [show erN 2 = .iface 65 (.int .i64 2) from rfl] at D
    show Calls _ _ _ _ (NumE (.int .i64 (-0)) 2 EV w)
    go_enter Tryd.func32, Tryd.ntmps32
    go_wp2_with (first | (go_at_call 43; refine C.out.mono ?_; rintro e w1 ⟨hb3, rfl⟩; have HB3 := Aside0.mk hb3; clear hb3) | (go_at_call 24; refine (D.out _ HB3.out).mono ?_; rintro e w2 ⟨N, rfl, h1, h2, h3⟩; have H1 := Aside0.mk h1; have H2 := Aside0.mk h2; have H3 := Aside0.mk h3; clear h1 h2 h3))
    all_goals go_ret2
    all_goals exact ⟨HB3.out.trans (H3.out.mono HB3.out.size), .inr ⟨by decide, _, _, _, _, rfl, Nat.le_trans HB3.out.size H1.out, H2.out⟩⟩
  | range =>
    have C := Aside0.mk C
    have D := Aside0.mk (D.out 1 (.inl rfl))
    rw [show erN 1 = .iface 65 (.int .i64 1) from rfl] at D
    show Calls _ _ _ _ (NumE (.int .i64 (-0)) 1 EV w)
    go_enter Tryd.func32, Tryd.ntmps32
    go_wp2_with (first | (go_at_call 43; refine C.out.mono ?_; rintro e w1 ⟨hb3, v, rfl⟩; have HB3 := Aside0.mk hb3; clear hb3) | (go_at_call 24; refine (D.out _ HB3.out).mono ?_; rintro e w2 ⟨N, rfl, h1, h2, h3⟩; have H1 := Aside0.mk h1; have H2 := Aside0.mk h2; have H3 := Aside0.mk h3; clear h1 h2 h3))
    all_goals go_ret2
    all_goals exact ⟨HB3.out.trans (H3.out.mono HB3.out.size), .inr ⟨by decide, _, _, _, _, rfl, Nat.le_trans HB3.out.size H1.out, H2.out⟩⟩
end Go.Proofs.YtlkbhmmelejmjaaDoor.NumInt

/- Numbers: toNumber at any text, way by way (printed by wip/tools/toany.py). -/
namespace Go.Proofs.YtlkbhmmelejmjaaDoor.NumAny
open Go.RowKit Go.Proofs.YtlkbhmmelejmjaaDoorW.PrintWords Go.Proofs.YtlkbhmmelejmjaaDoor.NumKnown Go.Proofs.YtlkbhmmelejmjaaDoor.NumPure Go.Proofs.YtlkbhmmelejmjaaDoor.NumStrip Go.Proofs.YtlkbhmmelejmjaaDoor.NumErr
set_option linter.unusedVariables false
set_option linter.unusedSimpArgs false
attribute [local go_sem ↓] Go.wp_at_zero Go.wp_at_succ

def Bo (b : Bool) (w : World) (e : Ending) (w' : World) : Prop := e = .returned (.bool b) ∧ Below w.heap.size w w'
def Str (t : ByteArray) (w : World) (e : Ending) (w' : World) : Prop := e = .returned (.string t) ∧ Below w.heap.size w w'
theorem hp_any {s p : ByteArray} {b : Bool} (h : hp s p = b) (w : World) : Calls Tryd.prog 28 #[.string s, .string p] w (Bo b w) :=
  (strings_HasPrefix.calls s p b w (by rw [HP_f, h])).mono fun e w' hh => ⟨hh.1, hh.2.below⟩
theorem tp_any {s p t : ByteArray} (h : tp s p = t) (w : World) : Calls Tryd.prog 31 #[.string s, .string p] w (Str t w) :=
  (strings_TrimPrefix.calls s p t w (by rw [TP_f, h])).mono fun e w' hh => ⟨hh.1, hh.2.below⟩
theorem sp_any {s t : ByteArray} (h : strip s = t) (hs : s.size ≤ 140737488355327) (w : World) : Calls Tryd.prog 30 #[.string s, .string ⟨#[95]⟩, .string ⟨#[]⟩] w (Str t w) :=
  (strip_any s hs w).mono fun e w' hh => ⟨by rw [hh.1, h], hh.2⟩

/-- What a text is: no number, an error of a kind, a number with its type and text. -/
inductive Nr where
  | none
  | err (k : Nat)
  | num (typ : ByteArray) (v : Value) (text : ByteArray)
def outN (k : Nat) (typ : ByteArray) (v : Value) (text : ByteArray) : Nr := if k = 0 then .num typ v text else .err k
theorem outN_ok {k : Nat} (h : k = 0) (typ : ByteArray) (v : Value) (text : ByteArray) : outN k typ v text = .num typ v text := if_pos h
theorem outN_err {k : Nat} (h : k ≠ 0) (typ : ByteArray) (v : Value) (text : ByteArray) : outN k typ v text = .err k := if_neg h
def ToQ (EV : Nat → Value) (b : Nat) (e : Ending) (w' : World) : Nr → Prop
  | .none => e = .returned (.tuple #[.pointer none, .nilIface])
  | .err k => ∃ N fn s, e = .returned (.tuple #[.pointer none, .iface 66 (.pointer (some ⟨N, 0, none⟩))]) ∧ b ≤ N ∧ w'.heap[N]? = some (.cells #[.string fn, .string s, EV k] 74 (0, 0))
  | .num typ v text => ∃ p, e = .returned (.tuple #[.pointer (some ⟨p, 0, none⟩), .nilIface]) ∧ b ≤ p ∧ w'.heap[p]? = some (.cells #[.string typ, v, .string text] 43 (0, 0))
theorem toQ_ok {EV : Nat → Value} {b k : Nat} {e : Ending} {w' : World} {typ text : ByteArray} {v : Value} (hk : k = 0) (p : Nat) (he : e = .returned (.tuple #[.pointer (some ⟨p, 0, none⟩), .nilIface])) (hb : b ≤ p) (hc : w'.heap[p]? = some (.cells #[.string typ, v, .string text] 43 (0, 0))) : ToQ EV b e w' (outN k typ v text) := by
  rw [outN_ok hk]; exact ⟨p, he, hb, hc⟩
theorem toQ_err {EV : Nat → Value} {b k : Nat} {e : Ending} {w' : World} {typ text : ByteArray} {v : Value} (hk : k ≠ 0) (N : Nat) (fn s : ByteArray) (he : e = .returned (.tuple #[.pointer none, .iface 66 (.pointer (some ⟨N, 0, none⟩))])) (hb : b ≤ N) (hc : w'.heap[N]? = some (.cells #[.string fn, .string s, EV k] 74 (0, 0))) : ToQ EV b e w' (outN k typ v text) := by
  rw [outN_err hk]; exact ⟨N, fn, s, he, hb, hc⟩
def ToP (EV : Nat → Value) (r : Nr) (w : World) (e : Ending) (w' : World) : Prop := Below w.heap.size w w' ∧ ToQ EV w.heap.size e w' r

set_option maxHeartbeats 8000000 in
set_option maxRecDepth 100000 in
theorem to_hex_pos (EV : Nat → Value) (s s1 s2 n r : ByteArray) (h0 : s.size ≠ 0) (hsz : s.size ≤ 140737488351232) (hus : hp s ⟨#[95]⟩ = false) (d : Nat) (hd : d ≤ 1) (hdot : cnt 46 s = d) (hneg : hp s ⟨#[45]⟩ = false) (hplus : tp s ⟨#[43]⟩ = s1) (hmin : tp s1 ⟨#[45]⟩ = s2) (hs2 : s2.size ≤ 140737488351232) (hn : strip s2 = n) (hhex : hp n ⟨#[48, 120]⟩ = true) (hr : tp n ⟨#[48, 120]⟩ = r) (okv : Value) (k : Nat) (w : World) (HP : ∀ W, Below w.heap.size w W → Calls Tryd.prog 33 #[.string r, .int .i64 16, .int .i64 64] W (NumE okv k EV W)) : Calls Tryd.prog 21 #[.string s] w (ToP EV (outN k ⟨#[104, 101, 120]⟩ (.iface 22 okv) r) w) := by
  have HC : Aside0 (∀ W, Calls Tryd.prog 29 #[.string s, .string ⟨#[46]⟩] W (Cnt (d : Int) W)) := ⟨fun W => (count_one s 46 (by omega) W).mono fun e w' h => ⟨by rw [h.1, hdot], h.2⟩⟩
  have HPC := Aside0.mk HP
  have hse : ((s.size : Int) == 0) = false := beq_eq_false_iff_ne.mpr (by omega)
  have A0 := Aside0.mk (fun W => hp_any hus W)
  have A2 := Aside0.mk (fun W => hp_any hneg W)
  have A3 := Aside0.mk (fun W => tp_any hplus W)
  have A4 := Aside0.mk (fun W => tp_any hmin W)
  have A5 := Aside0.mk (fun W => sp_any hn (by omega) W)
  have A6 := Aside0.mk (fun W => hp_any hhex W)
  have A7 := Aside0.mk (fun W => tp_any hr W)
  have hd1 : ¬ (1 : Int) < (d : Int) := by omega
  clear HP hus hdot hneg hplus hmin hn hs2 h0 hhex hr
  go_enter Tryd.func21, Tryd.ntmps21
  have B0 := Aside0.mk (Below.refl w.heap.size w)
  go_wp2_with fail
  refine (A0.out _).mono ?_
  rintro e w1 ⟨rfl, hb1⟩
  have B1 := Aside0.mk (B0.out.trans (hb1.mono B0.out.size))
  clear hb1
  go_wp2_with fail
  refine (HC.out _).mono ?_
  rintro e w101 ⟨rfl, rfl⟩
  go_wp2_with fail
  refine (A2.out _).mono ?_
  rintro e w2 ⟨rfl, hb2⟩
  have B2 := Aside0.mk (B1.out.trans (hb2.mono B1.out.size))
  clear hb2
  go_wp2_with fail
  refine (A3.out _).mono ?_
  rintro e w3 ⟨rfl, hb3⟩
  have B3 := Aside0.mk (B2.out.trans (hb3.mono B2.out.size))
  clear hb3
  go_wp2_with fail
  refine (A4.out _).mono ?_
  rintro e w4 ⟨rfl, hb4⟩
  have B4 := Aside0.mk (B3.out.trans (hb4.mono B3.out.size))
  clear hb4
  go_wp2_with fail
  refine (A5.out _).mono ?_
  rintro e w5 ⟨rfl, hb5⟩
  have B5 := Aside0.mk (B4.out.trans (hb5.mono B4.out.size))
  clear hb5
  go_wp2_with fail
  refine (A6.out _).mono ?_
  rintro e w6 ⟨rfl, hb6⟩
  have B6 := Aside0.mk (B5.out.trans (hb6.mono B5.out.size))
  clear hb6
  go_wp2_with fail
  refine (A7.out _).mono ?_
  rintro e w7 ⟨rfl, hb7⟩
  have B7 := Aside0.mk (B6.out.trans (hb7.mono B6.out.size))
  clear hb7
  go_wp2_with fail
  refine (HPC.out _ B7.out).mono ?_
  rintro e w8 ⟨hb8, h8⟩
  have B8 := Aside0.mk (B7.out.trans (hb8.mono B7.out.size))
  rcases h8 with ⟨hk, rfl⟩ | ⟨hk, v, N, fn, ss, rfl, hN, hblk⟩
  · have HK := Aside0.mk hk
    clear hk hb8
    go_wp2_with fail
    go_ret2
    exact ⟨B8.out.alloc B8.out.size _, toQ_ok HK.out _ rfl B8.out.size (blk_new _ _)⟩
  · have HK := Aside0.mk hk
    have HN := Aside0.mk hN
    have HBK := Aside0.mk hblk
    clear hk hN hblk hb8
    go_wp2_with fail
    go_ret2
    exact ⟨B8.out, toQ_err HK.out N fn ss rfl (Nat.le_trans B7.out.size HN.out) HBK.out⟩

set_option maxHeartbeats 8000000 in
set_option maxRecDepth 100000 in
theorem to_hex_neg (EV : Nat → Value) (s s1 s2 n r : ByteArray) (h0 : s.size ≠ 0) (hsz : s.size ≤ 140737488351232) (hus : hp s ⟨#[95]⟩ = false) (d : Nat) (hd : d ≤ 1) (hdot : cnt 46 s = d) (hneg : hp s ⟨#[45]⟩ = true) (hplus : tp s ⟨#[43]⟩ = s1) (hmin : tp s1 ⟨#[45]⟩ = s2) (hs2 : s2.size ≤ 140737488351232) (hn : strip s2 = n) (hhex : hp n ⟨#[48, 120]⟩ = true) (hr : tp n ⟨#[48, 120]⟩ = r) (hnz : r.size ≤ 140737488351232) (okv : Value) (k : Nat) (w : World) (HP : ∀ W, Below w.heap.size w W → Calls Tryd.prog 32 #[.string (⟨#[45]⟩ ++ r), .int .i64 16, .int .i64 64] W (NumE okv k EV W)) : Calls Tryd.prog 21 #[.string s] w (ToP EV (outN k ⟨#[104, 101, 120]⟩ (.iface 2 okv) (⟨#[45]⟩ ++ r)) w) := by
  have HC : Aside0 (∀ W, Calls Tryd.prog 29 #[.string s, .string ⟨#[46]⟩] W (Cnt (d : Int) W)) := ⟨fun W => (count_one s 46 (by omega) W).mono fun e w' h => ⟨by rw [h.1, hdot], h.2⟩⟩
  have HPC := Aside0.mk HP
  have hse : ((s.size : Int) == 0) = false := beq_eq_false_iff_ne.mpr (by omega)
  have A0 := Aside0.mk (fun W => hp_any hus W)
  have A2 := Aside0.mk (fun W => hp_any hneg W)
  have A3 := Aside0.mk (fun W => tp_any hplus W)
  have A4 := Aside0.mk (fun W => tp_any hmin W)
  have A5 := Aside0.mk (fun W => sp_any hn (by omega) W)
  have A6 := Aside0.mk (fun W => hp_any hhex W)
  have A7 := Aside0.mk (fun W => tp_any hr W)
  have hd1 : ¬ (1 : Int) < (d : Int) := by omega
  clear HP hus hdot hneg hplus hmin hn hs2 h0 hhex hr
  go_enter Tryd.func21, Tryd.ntmps21
  have B0 := Aside0.mk (Below.refl w.heap.size w)
  go_wp2_with fail
  refine (A0.out _).mono ?_
  rintro e w1 ⟨rfl, hb1⟩
  have B1 := Aside0.mk (B0.out.trans (hb1.mono B0.out.size))
  clear hb1
  go_wp2_with fail
  refine (HC.out _).mono ?_
  rintro e w101 ⟨rfl, rfl⟩
  go_wp2_with fail
  refine (A2.out _).mono ?_
  rintro e w2 ⟨rfl, hb2⟩
  have B2 := Aside0.mk (B1.out.trans (hb2.mono B1.out.size))
  clear hb2
  go_wp2_with fail
  refine (A3.out _).mono ?_
  rintro e w3 ⟨rfl, hb3⟩
  have B3 := Aside0.mk (B2.out.trans (hb3.mono B2.out.size))
  clear hb3
  go_wp2_with fail
  refine (A4.out _).mono ?_
  rintro e w4 ⟨rfl, hb4⟩
  have B4 := Aside0.mk (B3.out.trans (hb4.mono B3.out.size))
  clear hb4
  go_wp2_with fail
  refine (A5.out _).mono ?_
  rintro e w5 ⟨rfl, hb5⟩
  have B5 := Aside0.mk (B4.out.trans (hb5.mono B4.out.size))
  clear hb5
  go_wp2_with fail
  refine (A6.out _).mono ?_
  rintro e w6 ⟨rfl, hb6⟩
  have B6 := Aside0.mk (B5.out.trans (hb6.mono B5.out.size))
  clear hb6
  go_wp2_with fail
  refine (A7.out _).mono ?_
  rintro e w7 ⟨rfl, hb7⟩
  have B7 := Aside0.mk (B6.out.trans (hb7.mono B6.out.size))
  clear hb7
  go_wp2_with fail
  refine (HPC.out _ B7.out).mono ?_
  rintro e w8 ⟨hb8, h8⟩
  have B8 := Aside0.mk (B7.out.trans (hb8.mono B7.out.size))
  rcases h8 with ⟨hk, rfl⟩ | ⟨hk, v, N, fn, ss, rfl, hN, hblk⟩
  · have HK := Aside0.mk hk
    clear hk hb8
    go_wp2_with fail
    go_ret2
    exact ⟨B8.out.alloc B8.out.size _, toQ_ok HK.out _ rfl B8.out.size (blk_new _ _)⟩
  · have HK := Aside0.mk hk
    have HN := Aside0.mk hN
    have HBK := Aside0.mk hblk
    clear hk hN hblk hb8
    go_wp2_with fail
    go_ret2
    exact ⟨B8.out, toQ_err HK.out N fn ss rfl (Nat.le_trans B7.out.size HN.out) HBK.out⟩

set_option maxHeartbeats 8000000 in
set_option maxRecDepth 100000 in
theorem to_oct_pos (EV : Nat → Value) (s s1 s2 n r : ByteArray) (h0 : s.size ≠ 0) (hsz : s.size ≤ 140737488351232) (hus : hp s ⟨#[95]⟩ = false) (d : Nat) (hd : d ≤ 1) (hdot : cnt 46 s = d) (hneg : hp s ⟨#[45]⟩ = false) (hplus : tp s ⟨#[43]⟩ = s1) (hmin : tp s1 ⟨#[45]⟩ = s2) (hs2 : s2.size ≤ 140737488351232) (hn : strip s2 = n) (hhex : hp n ⟨#[48, 120]⟩ = false) (hoct : hp n ⟨#[48, 111]⟩ = true) (hr : tp n ⟨#[48, 111]⟩ = r) (okv : Value) (k : Nat) (w : World) (HP : ∀ W, Below w.heap.size w W → Calls Tryd.prog 33 #[.string r, .int .i64 8, .int .i64 64] W (NumE okv k EV W)) : Calls Tryd.prog 21 #[.string s] w (ToP EV (outN k ⟨#[111, 99, 116, 101, 116]⟩ (.iface 22 okv) r) w) := by
  have HC : Aside0 (∀ W, Calls Tryd.prog 29 #[.string s, .string ⟨#[46]⟩] W (Cnt (d : Int) W)) := ⟨fun W => (count_one s 46 (by omega) W).mono fun e w' h => ⟨by rw [h.1, hdot], h.2⟩⟩
  have HPC := Aside0.mk HP
  have hse : ((s.size : Int) == 0) = false := beq_eq_false_iff_ne.mpr (by omega)
  have A0 := Aside0.mk (fun W => hp_any hus W)
  have A2 := Aside0.mk (fun W => hp_any hneg W)
  have A3 := Aside0.mk (fun W => tp_any hplus W)
  have A4 := Aside0.mk (fun W => tp_any hmin W)
  have A5 := Aside0.mk (fun W => sp_any hn (by omega) W)
  have A6 := Aside0.mk (fun W => hp_any hhex W)
  have A7 := Aside0.mk (fun W => hp_any hoct W)
  have A8 := Aside0.mk (fun W => tp_any hr W)
  have hd1 : ¬ (1 : Int) < (d : Int) := by omega
  clear HP hus hdot hneg hplus hmin hn hs2 h0 hhex hoct hr
  go_enter Tryd.func21, Tryd.ntmps21
  have B0 := Aside0.mk (Below.refl w.heap.size w)
  go_wp2_with fail
  refine (A0.out _).mono ?_
  rintro e w1 ⟨rfl, hb1⟩
  have B1 := Aside0.mk (B0.out.trans (hb1.mono B0.out.size))
  clear hb1
  go_wp2_with fail
  refine (HC.out _).mono ?_
  rintro e w101 ⟨rfl, rfl⟩
  go_wp2_with fail
  refine (A2.out _).mono ?_
  rintro e w2 ⟨rfl, hb2⟩
  have B2 := Aside0.mk (B1.out.trans (hb2.mono B1.out.size))
  clear hb2
  go_wp2_with fail
  refine (A3.out _).mono ?_
  rintro e w3 ⟨rfl, hb3⟩
  have B3 := Aside0.mk (B2.out.trans (hb3.mono B2.out.size))
  clear hb3
  go_wp2_with fail
  refine (A4.out _).mono ?_
  rintro e w4 ⟨rfl, hb4⟩
  have B4 := Aside0.mk (B3.out.trans (hb4.mono B3.out.size))
  clear hb4
  go_wp2_with fail
  refine (A5.out _).mono ?_
  rintro e w5 ⟨rfl, hb5⟩
  have B5 := Aside0.mk (B4.out.trans (hb5.mono B4.out.size))
  clear hb5
  go_wp2_with fail
  refine (A6.out _).mono ?_
  rintro e w6 ⟨rfl, hb6⟩
  have B6 := Aside0.mk (B5.out.trans (hb6.mono B5.out.size))
  clear hb6
  go_wp2_with fail
  refine (A7.out _).mono ?_
  rintro e w7 ⟨rfl, hb7⟩
  have B7 := Aside0.mk (B6.out.trans (hb7.mono B6.out.size))
  clear hb7
  go_wp2_with fail
  refine (A8.out _).mono ?_
  rintro e w8 ⟨rfl, hb8⟩
  have B8 := Aside0.mk (B7.out.trans (hb8.mono B7.out.size))
  clear hb8
  go_wp2_with fail
  refine (HPC.out _ B8.out).mono ?_
  rintro e w9 ⟨hb9, h9⟩
  have B9 := Aside0.mk (B8.out.trans (hb9.mono B8.out.size))
  rcases h9 with ⟨hk, rfl⟩ | ⟨hk, v, N, fn, ss, rfl, hN, hblk⟩
  · have HK := Aside0.mk hk
    clear hk hb9
    go_wp2_with fail
    go_ret2
    exact ⟨B9.out.alloc B9.out.size _, toQ_ok HK.out _ rfl B9.out.size (blk_new _ _)⟩
  · have HK := Aside0.mk hk
    have HN := Aside0.mk hN
    have HBK := Aside0.mk hblk
    clear hk hN hblk hb9
    go_wp2_with fail
    go_ret2
    exact ⟨B9.out, toQ_err HK.out N fn ss rfl (Nat.le_trans B8.out.size HN.out) HBK.out⟩

set_option maxHeartbeats 8000000 in
set_option maxRecDepth 100000 in
theorem to_oct_neg (EV : Nat → Value) (s s1 s2 n r : ByteArray) (h0 : s.size ≠ 0) (hsz : s.size ≤ 140737488351232) (hus : hp s ⟨#[95]⟩ = false) (d : Nat) (hd : d ≤ 1) (hdot : cnt 46 s = d) (hneg : hp s ⟨#[45]⟩ = true) (hplus : tp s ⟨#[43]⟩ = s1) (hmin : tp s1 ⟨#[45]⟩ = s2) (hs2 : s2.size ≤ 140737488351232) (hn : strip s2 = n) (hhex : hp n ⟨#[48, 120]⟩ = false) (hoct : hp n ⟨#[48, 111]⟩ = true) (hr : tp n ⟨#[48, 111]⟩ = r) (hnz : r.size ≤ 140737488351232) (okv : Value) (k : Nat) (w : World) (HP : ∀ W, Below w.heap.size w W → Calls Tryd.prog 32 #[.string (⟨#[45]⟩ ++ r), .int .i64 8, .int .i64 64] W (NumE okv k EV W)) : Calls Tryd.prog 21 #[.string s] w (ToP EV (outN k ⟨#[111, 99, 116, 101, 116]⟩ (.iface 2 okv) (⟨#[45]⟩ ++ r)) w) := by
  have HC : Aside0 (∀ W, Calls Tryd.prog 29 #[.string s, .string ⟨#[46]⟩] W (Cnt (d : Int) W)) := ⟨fun W => (count_one s 46 (by omega) W).mono fun e w' h => ⟨by rw [h.1, hdot], h.2⟩⟩
  have HPC := Aside0.mk HP
  have hse : ((s.size : Int) == 0) = false := beq_eq_false_iff_ne.mpr (by omega)
  have A0 := Aside0.mk (fun W => hp_any hus W)
  have A2 := Aside0.mk (fun W => hp_any hneg W)
  have A3 := Aside0.mk (fun W => tp_any hplus W)
  have A4 := Aside0.mk (fun W => tp_any hmin W)
  have A5 := Aside0.mk (fun W => sp_any hn (by omega) W)
  have A6 := Aside0.mk (fun W => hp_any hhex W)
  have A7 := Aside0.mk (fun W => hp_any hoct W)
  have A8 := Aside0.mk (fun W => tp_any hr W)
  have hd1 : ¬ (1 : Int) < (d : Int) := by omega
  clear HP hus hdot hneg hplus hmin hn hs2 h0 hhex hoct hr
  go_enter Tryd.func21, Tryd.ntmps21
  have B0 := Aside0.mk (Below.refl w.heap.size w)
  go_wp2_with fail
  refine (A0.out _).mono ?_
  rintro e w1 ⟨rfl, hb1⟩
  have B1 := Aside0.mk (B0.out.trans (hb1.mono B0.out.size))
  clear hb1
  go_wp2_with fail
  refine (HC.out _).mono ?_
  rintro e w101 ⟨rfl, rfl⟩
  go_wp2_with fail
  refine (A2.out _).mono ?_
  rintro e w2 ⟨rfl, hb2⟩
  have B2 := Aside0.mk (B1.out.trans (hb2.mono B1.out.size))
  clear hb2
  go_wp2_with fail
  refine (A3.out _).mono ?_
  rintro e w3 ⟨rfl, hb3⟩
  have B3 := Aside0.mk (B2.out.trans (hb3.mono B2.out.size))
  clear hb3
  go_wp2_with fail
  refine (A4.out _).mono ?_
  rintro e w4 ⟨rfl, hb4⟩
  have B4 := Aside0.mk (B3.out.trans (hb4.mono B3.out.size))
  clear hb4
  go_wp2_with fail
  refine (A5.out _).mono ?_
  rintro e w5 ⟨rfl, hb5⟩
  have B5 := Aside0.mk (B4.out.trans (hb5.mono B4.out.size))
  clear hb5
  go_wp2_with fail
  refine (A6.out _).mono ?_
  rintro e w6 ⟨rfl, hb6⟩
  have B6 := Aside0.mk (B5.out.trans (hb6.mono B5.out.size))
  clear hb6
  go_wp2_with fail
  refine (A7.out _).mono ?_
  rintro e w7 ⟨rfl, hb7⟩
  have B7 := Aside0.mk (B6.out.trans (hb7.mono B6.out.size))
  clear hb7
  go_wp2_with fail
  refine (A8.out _).mono ?_
  rintro e w8 ⟨rfl, hb8⟩
  have B8 := Aside0.mk (B7.out.trans (hb8.mono B7.out.size))
  clear hb8
  go_wp2_with fail
  refine (HPC.out _ B8.out).mono ?_
  rintro e w9 ⟨hb9, h9⟩
  have B9 := Aside0.mk (B8.out.trans (hb9.mono B8.out.size))
  rcases h9 with ⟨hk, rfl⟩ | ⟨hk, v, N, fn, ss, rfl, hN, hblk⟩
  · have HK := Aside0.mk hk
    clear hk hb9
    go_wp2_with fail
    go_ret2
    exact ⟨B9.out.alloc B9.out.size _, toQ_ok HK.out _ rfl B9.out.size (blk_new _ _)⟩
  · have HK := Aside0.mk hk
    have HN := Aside0.mk hN
    have HBK := Aside0.mk hblk
    clear hk hN hblk hb9
    go_wp2_with fail
    go_ret2
    exact ⟨B9.out, toQ_err HK.out N fn ss rfl (Nat.le_trans B8.out.size HN.out) HBK.out⟩

set_option maxHeartbeats 8000000 in
set_option maxRecDepth 100000 in
theorem to_bin_pos (EV : Nat → Value) (s s1 s2 n r : ByteArray) (h0 : s.size ≠ 0) (hsz : s.size ≤ 140737488351232) (hus : hp s ⟨#[95]⟩ = false) (d : Nat) (hd : d ≤ 1) (hdot : cnt 46 s = d) (hneg : hp s ⟨#[45]⟩ = false) (hplus : tp s ⟨#[43]⟩ = s1) (hmin : tp s1 ⟨#[45]⟩ = s2) (hs2 : s2.size ≤ 140737488351232) (hn : strip s2 = n) (hhex : hp n ⟨#[48, 120]⟩ = false) (hoct : hp n ⟨#[48, 111]⟩ = false) (hbin : hp n ⟨#[48, 98]⟩ = true) (hr : tp n ⟨#[48, 98]⟩ = r) (okv : Value) (k : Nat) (w : World) (HP : ∀ W, Below w.heap.size w W → Calls Tryd.prog 33 #[.string r, .int .i64 2, .int .i64 64] W (NumE okv k EV W)) : Calls Tryd.prog 21 #[.string s] w (ToP EV (outN k ⟨#[98, 105, 110, 97, 114, 121]⟩ (.iface 22 okv) r) w) := by
  have HC : Aside0 (∀ W, Calls Tryd.prog 29 #[.string s, .string ⟨#[46]⟩] W (Cnt (d : Int) W)) := ⟨fun W => (count_one s 46 (by omega) W).mono fun e w' h => ⟨by rw [h.1, hdot], h.2⟩⟩
  have HPC := Aside0.mk HP
  have hse : ((s.size : Int) == 0) = false := beq_eq_false_iff_ne.mpr (by omega)
  have A0 := Aside0.mk (fun W => hp_any hus W)
  have A2 := Aside0.mk (fun W => hp_any hneg W)
  have A3 := Aside0.mk (fun W => tp_any hplus W)
  have A4 := Aside0.mk (fun W => tp_any hmin W)
  have A5 := Aside0.mk (fun W => sp_any hn (by omega) W)
  have A6 := Aside0.mk (fun W => hp_any hhex W)
  have A7 := Aside0.mk (fun W => hp_any hoct W)
  have A8 := Aside0.mk (fun W => hp_any hbin W)
  have A9 := Aside0.mk (fun W => tp_any hr W)
  have hd1 : ¬ (1 : Int) < (d : Int) := by omega
  clear HP hus hdot hneg hplus hmin hn hs2 h0 hhex hoct hbin hr
  go_enter Tryd.func21, Tryd.ntmps21
  have B0 := Aside0.mk (Below.refl w.heap.size w)
  go_wp2_with fail
  refine (A0.out _).mono ?_
  rintro e w1 ⟨rfl, hb1⟩
  have B1 := Aside0.mk (B0.out.trans (hb1.mono B0.out.size))
  clear hb1
  go_wp2_with fail
  refine (HC.out _).mono ?_
  rintro e w101 ⟨rfl, rfl⟩
  go_wp2_with fail
  refine (A2.out _).mono ?_
  rintro e w2 ⟨rfl, hb2⟩
  have B2 := Aside0.mk (B1.out.trans (hb2.mono B1.out.size))
  clear hb2
  go_wp2_with fail
  refine (A3.out _).mono ?_
  rintro e w3 ⟨rfl, hb3⟩
  have B3 := Aside0.mk (B2.out.trans (hb3.mono B2.out.size))
  clear hb3
  go_wp2_with fail
  refine (A4.out _).mono ?_
  rintro e w4 ⟨rfl, hb4⟩
  have B4 := Aside0.mk (B3.out.trans (hb4.mono B3.out.size))
  clear hb4
  go_wp2_with fail
  refine (A5.out _).mono ?_
  rintro e w5 ⟨rfl, hb5⟩
  have B5 := Aside0.mk (B4.out.trans (hb5.mono B4.out.size))
  clear hb5
  go_wp2_with fail
  refine (A6.out _).mono ?_
  rintro e w6 ⟨rfl, hb6⟩
  have B6 := Aside0.mk (B5.out.trans (hb6.mono B5.out.size))
  clear hb6
  go_wp2_with fail
  refine (A7.out _).mono ?_
  rintro e w7 ⟨rfl, hb7⟩
  have B7 := Aside0.mk (B6.out.trans (hb7.mono B6.out.size))
  clear hb7
  go_wp2_with fail
  refine (A8.out _).mono ?_
  rintro e w8 ⟨rfl, hb8⟩
  have B8 := Aside0.mk (B7.out.trans (hb8.mono B7.out.size))
  clear hb8
  go_wp2_with fail
  refine (A9.out _).mono ?_
  rintro e w9 ⟨rfl, hb9⟩
  have B9 := Aside0.mk (B8.out.trans (hb9.mono B8.out.size))
  clear hb9
  go_wp2_with fail
  refine (HPC.out _ B9.out).mono ?_
  rintro e w10 ⟨hb10, h10⟩
  have B10 := Aside0.mk (B9.out.trans (hb10.mono B9.out.size))
  rcases h10 with ⟨hk, rfl⟩ | ⟨hk, v, N, fn, ss, rfl, hN, hblk⟩
  · have HK := Aside0.mk hk
    clear hk hb10
    go_wp2_with fail
    go_ret2
    exact ⟨B10.out.alloc B10.out.size _, toQ_ok HK.out _ rfl B10.out.size (blk_new _ _)⟩
  · have HK := Aside0.mk hk
    have HN := Aside0.mk hN
    have HBK := Aside0.mk hblk
    clear hk hN hblk hb10
    go_wp2_with fail
    go_ret2
    exact ⟨B10.out, toQ_err HK.out N fn ss rfl (Nat.le_trans B9.out.size HN.out) HBK.out⟩

set_option maxHeartbeats 8000000 in
set_option maxRecDepth 100000 in
theorem to_bin_neg (EV : Nat → Value) (s s1 s2 n r : ByteArray) (h0 : s.size ≠ 0) (hsz : s.size ≤ 140737488351232) (hus : hp s ⟨#[95]⟩ = false) (d : Nat) (hd : d ≤ 1) (hdot : cnt 46 s = d) (hneg : hp s ⟨#[45]⟩ = true) (hplus : tp s ⟨#[43]⟩ = s1) (hmin : tp s1 ⟨#[45]⟩ = s2) (hs2 : s2.size ≤ 140737488351232) (hn : strip s2 = n) (hhex : hp n ⟨#[48, 120]⟩ = false) (hoct : hp n ⟨#[48, 111]⟩ = false) (hbin : hp n ⟨#[48, 98]⟩ = true) (hr : tp n ⟨#[48, 98]⟩ = r) (hnz : r.size ≤ 140737488351232) (okv : Value) (k : Nat) (w : World) (HP : ∀ W, Below w.heap.size w W → Calls Tryd.prog 32 #[.string (⟨#[45]⟩ ++ r), .int .i64 2, .int .i64 64] W (NumE okv k EV W)) : Calls Tryd.prog 21 #[.string s] w (ToP EV (outN k ⟨#[98, 105, 110, 97, 114, 121]⟩ (.iface 2 okv) (⟨#[45]⟩ ++ r)) w) := by
  have HC : Aside0 (∀ W, Calls Tryd.prog 29 #[.string s, .string ⟨#[46]⟩] W (Cnt (d : Int) W)) := ⟨fun W => (count_one s 46 (by omega) W).mono fun e w' h => ⟨by rw [h.1, hdot], h.2⟩⟩
  have HPC := Aside0.mk HP
  have hse : ((s.size : Int) == 0) = false := beq_eq_false_iff_ne.mpr (by omega)
  have A0 := Aside0.mk (fun W => hp_any hus W)
  have A2 := Aside0.mk (fun W => hp_any hneg W)
  have A3 := Aside0.mk (fun W => tp_any hplus W)
  have A4 := Aside0.mk (fun W => tp_any hmin W)
  have A5 := Aside0.mk (fun W => sp_any hn (by omega) W)
  have A6 := Aside0.mk (fun W => hp_any hhex W)
  have A7 := Aside0.mk (fun W => hp_any hoct W)
  have A8 := Aside0.mk (fun W => hp_any hbin W)
  have A9 := Aside0.mk (fun W => tp_any hr W)
  have hd1 : ¬ (1 : Int) < (d : Int) := by omega
  clear HP hus hdot hneg hplus hmin hn hs2 h0 hhex hoct hbin hr
  go_enter Tryd.func21, Tryd.ntmps21
  have B0 := Aside0.mk (Below.refl w.heap.size w)
  go_wp2_with fail
  refine (A0.out _).mono ?_
  rintro e w1 ⟨rfl, hb1⟩
  have B1 := Aside0.mk (B0.out.trans (hb1.mono B0.out.size))
  clear hb1
  go_wp2_with fail
  refine (HC.out _).mono ?_
  rintro e w101 ⟨rfl, rfl⟩
  go_wp2_with fail
  refine (A2.out _).mono ?_
  rintro e w2 ⟨rfl, hb2⟩
  have B2 := Aside0.mk (B1.out.trans (hb2.mono B1.out.size))
  clear hb2
  go_wp2_with fail
  refine (A3.out _).mono ?_
  rintro e w3 ⟨rfl, hb3⟩
  have B3 := Aside0.mk (B2.out.trans (hb3.mono B2.out.size))
  clear hb3
  go_wp2_with fail
  refine (A4.out _).mono ?_
  rintro e w4 ⟨rfl, hb4⟩
  have B4 := Aside0.mk (B3.out.trans (hb4.mono B3.out.size))
  clear hb4
  go_wp2_with fail
  refine (A5.out _).mono ?_
  rintro e w5 ⟨rfl, hb5⟩
  have B5 := Aside0.mk (B4.out.trans (hb5.mono B4.out.size))
  clear hb5
  go_wp2_with fail
  refine (A6.out _).mono ?_
  rintro e w6 ⟨rfl, hb6⟩
  have B6 := Aside0.mk (B5.out.trans (hb6.mono B5.out.size))
  clear hb6
  go_wp2_with fail
  refine (A7.out _).mono ?_
  rintro e w7 ⟨rfl, hb7⟩
  have B7 := Aside0.mk (B6.out.trans (hb7.mono B6.out.size))
  clear hb7
  go_wp2_with fail
  refine (A8.out _).mono ?_
  rintro e w8 ⟨rfl, hb8⟩
  have B8 := Aside0.mk (B7.out.trans (hb8.mono B7.out.size))
  clear hb8
  go_wp2_with fail
  refine (A9.out _).mono ?_
  rintro e w9 ⟨rfl, hb9⟩
  have B9 := Aside0.mk (B8.out.trans (hb9.mono B8.out.size))
  clear hb9
  go_wp2_with fail
  refine (HPC.out _ B9.out).mono ?_
  rintro e w10 ⟨hb10, h10⟩
  have B10 := Aside0.mk (B9.out.trans (hb10.mono B9.out.size))
  rcases h10 with ⟨hk, rfl⟩ | ⟨hk, v, N, fn, ss, rfl, hN, hblk⟩
  · have HK := Aside0.mk hk
    clear hk hb10
    go_wp2_with fail
    go_ret2
    exact ⟨B10.out.alloc B10.out.size _, toQ_ok HK.out _ rfl B10.out.size (blk_new _ _)⟩
  · have HK := Aside0.mk hk
    have HN := Aside0.mk hN
    have HBK := Aside0.mk hblk
    clear hk hN hblk hb10
    go_wp2_with fail
    go_ret2
    exact ⟨B10.out, toQ_err HK.out N fn ss rfl (Nat.le_trans B9.out.size HN.out) HBK.out⟩

set_option maxHeartbeats 8000000 in
set_option maxRecDepth 100000 in
theorem to_zero_pos (EV : Nat → Value) (s s1 s2 n : ByteArray) (h0 : s.size ≠ 0) (hsz : s.size ≤ 140737488351232) (hus : hp s ⟨#[95]⟩ = false) (d : Nat) (hd : d ≤ 1) (hdot : cnt 46 s = d) (hneg : hp s ⟨#[45]⟩ = false) (hplus : tp s ⟨#[43]⟩ = s1) (hmin : tp s1 ⟨#[45]⟩ = s2) (hs2 : s2.size ≤ 140737488351232) (hn : strip s2 = n) (hhex : hp n ⟨#[48, 120]⟩ = false) (hoct : hp n ⟨#[48, 111]⟩ = false) (hbin : hp n ⟨#[48, 98]⟩ = false) (hz : hp n ⟨#[48]⟩ = true) (hz1 : 1 < n.size) (hd0 : d = 0) (okv : Value) (k : Nat) (w : World) (HP : ∀ W, Below w.heap.size w W → Calls Tryd.prog 33 #[.string n, .int .i64 8, .int .i64 64] W (NumE okv k EV W)) : Calls Tryd.prog 21 #[.string s] w (ToP EV (outN k ⟨#[111, 99, 116, 101, 116]⟩ (.iface 22 okv) n) w) := by
  have HC : Aside0 (∀ W, Calls Tryd.prog 29 #[.string s, .string ⟨#[46]⟩] W (Cnt (d : Int) W)) := ⟨fun W => (count_one s 46 (by omega) W).mono fun e w' h => ⟨by rw [h.1, hdot], h.2⟩⟩
  have HPC := Aside0.mk HP
  have hse : ((s.size : Int) == 0) = false := beq_eq_false_iff_ne.mpr (by omega)
  have A0 := Aside0.mk (fun W => hp_any hus W)
  have A2 := Aside0.mk (fun W => hp_any hneg W)
  have A3 := Aside0.mk (fun W => tp_any hplus W)
  have A4 := Aside0.mk (fun W => tp_any hmin W)
  have A5 := Aside0.mk (fun W => sp_any hn (by omega) W)
  have A6 := Aside0.mk (fun W => hp_any hhex W)
  have A7 := Aside0.mk (fun W => hp_any hoct W)
  have A8 := Aside0.mk (fun W => hp_any hbin W)
  have HZC : Aside0 (∀ W b, hp n ⟨#[48]⟩ = b → Calls Tryd.prog 28 #[.string n, .string ⟨#[48]⟩] W (Bo b W)) := ⟨fun W b h => hp_any h W⟩
  subst hd0
  clear HP hus hdot hneg hplus hmin hn hs2 h0 hhex hoct hbin
  have hz1' : (1 : Int) < (n.size : Int) := by omega
  go_enter Tryd.func21, Tryd.ntmps21
  have B0 := Aside0.mk (Below.refl w.heap.size w)
  go_wp2_with fail
  refine (A0.out _).mono ?_
  rintro e w1 ⟨rfl, hb1⟩
  have B1 := Aside0.mk (B0.out.trans (hb1.mono B0.out.size))
  clear hb1
  go_wp2_with fail
  refine (HC.out _).mono ?_
  rintro e w101 ⟨rfl, rfl⟩
  go_wp2_with fail
  refine (A2.out _).mono ?_
  rintro e w2 ⟨rfl, hb2⟩
  have B2 := Aside0.mk (B1.out.trans (hb2.mono B1.out.size))
  clear hb2
  go_wp2_with fail
  refine (A3.out _).mono ?_
  rintro e w3 ⟨rfl, hb3⟩
  have B3 := Aside0.mk (B2.out.trans (hb3.mono B2.out.size))
  clear hb3
  go_wp2_with fail
  refine (A4.out _).mono ?_
  rintro e w4 ⟨rfl, hb4⟩
  have B4 := Aside0.mk (B3.out.trans (hb4.mono B3.out.size))
  clear hb4
  go_wp2_with fail
  refine (A5.out _).mono ?_
  rintro e w5 ⟨rfl, hb5⟩
  have B5 := Aside0.mk (B4.out.trans (hb5.mono B4.out.size))
  clear hb5
  go_wp2_with fail
  refine (A6.out _).mono ?_
  rintro e w6 ⟨rfl, hb6⟩
  have B6 := Aside0.mk (B5.out.trans (hb6.mono B5.out.size))
  clear hb6
  go_wp2_with fail
  refine (A7.out _).mono ?_
  rintro e w7 ⟨rfl, hb7⟩
  have B7 := Aside0.mk (B6.out.trans (hb7.mono B6.out.size))
  clear hb7
  go_wp2_with fail
  refine (A8.out _).mono ?_
  rintro e w8 ⟨rfl, hb8⟩
  have B8 := Aside0.mk (B7.out.trans (hb8.mono B7.out.size))
  clear hb8
  go_wp2_with fail
  refine (HZC.out _ _ hz).mono ?_
  rintro e w9 ⟨rfl, hb9⟩
  have B9 := Aside0.mk (B8.out.trans (hb9.mono B8.out.size))
  clear hb9 hz
  go_wp2_with fail
  refine (HPC.out _ B9.out).mono ?_
  rintro e w10 ⟨hb10, h10⟩
  have B10 := Aside0.mk (B9.out.trans (hb10.mono B9.out.size))
  rcases h10 with ⟨hk, rfl⟩ | ⟨hk, v, N, fn, ss, rfl, hN, hblk⟩
  · have HK := Aside0.mk hk
    clear hk hb10
    go_wp2_with fail
    go_ret2
    exact ⟨B10.out.alloc B10.out.size _, toQ_ok HK.out _ rfl B10.out.size (blk_new _ _)⟩
  · have HK := Aside0.mk hk
    have HN := Aside0.mk hN
    have HBK := Aside0.mk hblk
    clear hk hN hblk hb10
    go_wp2_with fail
    go_ret2
    exact ⟨B10.out, toQ_err HK.out N fn ss rfl (Nat.le_trans B9.out.size HN.out) HBK.out⟩

set_option maxHeartbeats 8000000 in
set_option maxRecDepth 100000 in
theorem to_zero_neg (EV : Nat → Value) (s s1 s2 n : ByteArray) (h0 : s.size ≠ 0) (hsz : s.size ≤ 140737488351232) (hus : hp s ⟨#[95]⟩ = false) (d : Nat) (hd : d ≤ 1) (hdot : cnt 46 s = d) (hneg : hp s ⟨#[45]⟩ = true) (hplus : tp s ⟨#[43]⟩ = s1) (hmin : tp s1 ⟨#[45]⟩ = s2) (hs2 : s2.size ≤ 140737488351232) (hn : strip s2 = n) (hhex : hp n ⟨#[48, 120]⟩ = false) (hoct : hp n ⟨#[48, 111]⟩ = false) (hbin : hp n ⟨#[48, 98]⟩ = false) (hz : hp n ⟨#[48]⟩ = true) (hz1 : 1 < n.size) (hd0 : d = 0) (hnz : n.size ≤ 140737488351232) (okv : Value) (k : Nat) (w : World) (HP : ∀ W, Below w.heap.size w W → Calls Tryd.prog 32 #[.string (⟨#[45]⟩ ++ n), .int .i64 8, .int .i64 64] W (NumE okv k EV W)) : Calls Tryd.prog 21 #[.string s] w (ToP EV (outN k ⟨#[111, 99, 116, 101, 116]⟩ (.iface 2 okv) (⟨#[45]⟩ ++ n)) w) := by
  have HC : Aside0 (∀ W, Calls Tryd.prog 29 #[.string s, .string ⟨#[46]⟩] W (Cnt (d : Int) W)) := ⟨fun W => (count_one s 46 (by omega) W).mono fun e w' h => ⟨by rw [h.1, hdot], h.2⟩⟩
  have HPC := Aside0.mk HP
  have hse : ((s.size : Int) == 0) = false := beq_eq_false_iff_ne.mpr (by omega)
  have A0 := Aside0.mk (fun W => hp_any hus W)
  have A2 := Aside0.mk (fun W => hp_any hneg W)
  have A3 := Aside0.mk (fun W => tp_any hplus W)
  have A4 := Aside0.mk (fun W => tp_any hmin W)
  have A5 := Aside0.mk (fun W => sp_any hn (by omega) W)
  have A6 := Aside0.mk (fun W => hp_any hhex W)
  have A7 := Aside0.mk (fun W => hp_any hoct W)
  have A8 := Aside0.mk (fun W => hp_any hbin W)
  have HZC : Aside0 (∀ W b, hp n ⟨#[48]⟩ = b → Calls Tryd.prog 28 #[.string n, .string ⟨#[48]⟩] W (Bo b W)) := ⟨fun W b h => hp_any h W⟩
  subst hd0
  clear HP hus hdot hneg hplus hmin hn hs2 h0 hhex hoct hbin
  have hz1' : (1 : Int) < (n.size : Int) := by omega
  go_enter Tryd.func21, Tryd.ntmps21
  have B0 := Aside0.mk (Below.refl w.heap.size w)
  go_wp2_with fail
  refine (A0.out _).mono ?_
  rintro e w1 ⟨rfl, hb1⟩
  have B1 := Aside0.mk (B0.out.trans (hb1.mono B0.out.size))
  clear hb1
  go_wp2_with fail
  refine (HC.out _).mono ?_
  rintro e w101 ⟨rfl, rfl⟩
  go_wp2_with fail
  refine (A2.out _).mono ?_
  rintro e w2 ⟨rfl, hb2⟩
  have B2 := Aside0.mk (B1.out.trans (hb2.mono B1.out.size))
  clear hb2
  go_wp2_with fail
  refine (A3.out _).mono ?_
  rintro e w3 ⟨rfl, hb3⟩
  have B3 := Aside0.mk (B2.out.trans (hb3.mono B2.out.size))
  clear hb3
  go_wp2_with fail
  refine (A4.out _).mono ?_
  rintro e w4 ⟨rfl, hb4⟩
  have B4 := Aside0.mk (B3.out.trans (hb4.mono B3.out.size))
  clear hb4
  go_wp2_with fail
  refine (A5.out _).mono ?_
  rintro e w5 ⟨rfl, hb5⟩
  have B5 := Aside0.mk (B4.out.trans (hb5.mono B4.out.size))
  clear hb5
  go_wp2_with fail
  refine (A6.out _).mono ?_
  rintro e w6 ⟨rfl, hb6⟩
  have B6 := Aside0.mk (B5.out.trans (hb6.mono B5.out.size))
  clear hb6
  go_wp2_with fail
  refine (A7.out _).mono ?_
  rintro e w7 ⟨rfl, hb7⟩
  have B7 := Aside0.mk (B6.out.trans (hb7.mono B6.out.size))
  clear hb7
  go_wp2_with fail
  refine (A8.out _).mono ?_
  rintro e w8 ⟨rfl, hb8⟩
  have B8 := Aside0.mk (B7.out.trans (hb8.mono B7.out.size))
  clear hb8
  go_wp2_with fail
  refine (HZC.out _ _ hz).mono ?_
  rintro e w9 ⟨rfl, hb9⟩
  have B9 := Aside0.mk (B8.out.trans (hb9.mono B8.out.size))
  clear hb9 hz
  go_wp2_with fail
  refine (HPC.out _ B9.out).mono ?_
  rintro e w10 ⟨hb10, h10⟩
  have B10 := Aside0.mk (B9.out.trans (hb10.mono B9.out.size))
  rcases h10 with ⟨hk, rfl⟩ | ⟨hk, v, N, fn, ss, rfl, hN, hblk⟩
  · have HK := Aside0.mk hk
    clear hk hb10
    go_wp2_with fail
    go_ret2
    exact ⟨B10.out.alloc B10.out.size _, toQ_ok HK.out _ rfl B10.out.size (blk_new _ _)⟩
  · have HK := Aside0.mk hk
    have HN := Aside0.mk hN
    have HBK := Aside0.mk hblk
    clear hk hN hblk hb10
    go_wp2_with fail
    go_ret2
    exact ⟨B10.out, toQ_err HK.out N fn ss rfl (Nat.le_trans B9.out.size HN.out) HBK.out⟩

set_option maxHeartbeats 8000000 in
set_option maxRecDepth 100000 in
theorem to_float_pos (EV : Nat → Value) (s s1 s2 n : ByteArray) (h0 : s.size ≠ 0) (hsz : s.size ≤ 140737488351232) (hus : hp s ⟨#[95]⟩ = false) (d : Nat) (hd : d ≤ 1) (hdot : cnt 46 s = d) (hneg : hp s ⟨#[45]⟩ = false) (hplus : tp s ⟨#[43]⟩ = s1) (hmin : tp s1 ⟨#[45]⟩ = s2) (hs2 : s2.size ≤ 140737488351232) (hn : strip s2 = n) (hhex : hp n ⟨#[48, 120]⟩ = false) (hoct : hp n ⟨#[48, 111]⟩ = false) (hbin : hp n ⟨#[48, 98]⟩ = false) (hd0 : d = 1) (okv : Value) (k : Nat) (w : World) (HP : ∀ W, Below w.heap.size w W → Calls Tryd.prog 19 #[.string n, .int .i64 64] W (NumE okv k EV W)) : Calls Tryd.prog 21 #[.string s] w (ToP EV (outN k ⟨#[102, 108, 111, 97, 116]⟩ (.iface 23 okv) n) w) := by
  have HC : Aside0 (∀ W, Calls Tryd.prog 29 #[.string s, .string ⟨#[46]⟩] W (Cnt (d : Int) W)) := ⟨fun W => (count_one s 46 (by omega) W).mono fun e w' h => ⟨by rw [h.1, hdot], h.2⟩⟩
  have HPC := Aside0.mk HP
  have hse : ((s.size : Int) == 0) = false := beq_eq_false_iff_ne.mpr (by omega)
  have A0 := Aside0.mk (fun W => hp_any hus W)
  have A2 := Aside0.mk (fun W => hp_any hneg W)
  have A3 := Aside0.mk (fun W => tp_any hplus W)
  have A4 := Aside0.mk (fun W => tp_any hmin W)
  have A5 := Aside0.mk (fun W => sp_any hn (by omega) W)
  have A6 := Aside0.mk (fun W => hp_any hhex W)
  have A7 := Aside0.mk (fun W => hp_any hoct W)
  have A8 := Aside0.mk (fun W => hp_any hbin W)
  have HZC : Aside0 (∀ W b, hp n ⟨#[48]⟩ = b → Calls Tryd.prog 28 #[.string n, .string ⟨#[48]⟩] W (Bo b W)) := ⟨fun W b h => hp_any h W⟩
  subst hd0
  clear HP hus hdot hneg hplus hmin hn hs2 h0 hhex hoct hbin
  have hone : ((1 : Nat) : Int) = 1 := rfl
  by_cases hz : hp n ⟨#[48]⟩ = true
  · by_cases hz1 : 1 < n.size
    · have hz1' : (1 : Int) < (n.size : Int) := by omega
      go_enter Tryd.func21, Tryd.ntmps21
      have B0 := Aside0.mk (Below.refl w.heap.size w)
      go_wp2_with fail
      refine (A0.out _).mono ?_
      rintro e w1 ⟨rfl, hb1⟩
      have B1 := Aside0.mk (B0.out.trans (hb1.mono B0.out.size))
      clear hb1
      go_wp2_with fail
      refine (HC.out _).mono ?_
      rintro e w101 ⟨rfl, rfl⟩
      go_wp2_with fail
      refine (A2.out _).mono ?_
      rintro e w2 ⟨rfl, hb2⟩
      have B2 := Aside0.mk (B1.out.trans (hb2.mono B1.out.size))
      clear hb2
      go_wp2_with fail
      refine (A3.out _).mono ?_
      rintro e w3 ⟨rfl, hb3⟩
      have B3 := Aside0.mk (B2.out.trans (hb3.mono B2.out.size))
      clear hb3
      go_wp2_with fail
      refine (A4.out _).mono ?_
      rintro e w4 ⟨rfl, hb4⟩
      have B4 := Aside0.mk (B3.out.trans (hb4.mono B3.out.size))
      clear hb4
      go_wp2_with fail
      refine (A5.out _).mono ?_
      rintro e w5 ⟨rfl, hb5⟩
      have B5 := Aside0.mk (B4.out.trans (hb5.mono B4.out.size))
      clear hb5
      go_wp2_with fail
      refine (A6.out _).mono ?_
      rintro e w6 ⟨rfl, hb6⟩
      have B6 := Aside0.mk (B5.out.trans (hb6.mono B5.out.size))
      clear hb6
      go_wp2_with fail
      refine (A7.out _).mono ?_
      rintro e w7 ⟨rfl, hb7⟩
      have B7 := Aside0.mk (B6.out.trans (hb7.mono B6.out.size))
      clear hb7
      go_wp2_with fail
      refine (A8.out _).mono ?_
      rintro e w8 ⟨rfl, hb8⟩
      have B8 := Aside0.mk (B7.out.trans (hb8.mono B7.out.size))
      clear hb8
      go_wp2_with fail
      refine (HZC.out _ _ hz).mono ?_
      rintro e w9 ⟨rfl, hb9⟩
      have B9 := Aside0.mk (B8.out.trans (hb9.mono B8.out.size))
      clear hb9 hz
      go_wp2_with fail
      refine (HPC.out _ B9.out).mono ?_
      rintro e w10 ⟨hb10, h10⟩
      have B10 := Aside0.mk (B9.out.trans (hb10.mono B9.out.size))
      rcases h10 with ⟨hk, rfl⟩ | ⟨hk, v, N, fn, ss, rfl, hN, hblk⟩
      · have HK := Aside0.mk hk
        clear hk hb10
        go_wp2_with fail
        go_ret2
        exact ⟨B10.out.alloc B10.out.size _, toQ_ok HK.out _ rfl B10.out.size (blk_new _ _)⟩
      · have HK := Aside0.mk hk
        have HN := Aside0.mk hN
        have HBK := Aside0.mk hblk
        clear hk hN hblk hb10
        go_wp2_with fail
        go_ret2
        exact ⟨B10.out, toQ_err HK.out N fn ss rfl (Nat.le_trans B9.out.size HN.out) HBK.out⟩
    · have hz1' : ¬ (1 : Int) < (n.size : Int) := by omega
      go_enter Tryd.func21, Tryd.ntmps21
      have B0 := Aside0.mk (Below.refl w.heap.size w)
      go_wp2_with fail
      refine (A0.out _).mono ?_
      rintro e w1 ⟨rfl, hb1⟩
      have B1 := Aside0.mk (B0.out.trans (hb1.mono B0.out.size))
      clear hb1
      go_wp2_with fail
      refine (HC.out _).mono ?_
      rintro e w101 ⟨rfl, rfl⟩
      go_wp2_with fail
      refine (A2.out _).mono ?_
      rintro e w2 ⟨rfl, hb2⟩
      have B2 := Aside0.mk (B1.out.trans (hb2.mono B1.out.size))
      clear hb2
      go_wp2_with fail
      refine (A3.out _).mono ?_
      rintro e w3 ⟨rfl, hb3⟩
      have B3 := Aside0.mk (B2.out.trans (hb3.mono B2.out.size))
      clear hb3
      go_wp2_with fail
      refine (A4.out _).mono ?_
      rintro e w4 ⟨rfl, hb4⟩
      have B4 := Aside0.mk (B3.out.trans (hb4.mono B3.out.size))
      clear hb4
      go_wp2_with fail
      refine (A5.out _).mono ?_
      rintro e w5 ⟨rfl, hb5⟩
      have B5 := Aside0.mk (B4.out.trans (hb5.mono B4.out.size))
      clear hb5
      go_wp2_with fail
      refine (A6.out _).mono ?_
      rintro e w6 ⟨rfl, hb6⟩
      have B6 := Aside0.mk (B5.out.trans (hb6.mono B5.out.size))
      clear hb6
      go_wp2_with fail
      refine (A7.out _).mono ?_
      rintro e w7 ⟨rfl, hb7⟩
      have B7 := Aside0.mk (B6.out.trans (hb7.mono B6.out.size))
      clear hb7
      go_wp2_with fail
      refine (A8.out _).mono ?_
      rintro e w8 ⟨rfl, hb8⟩
      have B8 := Aside0.mk (B7.out.trans (hb8.mono B7.out.size))
      clear hb8
      go_wp2_with fail
      refine (HZC.out _ _ hz).mono ?_
      rintro e w9 ⟨rfl, hb9⟩
      have B9 := Aside0.mk (B8.out.trans (hb9.mono B8.out.size))
      clear hb9 hz
      go_wp2_with fail
      refine (HPC.out _ B9.out).mono ?_
      rintro e w10 ⟨hb10, h10⟩
      have B10 := Aside0.mk (B9.out.trans (hb10.mono B9.out.size))
      rcases h10 with ⟨hk, rfl⟩ | ⟨hk, v, N, fn, ss, rfl, hN, hblk⟩
      · have HK := Aside0.mk hk
        clear hk hb10
        go_wp2_with fail
        go_ret2
        exact ⟨B10.out.alloc B10.out.size _, toQ_ok HK.out _ rfl B10.out.size (blk_new _ _)⟩
      · have HK := Aside0.mk hk
        have HN := Aside0.mk hN
        have HBK := Aside0.mk hblk
        clear hk hN hblk hb10
        go_wp2_with fail
        go_ret2
        exact ⟨B10.out, toQ_err HK.out N fn ss rfl (Nat.le_trans B9.out.size HN.out) HBK.out⟩
  · replace hz : hp n ⟨#[48]⟩ = false := by simpa using hz
    go_enter Tryd.func21, Tryd.ntmps21
    have B0 := Aside0.mk (Below.refl w.heap.size w)
    go_wp2_with fail
    refine (A0.out _).mono ?_
    rintro e w1 ⟨rfl, hb1⟩
    have B1 := Aside0.mk (B0.out.trans (hb1.mono B0.out.size))
    clear hb1
    go_wp2_with fail
    refine (HC.out _).mono ?_
    rintro e w101 ⟨rfl, rfl⟩
    go_wp2_with fail
    refine (A2.out _).mono ?_
    rintro e w2 ⟨rfl, hb2⟩
    have B2 := Aside0.mk (B1.out.trans (hb2.mono B1.out.size))
    clear hb2
    go_wp2_with fail
    refine (A3.out _).mono ?_
    rintro e w3 ⟨rfl, hb3⟩
    have B3 := Aside0.mk (B2.out.trans (hb3.mono B2.out.size))
    clear hb3
    go_wp2_with fail
    refine (A4.out _).mono ?_
    rintro e w4 ⟨rfl, hb4⟩
    have B4 := Aside0.mk (B3.out.trans (hb4.mono B3.out.size))
    clear hb4
    go_wp2_with fail
    refine (A5.out _).mono ?_
    rintro e w5 ⟨rfl, hb5⟩
    have B5 := Aside0.mk (B4.out.trans (hb5.mono B4.out.size))
    clear hb5
    go_wp2_with fail
    refine (A6.out _).mono ?_
    rintro e w6 ⟨rfl, hb6⟩
    have B6 := Aside0.mk (B5.out.trans (hb6.mono B5.out.size))
    clear hb6
    go_wp2_with fail
    refine (A7.out _).mono ?_
    rintro e w7 ⟨rfl, hb7⟩
    have B7 := Aside0.mk (B6.out.trans (hb7.mono B6.out.size))
    clear hb7
    go_wp2_with fail
    refine (A8.out _).mono ?_
    rintro e w8 ⟨rfl, hb8⟩
    have B8 := Aside0.mk (B7.out.trans (hb8.mono B7.out.size))
    clear hb8
    go_wp2_with fail
    refine (HZC.out _ _ hz).mono ?_
    rintro e w9 ⟨rfl, hb9⟩
    have B9 := Aside0.mk (B8.out.trans (hb9.mono B8.out.size))
    clear hb9 hz
    go_wp2_with fail
    refine (HPC.out _ B9.out).mono ?_
    rintro e w10 ⟨hb10, h10⟩
    have B10 := Aside0.mk (B9.out.trans (hb10.mono B9.out.size))
    rcases h10 with ⟨hk, rfl⟩ | ⟨hk, v, N, fn, ss, rfl, hN, hblk⟩
    · have HK := Aside0.mk hk
      clear hk hb10
      go_wp2_with fail
      go_ret2
      exact ⟨B10.out.alloc B10.out.size _, toQ_ok HK.out _ rfl B10.out.size (blk_new _ _)⟩
    · have HK := Aside0.mk hk
      have HN := Aside0.mk hN
      have HBK := Aside0.mk hblk
      clear hk hN hblk hb10
      go_wp2_with fail
      go_ret2
      exact ⟨B10.out, toQ_err HK.out N fn ss rfl (Nat.le_trans B9.out.size HN.out) HBK.out⟩

set_option maxHeartbeats 8000000 in
set_option maxRecDepth 100000 in
theorem to_float_neg (EV : Nat → Value) (s s1 s2 n : ByteArray) (h0 : s.size ≠ 0) (hsz : s.size ≤ 140737488351232) (hus : hp s ⟨#[95]⟩ = false) (d : Nat) (hd : d ≤ 1) (hdot : cnt 46 s = d) (hneg : hp s ⟨#[45]⟩ = true) (hplus : tp s ⟨#[43]⟩ = s1) (hmin : tp s1 ⟨#[45]⟩ = s2) (hs2 : s2.size ≤ 140737488351232) (hn : strip s2 = n) (hhex : hp n ⟨#[48, 120]⟩ = false) (hoct : hp n ⟨#[48, 111]⟩ = false) (hbin : hp n ⟨#[48, 98]⟩ = false) (hd0 : d = 1) (hnz : n.size ≤ 140737488351232) (okv : Value) (k : Nat) (w : World) (HP : ∀ W, Below w.heap.size w W → Calls Tryd.prog 19 #[.string (⟨#[45]⟩ ++ n), .int .i64 64] W (NumE okv k EV W)) : Calls Tryd.prog 21 #[.string s] w (ToP EV (outN k ⟨#[102, 108, 111, 97, 116]⟩ (.iface 23 okv) (⟨#[45]⟩ ++ n)) w) := by
  have HC : Aside0 (∀ W, Calls Tryd.prog 29 #[.string s, .string ⟨#[46]⟩] W (Cnt (d : Int) W)) := ⟨fun W => (count_one s 46 (by omega) W).mono fun e w' h => ⟨by rw [h.1, hdot], h.2⟩⟩
  have HPC := Aside0.mk HP
  have hse : ((s.size : Int) == 0) = false := beq_eq_false_iff_ne.mpr (by omega)
  have A0 := Aside0.mk (fun W => hp_any hus W)
  have A2 := Aside0.mk (fun W => hp_any hneg W)
  have A3 := Aside0.mk (fun W => tp_any hplus W)
  have A4 := Aside0.mk (fun W => tp_any hmin W)
  have A5 := Aside0.mk (fun W => sp_any hn (by omega) W)
  have A6 := Aside0.mk (fun W => hp_any hhex W)
  have A7 := Aside0.mk (fun W => hp_any hoct W)
  have A8 := Aside0.mk (fun W => hp_any hbin W)
  have HZC : Aside0 (∀ W b, hp n ⟨#[48]⟩ = b → Calls Tryd.prog 28 #[.string n, .string ⟨#[48]⟩] W (Bo b W)) := ⟨fun W b h => hp_any h W⟩
  subst hd0
  clear HP hus hdot hneg hplus hmin hn hs2 h0 hhex hoct hbin
  have hone : ((1 : Nat) : Int) = 1 := rfl
  by_cases hz : hp n ⟨#[48]⟩ = true
  · by_cases hz1 : 1 < n.size
    · have hz1' : (1 : Int) < (n.size : Int) := by omega
      go_enter Tryd.func21, Tryd.ntmps21
      have B0 := Aside0.mk (Below.refl w.heap.size w)
      go_wp2_with fail
      refine (A0.out _).mono ?_
      rintro e w1 ⟨rfl, hb1⟩
      have B1 := Aside0.mk (B0.out.trans (hb1.mono B0.out.size))
      clear hb1
      go_wp2_with fail
      refine (HC.out _).mono ?_
      rintro e w101 ⟨rfl, rfl⟩
      go_wp2_with fail
      refine (A2.out _).mono ?_
      rintro e w2 ⟨rfl, hb2⟩
      have B2 := Aside0.mk (B1.out.trans (hb2.mono B1.out.size))
      clear hb2
      go_wp2_with fail
      refine (A3.out _).mono ?_
      rintro e w3 ⟨rfl, hb3⟩
      have B3 := Aside0.mk (B2.out.trans (hb3.mono B2.out.size))
      clear hb3
      go_wp2_with fail
      refine (A4.out _).mono ?_
      rintro e w4 ⟨rfl, hb4⟩
      have B4 := Aside0.mk (B3.out.trans (hb4.mono B3.out.size))
      clear hb4
      go_wp2_with fail
      refine (A5.out _).mono ?_
      rintro e w5 ⟨rfl, hb5⟩
      have B5 := Aside0.mk (B4.out.trans (hb5.mono B4.out.size))
      clear hb5
      go_wp2_with fail
      refine (A6.out _).mono ?_
      rintro e w6 ⟨rfl, hb6⟩
      have B6 := Aside0.mk (B5.out.trans (hb6.mono B5.out.size))
      clear hb6
      go_wp2_with fail
      refine (A7.out _).mono ?_
      rintro e w7 ⟨rfl, hb7⟩
      have B7 := Aside0.mk (B6.out.trans (hb7.mono B6.out.size))
      clear hb7
      go_wp2_with fail
      refine (A8.out _).mono ?_
      rintro e w8 ⟨rfl, hb8⟩
      have B8 := Aside0.mk (B7.out.trans (hb8.mono B7.out.size))
      clear hb8
      go_wp2_with fail
      refine (HZC.out _ _ hz).mono ?_
      rintro e w9 ⟨rfl, hb9⟩
      have B9 := Aside0.mk (B8.out.trans (hb9.mono B8.out.size))
      clear hb9 hz
      go_wp2_with fail
      refine (HPC.out _ B9.out).mono ?_
      rintro e w10 ⟨hb10, h10⟩
      have B10 := Aside0.mk (B9.out.trans (hb10.mono B9.out.size))
      rcases h10 with ⟨hk, rfl⟩ | ⟨hk, v, N, fn, ss, rfl, hN, hblk⟩
      · have HK := Aside0.mk hk
        clear hk hb10
        go_wp2_with fail
        go_ret2
        exact ⟨B10.out.alloc B10.out.size _, toQ_ok HK.out _ rfl B10.out.size (blk_new _ _)⟩
      · have HK := Aside0.mk hk
        have HN := Aside0.mk hN
        have HBK := Aside0.mk hblk
        clear hk hN hblk hb10
        go_wp2_with fail
        go_ret2
        exact ⟨B10.out, toQ_err HK.out N fn ss rfl (Nat.le_trans B9.out.size HN.out) HBK.out⟩
    · have hz1' : ¬ (1 : Int) < (n.size : Int) := by omega
      go_enter Tryd.func21, Tryd.ntmps21
      have B0 := Aside0.mk (Below.refl w.heap.size w)
      go_wp2_with fail
      refine (A0.out _).mono ?_
      rintro e w1 ⟨rfl, hb1⟩
      have B1 := Aside0.mk (B0.out.trans (hb1.mono B0.out.size))
      clear hb1
      go_wp2_with fail
      refine (HC.out _).mono ?_
      rintro e w101 ⟨rfl, rfl⟩
      go_wp2_with fail
      refine (A2.out _).mono ?_
      rintro e w2 ⟨rfl, hb2⟩
      have B2 := Aside0.mk (B1.out.trans (hb2.mono B1.out.size))
      clear hb2
      go_wp2_with fail
      refine (A3.out _).mono ?_
      rintro e w3 ⟨rfl, hb3⟩
      have B3 := Aside0.mk (B2.out.trans (hb3.mono B2.out.size))
      clear hb3
      go_wp2_with fail
      refine (A4.out _).mono ?_
      rintro e w4 ⟨rfl, hb4⟩
      have B4 := Aside0.mk (B3.out.trans (hb4.mono B3.out.size))
      clear hb4
      go_wp2_with fail
      refine (A5.out _).mono ?_
      rintro e w5 ⟨rfl, hb5⟩
      have B5 := Aside0.mk (B4.out.trans (hb5.mono B4.out.size))
      clear hb5
      go_wp2_with fail
      refine (A6.out _).mono ?_
      rintro e w6 ⟨rfl, hb6⟩
      have B6 := Aside0.mk (B5.out.trans (hb6.mono B5.out.size))
      clear hb6
      go_wp2_with fail
      refine (A7.out _).mono ?_
      rintro e w7 ⟨rfl, hb7⟩
      have B7 := Aside0.mk (B6.out.trans (hb7.mono B6.out.size))
      clear hb7
      go_wp2_with fail
      refine (A8.out _).mono ?_
      rintro e w8 ⟨rfl, hb8⟩
      have B8 := Aside0.mk (B7.out.trans (hb8.mono B7.out.size))
      clear hb8
      go_wp2_with fail
      refine (HZC.out _ _ hz).mono ?_
      rintro e w9 ⟨rfl, hb9⟩
      have B9 := Aside0.mk (B8.out.trans (hb9.mono B8.out.size))
      clear hb9 hz
      go_wp2_with fail
      refine (HPC.out _ B9.out).mono ?_
      rintro e w10 ⟨hb10, h10⟩
      have B10 := Aside0.mk (B9.out.trans (hb10.mono B9.out.size))
      rcases h10 with ⟨hk, rfl⟩ | ⟨hk, v, N, fn, ss, rfl, hN, hblk⟩
      · have HK := Aside0.mk hk
        clear hk hb10
        go_wp2_with fail
        go_ret2
        exact ⟨B10.out.alloc B10.out.size _, toQ_ok HK.out _ rfl B10.out.size (blk_new _ _)⟩
      · have HK := Aside0.mk hk
        have HN := Aside0.mk hN
        have HBK := Aside0.mk hblk
        clear hk hN hblk hb10
        go_wp2_with fail
        go_ret2
        exact ⟨B10.out, toQ_err HK.out N fn ss rfl (Nat.le_trans B9.out.size HN.out) HBK.out⟩
  · replace hz : hp n ⟨#[48]⟩ = false := by simpa using hz
    go_enter Tryd.func21, Tryd.ntmps21
    have B0 := Aside0.mk (Below.refl w.heap.size w)
    go_wp2_with fail
    refine (A0.out _).mono ?_
    rintro e w1 ⟨rfl, hb1⟩
    have B1 := Aside0.mk (B0.out.trans (hb1.mono B0.out.size))
    clear hb1
    go_wp2_with fail
    refine (HC.out _).mono ?_
    rintro e w101 ⟨rfl, rfl⟩
    go_wp2_with fail
    refine (A2.out _).mono ?_
    rintro e w2 ⟨rfl, hb2⟩
    have B2 := Aside0.mk (B1.out.trans (hb2.mono B1.out.size))
    clear hb2
    go_wp2_with fail
    refine (A3.out _).mono ?_
    rintro e w3 ⟨rfl, hb3⟩
    have B3 := Aside0.mk (B2.out.trans (hb3.mono B2.out.size))
    clear hb3
    go_wp2_with fail
    refine (A4.out _).mono ?_
    rintro e w4 ⟨rfl, hb4⟩
    have B4 := Aside0.mk (B3.out.trans (hb4.mono B3.out.size))
    clear hb4
    go_wp2_with fail
    refine (A5.out _).mono ?_
    rintro e w5 ⟨rfl, hb5⟩
    have B5 := Aside0.mk (B4.out.trans (hb5.mono B4.out.size))
    clear hb5
    go_wp2_with fail
    refine (A6.out _).mono ?_
    rintro e w6 ⟨rfl, hb6⟩
    have B6 := Aside0.mk (B5.out.trans (hb6.mono B5.out.size))
    clear hb6
    go_wp2_with fail
    refine (A7.out _).mono ?_
    rintro e w7 ⟨rfl, hb7⟩
    have B7 := Aside0.mk (B6.out.trans (hb7.mono B6.out.size))
    clear hb7
    go_wp2_with fail
    refine (A8.out _).mono ?_
    rintro e w8 ⟨rfl, hb8⟩
    have B8 := Aside0.mk (B7.out.trans (hb8.mono B7.out.size))
    clear hb8
    go_wp2_with fail
    refine (HZC.out _ _ hz).mono ?_
    rintro e w9 ⟨rfl, hb9⟩
    have B9 := Aside0.mk (B8.out.trans (hb9.mono B8.out.size))
    clear hb9 hz
    go_wp2_with fail
    refine (HPC.out _ B9.out).mono ?_
    rintro e w10 ⟨hb10, h10⟩
    have B10 := Aside0.mk (B9.out.trans (hb10.mono B9.out.size))
    rcases h10 with ⟨hk, rfl⟩ | ⟨hk, v, N, fn, ss, rfl, hN, hblk⟩
    · have HK := Aside0.mk hk
      clear hk hb10
      go_wp2_with fail
      go_ret2
      exact ⟨B10.out.alloc B10.out.size _, toQ_ok HK.out _ rfl B10.out.size (blk_new _ _)⟩
    · have HK := Aside0.mk hk
      have HN := Aside0.mk hN
      have HBK := Aside0.mk hblk
      clear hk hN hblk hb10
      go_wp2_with fail
      go_ret2
      exact ⟨B10.out, toQ_err HK.out N fn ss rfl (Nat.le_trans B9.out.size HN.out) HBK.out⟩

set_option maxHeartbeats 8000000 in
set_option maxRecDepth 100000 in
theorem to_dec_pos (EV : Nat → Value) (s s1 s2 n : ByteArray) (h0 : s.size ≠ 0) (hsz : s.size ≤ 140737488351232) (hus : hp s ⟨#[95]⟩ = false) (d : Nat) (hd : d ≤ 1) (hdot : cnt 46 s = d) (hneg : hp s ⟨#[45]⟩ = false) (hplus : tp s ⟨#[43]⟩ = s1) (hmin : tp s1 ⟨#[45]⟩ = s2) (hs2 : s2.size ≤ 140737488351232) (hn : strip s2 = n) (hhex : hp n ⟨#[48, 120]⟩ = false) (hoct : hp n ⟨#[48, 111]⟩ = false) (hbin : hp n ⟨#[48, 98]⟩ = false) (hd0 : d = 0) (hzz : hp n ⟨#[48]⟩ = false ∨ (hp n ⟨#[48]⟩ = true ∧ n.size ≤ 1)) (okv : Value) (k : Nat) (w : World) (HP : ∀ W, Below w.heap.size w W → Calls Tryd.prog 33 #[.string n, .int .i64 10, .int .i64 64] W (NumE okv k EV W)) : Calls Tryd.prog 21 #[.string s] w (ToP EV (outN k ⟨#[100, 101, 99, 105, 109, 97, 108]⟩ (.iface 22 okv) n) w) := by
  have HC : Aside0 (∀ W, Calls Tryd.prog 29 #[.string s, .string ⟨#[46]⟩] W (Cnt (d : Int) W)) := ⟨fun W => (count_one s 46 (by omega) W).mono fun e w' h => ⟨by rw [h.1, hdot], h.2⟩⟩
  have HPC := Aside0.mk HP
  have hse : ((s.size : Int) == 0) = false := beq_eq_false_iff_ne.mpr (by omega)
  have A0 := Aside0.mk (fun W => hp_any hus W)
  have A2 := Aside0.mk (fun W => hp_any hneg W)
  have A3 := Aside0.mk (fun W => tp_any hplus W)
  have A4 := Aside0.mk (fun W => tp_any hmin W)
  have A5 := Aside0.mk (fun W => sp_any hn (by omega) W)
  have A6 := Aside0.mk (fun W => hp_any hhex W)
  have A7 := Aside0.mk (fun W => hp_any hoct W)
  have A8 := Aside0.mk (fun W => hp_any hbin W)
  have HZC : Aside0 (∀ W b, hp n ⟨#[48]⟩ = b → Calls Tryd.prog 28 #[.string n, .string ⟨#[48]⟩] W (Bo b W)) := ⟨fun W b h => hp_any h W⟩
  subst hd0
  clear HP hus hdot hneg hplus hmin hn hs2 h0 hhex hoct hbin
  rcases hzz with hz | ⟨hz, hz1⟩
  · go_enter Tryd.func21, Tryd.ntmps21
    have B0 := Aside0.mk (Below.refl w.heap.size w)
    go_wp2_with fail
    refine (A0.out _).mono ?_
    rintro e w1 ⟨rfl, hb1⟩
    have B1 := Aside0.mk (B0.out.trans (hb1.mono B0.out.size))
    clear hb1
    go_wp2_with fail
    refine (HC.out _).mono ?_
    rintro e w101 ⟨rfl, rfl⟩
    go_wp2_with fail
    refine (A2.out _).mono ?_
    rintro e w2 ⟨rfl, hb2⟩
    have B2 := Aside0.mk (B1.out.trans (hb2.mono B1.out.size))
    clear hb2
    go_wp2_with fail
    refine (A3.out _).mono ?_
    rintro e w3 ⟨rfl, hb3⟩
    have B3 := Aside0.mk (B2.out.trans (hb3.mono B2.out.size))
    clear hb3
    go_wp2_with fail
    refine (A4.out _).mono ?_
    rintro e w4 ⟨rfl, hb4⟩
    have B4 := Aside0.mk (B3.out.trans (hb4.mono B3.out.size))
    clear hb4
    go_wp2_with fail
    refine (A5.out _).mono ?_
    rintro e w5 ⟨rfl, hb5⟩
    have B5 := Aside0.mk (B4.out.trans (hb5.mono B4.out.size))
    clear hb5
    go_wp2_with fail
    refine (A6.out _).mono ?_
    rintro e w6 ⟨rfl, hb6⟩
    have B6 := Aside0.mk (B5.out.trans (hb6.mono B5.out.size))
    clear hb6
    go_wp2_with fail
    refine (A7.out _).mono ?_
    rintro e w7 ⟨rfl, hb7⟩
    have B7 := Aside0.mk (B6.out.trans (hb7.mono B6.out.size))
    clear hb7
    go_wp2_with fail
    refine (A8.out _).mono ?_
    rintro e w8 ⟨rfl, hb8⟩
    have B8 := Aside0.mk (B7.out.trans (hb8.mono B7.out.size))
    clear hb8
    go_wp2_with fail
    refine (HZC.out _ _ hz).mono ?_
    rintro e w9 ⟨rfl, hb9⟩
    have B9 := Aside0.mk (B8.out.trans (hb9.mono B8.out.size))
    clear hb9 hz
    go_wp2_with fail
    refine (HPC.out _ B9.out).mono ?_
    rintro e w10 ⟨hb10, h10⟩
    have B10 := Aside0.mk (B9.out.trans (hb10.mono B9.out.size))
    rcases h10 with ⟨hk, rfl⟩ | ⟨hk, v, N, fn, ss, rfl, hN, hblk⟩
    · have HK := Aside0.mk hk
      clear hk hb10
      go_wp2_with fail
      go_ret2
      exact ⟨B10.out.alloc B10.out.size _, toQ_ok HK.out _ rfl B10.out.size (blk_new _ _)⟩
    · have HK := Aside0.mk hk
      have HN := Aside0.mk hN
      have HBK := Aside0.mk hblk
      clear hk hN hblk hb10
      go_wp2_with fail
      go_ret2
      exact ⟨B10.out, toQ_err HK.out N fn ss rfl (Nat.le_trans B9.out.size HN.out) HBK.out⟩
  · have hz1' : ¬ (1 : Int) < (n.size : Int) := by omega
    go_enter Tryd.func21, Tryd.ntmps21
    have B0 := Aside0.mk (Below.refl w.heap.size w)
    go_wp2_with fail
    refine (A0.out _).mono ?_
    rintro e w1 ⟨rfl, hb1⟩
    have B1 := Aside0.mk (B0.out.trans (hb1.mono B0.out.size))
    clear hb1
    go_wp2_with fail
    refine (HC.out _).mono ?_
    rintro e w101 ⟨rfl, rfl⟩
    go_wp2_with fail
    refine (A2.out _).mono ?_
    rintro e w2 ⟨rfl, hb2⟩
    have B2 := Aside0.mk (B1.out.trans (hb2.mono B1.out.size))
    clear hb2
    go_wp2_with fail
    refine (A3.out _).mono ?_
    rintro e w3 ⟨rfl, hb3⟩
    have B3 := Aside0.mk (B2.out.trans (hb3.mono B2.out.size))
    clear hb3
    go_wp2_with fail
    refine (A4.out _).mono ?_
    rintro e w4 ⟨rfl, hb4⟩
    have B4 := Aside0.mk (B3.out.trans (hb4.mono B3.out.size))
    clear hb4
    go_wp2_with fail
    refine (A5.out _).mono ?_
    rintro e w5 ⟨rfl, hb5⟩
    have B5 := Aside0.mk (B4.out.trans (hb5.mono B4.out.size))
    clear hb5
    go_wp2_with fail
    refine (A6.out _).mono ?_
    rintro e w6 ⟨rfl, hb6⟩
    have B6 := Aside0.mk (B5.out.trans (hb6.mono B5.out.size))
    clear hb6
    go_wp2_with fail
    refine (A7.out _).mono ?_
    rintro e w7 ⟨rfl, hb7⟩
    have B7 := Aside0.mk (B6.out.trans (hb7.mono B6.out.size))
    clear hb7
    go_wp2_with fail
    refine (A8.out _).mono ?_
    rintro e w8 ⟨rfl, hb8⟩
    have B8 := Aside0.mk (B7.out.trans (hb8.mono B7.out.size))
    clear hb8
    go_wp2_with fail
    refine (HZC.out _ _ hz).mono ?_
    rintro e w9 ⟨rfl, hb9⟩
    have B9 := Aside0.mk (B8.out.trans (hb9.mono B8.out.size))
    clear hb9 hz
    go_wp2_with fail
    refine (HPC.out _ B9.out).mono ?_
    rintro e w10 ⟨hb10, h10⟩
    have B10 := Aside0.mk (B9.out.trans (hb10.mono B9.out.size))
    rcases h10 with ⟨hk, rfl⟩ | ⟨hk, v, N, fn, ss, rfl, hN, hblk⟩
    · have HK := Aside0.mk hk
      clear hk hb10
      go_wp2_with fail
      go_ret2
      exact ⟨B10.out.alloc B10.out.size _, toQ_ok HK.out _ rfl B10.out.size (blk_new _ _)⟩
    · have HK := Aside0.mk hk
      have HN := Aside0.mk hN
      have HBK := Aside0.mk hblk
      clear hk hN hblk hb10
      go_wp2_with fail
      go_ret2
      exact ⟨B10.out, toQ_err HK.out N fn ss rfl (Nat.le_trans B9.out.size HN.out) HBK.out⟩

set_option maxHeartbeats 8000000 in
set_option maxRecDepth 100000 in
theorem to_dec_neg (EV : Nat → Value) (s s1 s2 n : ByteArray) (h0 : s.size ≠ 0) (hsz : s.size ≤ 140737488351232) (hus : hp s ⟨#[95]⟩ = false) (d : Nat) (hd : d ≤ 1) (hdot : cnt 46 s = d) (hneg : hp s ⟨#[45]⟩ = true) (hplus : tp s ⟨#[43]⟩ = s1) (hmin : tp s1 ⟨#[45]⟩ = s2) (hs2 : s2.size ≤ 140737488351232) (hn : strip s2 = n) (hhex : hp n ⟨#[48, 120]⟩ = false) (hoct : hp n ⟨#[48, 111]⟩ = false) (hbin : hp n ⟨#[48, 98]⟩ = false) (hd0 : d = 0) (hzz : hp n ⟨#[48]⟩ = false ∨ (hp n ⟨#[48]⟩ = true ∧ n.size ≤ 1)) (hnz : n.size ≤ 140737488351232) (okv : Value) (k : Nat) (w : World) (HP : ∀ W, Below w.heap.size w W → Calls Tryd.prog 32 #[.string (⟨#[45]⟩ ++ n), .int .i64 10, .int .i64 64] W (NumE okv k EV W)) : Calls Tryd.prog 21 #[.string s] w (ToP EV (outN k ⟨#[100, 101, 99, 105, 109, 97, 108]⟩ (.iface 2 okv) (⟨#[45]⟩ ++ n)) w) := by
  have HC : Aside0 (∀ W, Calls Tryd.prog 29 #[.string s, .string ⟨#[46]⟩] W (Cnt (d : Int) W)) := ⟨fun W => (count_one s 46 (by omega) W).mono fun e w' h => ⟨by rw [h.1, hdot], h.2⟩⟩
  have HPC := Aside0.mk HP
  have hse : ((s.size : Int) == 0) = false := beq_eq_false_iff_ne.mpr (by omega)
  have A0 := Aside0.mk (fun W => hp_any hus W)
  have A2 := Aside0.mk (fun W => hp_any hneg W)
  have A3 := Aside0.mk (fun W => tp_any hplus W)
  have A4 := Aside0.mk (fun W => tp_any hmin W)
  have A5 := Aside0.mk (fun W => sp_any hn (by omega) W)
  have A6 := Aside0.mk (fun W => hp_any hhex W)
  have A7 := Aside0.mk (fun W => hp_any hoct W)
  have A8 := Aside0.mk (fun W => hp_any hbin W)
  have HZC : Aside0 (∀ W b, hp n ⟨#[48]⟩ = b → Calls Tryd.prog 28 #[.string n, .string ⟨#[48]⟩] W (Bo b W)) := ⟨fun W b h => hp_any h W⟩
  subst hd0
  clear HP hus hdot hneg hplus hmin hn hs2 h0 hhex hoct hbin
  rcases hzz with hz | ⟨hz, hz1⟩
  · go_enter Tryd.func21, Tryd.ntmps21
    have B0 := Aside0.mk (Below.refl w.heap.size w)
    go_wp2_with fail
    refine (A0.out _).mono ?_
    rintro e w1 ⟨rfl, hb1⟩
    have B1 := Aside0.mk (B0.out.trans (hb1.mono B0.out.size))
    clear hb1
    go_wp2_with fail
    refine (HC.out _).mono ?_
    rintro e w101 ⟨rfl, rfl⟩
    go_wp2_with fail
    refine (A2.out _).mono ?_
    rintro e w2 ⟨rfl, hb2⟩
    have B2 := Aside0.mk (B1.out.trans (hb2.mono B1.out.size))
    clear hb2
    go_wp2_with fail
    refine (A3.out _).mono ?_
    rintro e w3 ⟨rfl, hb3⟩
    have B3 := Aside0.mk (B2.out.trans (hb3.mono B2.out.size))
    clear hb3
    go_wp2_with fail
    refine (A4.out _).mono ?_
    rintro e w4 ⟨rfl, hb4⟩
    have B4 := Aside0.mk (B3.out.trans (hb4.mono B3.out.size))
    clear hb4
    go_wp2_with fail
    refine (A5.out _).mono ?_
    rintro e w5 ⟨rfl, hb5⟩
    have B5 := Aside0.mk (B4.out.trans (hb5.mono B4.out.size))
    clear hb5
    go_wp2_with fail
    refine (A6.out _).mono ?_
    rintro e w6 ⟨rfl, hb6⟩
    have B6 := Aside0.mk (B5.out.trans (hb6.mono B5.out.size))
    clear hb6
    go_wp2_with fail
    refine (A7.out _).mono ?_
    rintro e w7 ⟨rfl, hb7⟩
    have B7 := Aside0.mk (B6.out.trans (hb7.mono B6.out.size))
    clear hb7
    go_wp2_with fail
    refine (A8.out _).mono ?_
    rintro e w8 ⟨rfl, hb8⟩
    have B8 := Aside0.mk (B7.out.trans (hb8.mono B7.out.size))
    clear hb8
    go_wp2_with fail
    refine (HZC.out _ _ hz).mono ?_
    rintro e w9 ⟨rfl, hb9⟩
    have B9 := Aside0.mk (B8.out.trans (hb9.mono B8.out.size))
    clear hb9 hz
    go_wp2_with fail
    refine (HPC.out _ B9.out).mono ?_
    rintro e w10 ⟨hb10, h10⟩
    have B10 := Aside0.mk (B9.out.trans (hb10.mono B9.out.size))
    rcases h10 with ⟨hk, rfl⟩ | ⟨hk, v, N, fn, ss, rfl, hN, hblk⟩
    · have HK := Aside0.mk hk
      clear hk hb10
      go_wp2_with fail
      go_ret2
      exact ⟨B10.out.alloc B10.out.size _, toQ_ok HK.out _ rfl B10.out.size (blk_new _ _)⟩
    · have HK := Aside0.mk hk
      have HN := Aside0.mk hN
      have HBK := Aside0.mk hblk
      clear hk hN hblk hb10
      go_wp2_with fail
      go_ret2
      exact ⟨B10.out, toQ_err HK.out N fn ss rfl (Nat.le_trans B9.out.size HN.out) HBK.out⟩
  · have hz1' : ¬ (1 : Int) < (n.size : Int) := by omega
    go_enter Tryd.func21, Tryd.ntmps21
    have B0 := Aside0.mk (Below.refl w.heap.size w)
    go_wp2_with fail
    refine (A0.out _).mono ?_
    rintro e w1 ⟨rfl, hb1⟩
    have B1 := Aside0.mk (B0.out.trans (hb1.mono B0.out.size))
    clear hb1
    go_wp2_with fail
    refine (HC.out _).mono ?_
    rintro e w101 ⟨rfl, rfl⟩
    go_wp2_with fail
    refine (A2.out _).mono ?_
    rintro e w2 ⟨rfl, hb2⟩
    have B2 := Aside0.mk (B1.out.trans (hb2.mono B1.out.size))
    clear hb2
    go_wp2_with fail
    refine (A3.out _).mono ?_
    rintro e w3 ⟨rfl, hb3⟩
    have B3 := Aside0.mk (B2.out.trans (hb3.mono B2.out.size))
    clear hb3
    go_wp2_with fail
    refine (A4.out _).mono ?_
    rintro e w4 ⟨rfl, hb4⟩
    have B4 := Aside0.mk (B3.out.trans (hb4.mono B3.out.size))
    clear hb4
    go_wp2_with fail
    refine (A5.out _).mono ?_
    rintro e w5 ⟨rfl, hb5⟩
    have B5 := Aside0.mk (B4.out.trans (hb5.mono B4.out.size))
    clear hb5
    go_wp2_with fail
    refine (A6.out _).mono ?_
    rintro e w6 ⟨rfl, hb6⟩
    have B6 := Aside0.mk (B5.out.trans (hb6.mono B5.out.size))
    clear hb6
    go_wp2_with fail
    refine (A7.out _).mono ?_
    rintro e w7 ⟨rfl, hb7⟩
    have B7 := Aside0.mk (B6.out.trans (hb7.mono B6.out.size))
    clear hb7
    go_wp2_with fail
    refine (A8.out _).mono ?_
    rintro e w8 ⟨rfl, hb8⟩
    have B8 := Aside0.mk (B7.out.trans (hb8.mono B7.out.size))
    clear hb8
    go_wp2_with fail
    refine (HZC.out _ _ hz).mono ?_
    rintro e w9 ⟨rfl, hb9⟩
    have B9 := Aside0.mk (B8.out.trans (hb9.mono B8.out.size))
    clear hb9 hz
    go_wp2_with fail
    refine (HPC.out _ B9.out).mono ?_
    rintro e w10 ⟨hb10, h10⟩
    have B10 := Aside0.mk (B9.out.trans (hb10.mono B9.out.size))
    rcases h10 with ⟨hk, rfl⟩ | ⟨hk, v, N, fn, ss, rfl, hN, hblk⟩
    · have HK := Aside0.mk hk
      clear hk hb10
      go_wp2_with fail
      go_ret2
      exact ⟨B10.out.alloc B10.out.size _, toQ_ok HK.out _ rfl B10.out.size (blk_new _ _)⟩
    · have HK := Aside0.mk hk
      have HN := Aside0.mk hN
      have HBK := Aside0.mk hblk
      clear hk hN hblk hb10
      go_wp2_with fail
      go_ret2
      exact ⟨B10.out, toQ_err HK.out N fn ss rfl (Nat.le_trans B9.out.size HN.out) HBK.out⟩
end Go.Proofs.YtlkbhmmelejmjaaDoor.NumAny
