/- Parts of the proof of FnQuotesSigns, one behind the other: QRunes, QPlain, QMay, QNeed. Each part says ahead of itself what it proves. -/
import Derived.Test.YtlkbhmmelejmjaaGreatDoorPkFnQuotesSigns1
import Derived.Test.YtlkbhmmelejmjaaGreatDoorPkFnQuotesSigns9
import Derived.Test.YtlkbhmmelejmjaaGreatDoorPkFnQuotesSigns10
import Derived.WalkKit
import Derived.Deep.LoopGhost
import Derived.Deep.QuietTactic
import Derived.BigQuiet
import Derived.WalkSpells
import Derived.WalkLawsBesides
import Derived.Deep.RegionHeld3
import Derived.Laws.RangeAny

/- The reference's own look at a text: scRunes, scAll, Row and Rows, at every text. The tables of package unicode/utf8 hold what they were laid with. -/
namespace Go.Proofs.YtlkbhmmelejmjaaGreatDoor.Runes
open Go.RowKit Go.Proofs.YtlkbhmmelejmjaaGreatDoor.QKnown Go.Proofs.YtlkbhmmelejmjaaGreatDoorW.PrintWords Go.Proofs.YtlkbhmmelejmjaaGreatDoor.Utf
set_option linter.unusedVariables false
set_option linter.unusedSimpArgs false

/-- The two tables. -/
def Tabs (w : World) : Prop := Lib.Utf8Tabs 0 1 w

theorem tabs_below {w w1 : World} (h : Tabs w) (hb : Below w.heap.size w w1) : Tabs w1 := Go.Proofs.Utf8Tabs_below h hb

theorem runes_size (s : ByteArray) : (Conv.runesFrom s s.size 0 #[]).size = (runes s s.size 0).length := by
  rw [runesFrom_eq]; simp

/-- A row of runes of the call's own: what is read of it. -/
def Reads (w : World) (g : Nat) (rs : List Int) : Prop := ∀ j, j < rs.length → w.cell? ⟨g, j, none⟩ = some (.int .i32 (rs.getD j 0))

theorem addr_add (g j : Nat) : Addr.add ⟨g, 0, none⟩ j = ⟨g, j, none⟩ := by
  cases j <;> simp [Addr.add]

theorem Reads.kd {w : World} {g : Nat} {rs : List Int} (h : Reads w g rs) (hl : rs.length ≤ 9223372036854775807) : Kd.C (Kd.int .i32) w (some ⟨g, 0, none⟩) rs.length rs :=
  Kd.C_of_reads (d := (0 : Int)) ⟨rfl, hl, fun _ => ⟨⟨g, 0, none⟩, rfl, fun j hj => by
    rw [addr_add]; exact h j hj⟩⟩

theorem Reads.below {w w1 : World} {g : Nat} {rs : List Int} (h : Reads w g rs) (hb : Below w.heap.size w w1) : Reads w1 g rs := fun j hj => pw_cell_below hb (h j hj)

theorem reads_new (s : ByteArray) (w : World) (rs : List Int) (hr : runes s s.size 0 = rs) (C : Array Value) (t : TypeId) :
    Reads (w.alloc (.cells (Conv.runesFrom s s.size 0 #[] ++ C) t)).drew w.heap.size rs := by
  subst hr
  intro j hj
  have h : (w.alloc (.cells (Conv.runesFrom s s.size 0 #[] ++ C) t)).cell? ⟨w.heap.size, j, none⟩ = (Conv.runesFrom s s.size 0 #[] ++ C)[j]? := World.cell?_alloc_mark w _ t _ j
  show (w.alloc _).cell? _ = _
  rw [h, runesFrom_eq, Array.getElem?_append_left (by simpa using hj)]
  simp [hj]

set_option maxHeartbeats 1000000 in
set_option maxRecDepth 100000 in
theorem scRunes_ok (s : ByteArray) (rs : List Int) (w : World) (hT : Tabs w) (hs : s.size ≤ 65536) (hsc : ∀ r ∈ rs, Scalar r) (he : B s = enc rs) :
    Calls Tryz.prog 33 #[.string s] w fun e w' => ∃ g cap : Nat, e = .returned (.tuple #[.slice (some ⟨g, 0, none⟩) rs.length cap, .bool true]) ∧ Reads w' g rs ∧ rs.length ≤ cap ∧ g < w'.heap.size ∧ w.heap.size ≤ g ∧ Below w.heap.size w w' := by
  have hv : Lib.validD s.data.toList = true := by rw [show s.data.toList = enc rs from he]; exact valid_of_enc rs hsc
  have CV := Aside0.mk (Tryz.utf8_ValidString s w (by omega) hT)
  rw [hv] at CV
  have hru := runes_of s rs hsc he
  have hl : rs.length ≤ 65536 := by have := runes_length s s.size 0; rw [hru] at this; omega
  have hrc := fun wx => run_runes_of_string (P := Tryz.prog) wx 9 68 21 s Tryz.underlying9 Tryz.underlying68 Tryz.underlying21 (by rw [runes_size, hru]; omega)
  rw [runes_size, hru] at hrc
  have HRC := Aside0.mk hrc
  have HRU := Aside0.mk hru
  clear hrc hru hv hsc he
  go_enter Tryz.func33, Tryz.ntmps33
  go_wp2_with fail
  refine CV.out.mono ?_
  rintro e w1 ⟨rfl, b1⟩
  have B1 := Aside0.mk b1
  clear b1
  have hrc := HRC.out w1
  go_wp2_with fail
  clear hrc
  go_ret2
  refine ⟨_, _, rfl, reads_new s w1 rs HRU.out _ _, grownCap_ge _ _ _ _, ?_, B1.out.size, ?_⟩
  · show _ < (w1.alloc _).heap.size
    simp
  · exact (B1.out.alloc B1.out.size _).drew

set_option maxHeartbeats 1000000 in
set_option maxRecDepth 100000 in
theorem scRunes_long (s : ByteArray) (w : World) (hs : 65536 < s.size) (hs2 : s.size ≤ 140737488351232) :
    Calls Tryz.prog 33 #[.string s] w fun e w' => e = .returned (.tuple #[.slice none 0 0, .bool false]) ∧ Below w.heap.size w w' := by
  go_enter Tryz.func33, Tryz.ntmps33
  go_wp2_with fail
  go_ret2
  exact ⟨rfl, Below.refl _ _⟩

set_option maxHeartbeats 1000000 in
set_option maxRecDepth 100000 in
theorem scRunes_bad (s : ByteArray) (w : World) (hT : Tabs w) (hs : s.size ≤ 65536) (hv : Lib.validD (B s) = false) :
    Calls Tryz.prog 33 #[.string s] w fun e w' => e = .returned (.tuple #[.slice none 0 0, .bool false]) ∧ Below w.heap.size w w' := by
  have CV := Aside0.mk (Tryz.utf8_ValidString s w (by omega) hT)
  rw [show Lib.validD s.data.toList = false from hv] at CV
  clear hv
  go_enter Tryz.func33, Tryz.ntmps33
  go_wp2_with fail
  refine CV.out.mono ?_
  rintro e w1 ⟨rfl, b1⟩
  have B1 := Aside0.mk b1
  clear b1
  go_wp2_with fail
  go_ret2
  exact ⟨rfl, B1.out⟩

/-! ### which characters may stand -/
def content (c : Int) : Bool :=
  if c = 9 ∨ (32 ≤ c ∧ c ≤ 126) ∨ (160 ≤ c ∧ c ≤ 55295) then decide (c ≠ 8232 ∧ c ≠ 8233)
  else if 57344 ≤ c ∧ c ≤ 65533 then decide (c ≠ 65279) else decide (65536 ≤ c ∧ c ≤ 1114111)

theorem content_f (k : Nat) (hk : 0 < k) (c : Int) : spec_scContent.f k c = some (content c) := by
  obtain ⟨k, rfl⟩ : ∃ m, k = m + 1 := ⟨k - 1, by omega⟩
  unfold spec_scContent.f content
  simp only [spec_scContent.j0]
  repeat' split
  all_goals (simp only [beq_iff_eq, decide_eq_true_eq, Bool.false_eq_true, not_false_eq_true, reduceCtorEq, not_true_eq_false] at *)
  all_goals first
    | (exfalso; omega)
    | (congr 1; rw [Bool.eq_iff_iff]; simp only [decide_eq_true_eq, bne_iff_ne, Bool.false_eq_true, ne_eq, false_iff, iff_false] <;> omega)

def all (feeds : Bool) (l : List Int) : Bool := l.all fun c => content c || (feeds && c == 10)

theorem all_cons (f : Bool) (c : Int) (t : List Int) : all f (c :: t) = ((content c || (f && c == 10)) && all f t) := rfl

theorem rd_nat (l : List Int) (i : Nat) : rd l (i : Int) = l.getD i 0 := by simp [rd]

theorem all_l0 (l : List Int) (feeds : Bool) (hl : l.length ≤ 9223372036854775806) (d : Nat) : ∀ (k i : Nat), i ≤ l.length → l.length - i = d → d + 1 < k →
    spec_scAll.l0 k feeds l (l.length : Int) (i : Int) = some (all feeds (l.drop i)) := by
  induction d with
  | zero =>
    intro k i h1 h2 h3
    obtain ⟨k, rfl⟩ : ∃ m, k = m + 1 := ⟨k - 1, by omega⟩
    simp only [spec_scAll.l0]
    rw [if_neg (by omega), List.drop_eq_nil_of_le (by omega)]
    rfl
  | succ d ih =>
    intro k i h1 h2 h3
    obtain ⟨k, rfl⟩ : ∃ m, k = m + 1 := ⟨k - 1, by omega⟩
    have hi : i < l.length := by omega
    have e : l.drop i = l.getD i 0 :: l.drop (i + 1) := by rw [List.drop_eq_getElem_cons hi]; simp [List.getD, hi]
    have r := ih k (i + 1) (by omega) (by omega) (by omega)
    simp only [spec_scAll.l0]
    rw [if_pos (by omega), if_pos (by omega), if_pos (by omega), content_f k (by omega), rd_nat, show wrap64 ((i : Int) + 1) = ((i + 1 : Nat) : Int) by unfold wrap64; omega, r, e, all_cons]
    simp only [Option.bind_some]
    generalize l.getD i 0 = c
    cases hc : content c with
    | true => rw [if_pos rfl]; simp
    | false =>
      rw [if_neg (by simp)]
      cases feeds with
      | false => rw [if_neg (by simp)]; simp
      | true =>
        rw [if_pos rfl]
        by_cases h10 : c = 10
        · rw [if_pos h10]; simp [h10]
        · rw [if_neg h10]; simp [h10]

theorem all_f (l : List Int) (feeds : Bool) (hl : l.length ≤ 9223372036854775806) : spec_scAll.f (l.length + 2) l feeds = some (all feeds l) :=
  all_l0 l feeds hl l.length (l.length + 2) 0 (by omega) (by omega) (by omega)

/-- May a text stand on a line, or in lines? -/
def mayStand (feeds : Bool) (s : ByteArray) : Prop := s.size ≤ 65536 ∧ ∃ rs : List Int, (∀ r ∈ rs, Scalar r) ∧ B s = enc rs ∧ all feeds rs = true

theorem stands_not (feeds : Bool) (s : ByteArray) (h : ¬ mayStand feeds s) : 65536 < s.size ∨ (s.size ≤ 65536 ∧ Lib.validD (B s) = false) ∨
    (s.size ≤ 65536 ∧ ∃ rs : List Int, (∀ r ∈ rs, Scalar r) ∧ B s = enc rs ∧ all feeds rs = false) := by
  by_cases h1 : 65536 < s.size
  · exact .inl h1
  · refine .inr ?_
    cases hv : Lib.validD (B s) with
    | false => exact .inl ⟨by omega, rfl⟩
    | true =>
      obtain ⟨rs, h2, h3⟩ := valid_enc (B s) hv
      refine .inr ⟨by omega, rs, h2, h3, ?_⟩
      cases ha : all feeds rs with
      | false => rfl
      | true => exact absurd ⟨by omega, rs, h2, h3, ha⟩ h

set_option maxHeartbeats 1000000 in
set_option maxRecDepth 100000 in
theorem row_yes (s : ByteArray) (w : World) (hT : Tabs w) (h : mayStand false s) :
    Calls Tryz.prog 30 #[.string s] w fun e w' => e = .returned (.bool true) ∧ Below w.heap.size w w' := by
  obtain ⟨hs, rs, h1, h2, h3⟩ := h
  have C := Aside0.mk (scRunes_ok s rs w hT hs h1 h2)
  have hl := (enc_length rs).1
  rw [← h2, B_length] at hl
  have HA := Aside0.mk (all_f rs false (by omega))
  rw [h3] at HA
  clear h1 h2 h3 hT
  go_enter Tryz.func30, Tryz.ntmps30
  go_wp2_with fail
  refine C.out.mono ?_
  rintro e w1 ⟨g, cap, rfl, hr, hc, _, _, b1⟩
  have B1 := Aside0.mk b1
  have HR := Aside0.mk hr
  clear b1 hr
  go_wp2_with fail
  refine (spec_scAll.calls _ _ cap rs false true _ (HR.out.kd (by omega)) hc HA.out).mono ?_
  rintro e w2 ⟨rfl, b2⟩
  have B2 := Aside0.mk (B1.out.trans (b2.below.mono B1.out.size))
  clear b2
  go_wp2_with fail
  go_ret
  exact ⟨rfl, B2.out⟩

set_option maxHeartbeats 1000000 in
set_option maxRecDepth 100000 in
theorem row_no (s : ByteArray) (w : World) (hT : Tabs w) (hs2 : s.size ≤ 140737488351232) (h : ¬ mayStand false s) :
    Calls Tryz.prog 30 #[.string s] w fun e w' => e = .returned (.bool false) ∧ Below w.heap.size w w' := by
  rcases stands_not false s h with h | ⟨h1, h2⟩ | ⟨hs, rs, h1, h2, h3⟩
  · have C := Aside0.mk (scRunes_long s w h hs2)
    clear h
    go_enter Tryz.func30, Tryz.ntmps30
    go_wp2_with fail
    refine C.out.mono ?_
    rintro e w1 ⟨rfl, b1⟩
    have B1 := Aside0.mk b1
    clear b1
    go_wp2_with fail
    go_ret
    exact ⟨rfl, B1.out⟩
  · have C := Aside0.mk (scRunes_bad s w hT h1 h2)
    clear h1 h2 hT
    go_enter Tryz.func30, Tryz.ntmps30
    go_wp2_with fail
    refine C.out.mono ?_
    rintro e w1 ⟨rfl, b1⟩
    have B1 := Aside0.mk b1
    clear b1
    go_wp2_with fail
    go_ret
    exact ⟨rfl, B1.out⟩
  · have C := Aside0.mk (scRunes_ok s rs w hT hs h1 h2)
    have hl := (enc_length rs).1
    rw [← h2, B_length] at hl
    have HA := Aside0.mk (all_f rs false (by omega))
    rw [h3] at HA
    clear h1 h2 h3 hT h
    go_enter Tryz.func30, Tryz.ntmps30
    go_wp2_with fail
    refine C.out.mono ?_
    rintro e w1 ⟨g, cap, rfl, hr, hc, _, _, b1⟩
    have B1 := Aside0.mk b1
    have HR := Aside0.mk hr
    clear b1 hr
    go_wp2_with fail
    refine (spec_scAll.calls _ _ cap rs false false _ (HR.out.kd (by omega)) hc HA.out).mono ?_
    rintro e w2 ⟨rfl, b2⟩
    have B2 := Aside0.mk (B1.out.trans (b2.below.mono B1.out.size))
    clear b2
    go_wp2_with fail
    go_ret
    exact ⟨rfl, B2.out⟩
end Go.Proofs.YtlkbhmmelejmjaaGreatDoor.Runes

/- What MayPlain asks of a line's characters, as plain functions; the printed helpers answer so. -/
namespace Go.Proofs.YtlkbhmmelejmjaaGreatDoor.QPlain
open Go.RowKit Go.Proofs.YtlkbhmmelejmjaaGreatDoorW.PrintWords Go.Proofs.YtlkbhmmelejmjaaGreatDoor.QKnown Go.Proofs.YtlkbhmmelejmjaaGreatDoor.Utf Go.Proofs.YtlkbhmmelejmjaaGreatDoor.Runes
set_option linter.unusedVariables false
set_option linter.unusedSimpArgs false

def wh (c : Int) : Bool := decide (c = 32) || decide (c = 9)
theorem wh_f (c : Int) : spec_scWhite.f c = some (wh c) := by
  unfold spec_scWhite.f wh
  by_cases h : c = 32
  · rw [if_pos h]; simp [h]
  · rw [if_neg h]; simp [h]; rfl
def flowS (c : Int) : Bool := decide (c = 44) || decide (c = 91) || decide (c = 93) || decide (c = 123) || decide (c = 125)
theorem flow_f (c : Int) : spec_scFlowSign.f c = some (flowS c) := by
  unfold spec_scFlowSign.f flowS
  by_cases h1 : c = 44
  · simp [h1]
  by_cases h2 : c = 91
  · simp [h2]
  by_cases h3 : c = 93
  · simp [h3]
  by_cases h4 : c = 123
  · simp [h4]
  simp [h1, h2, h3, h4]; rfl
def ind (c : Int) : Bool := [45, 63, 58, 35, 38, 42, 33, 124, 62, 39, 34, 37, 64, 96].contains c || flowS c
theorem ind_f (c : Int) : spec_scIndicator.f c = some (ind c) := by
  unfold spec_scIndicator.f ind
  rw [flow_f]
  simp only [Option.bind_some, List.contains_cons, List.contains_nil, Bool.or_false]
  by_cases h1 : c = 45
  · simp [h1]
  by_cases h2 : c = 63
  · simp [h2]
  by_cases h3 : c = 58
  · simp [h3]
  by_cases h4 : c = 35
  · simp [h4]
  by_cases h5 : c = 38
  · simp [h5]
  by_cases h6 : c = 42
  · simp [h6]
  by_cases h7 : c = 33
  · simp [h7]
  by_cases h8 : c = 124
  · simp [h8]
  by_cases h9 : c = 62
  · simp [h9]
  by_cases h10 : c = 39
  · simp [h10]
  by_cases h11 : c = 34
  · simp [h11]
  by_cases h12 : c = 37
  · simp [h12]
  by_cases h13 : c = 64
  · simp [h13]
  by_cases h14 : c = 96
  · simp [h14]
  simp [h1, h2, h3, h4, h5, h6, h7, h8, h9, h10, h11, h12, h13, h14]

/-- A text without line feeds has none beside white. -/
theorem apart_l0 (l : List Int) (hl : l.length ≤ 9223372036854775806) (hn : (10 : Int) ∉ l) (d : Nat) : ∀ (k i : Nat), i ≤ l.length → l.length - i = d → d < k → spec_scApart.l0 k l l (l.length : Int) (i : Int) = some true := by
  induction d with
  | zero =>
    intro k i h1 h2 h3
    obtain ⟨k, rfl⟩ : ∃ m, k = m + 1 := ⟨k - 1, by omega⟩
    simp only [spec_scApart.l0]
    rw [if_neg (by omega)]
  | succ d ih =>
    intro k i h1 h2 h3
    obtain ⟨k, rfl⟩ : ∃ m, k = m + 1 := ⟨k - 1, by omega⟩
    have hi : i < l.length := by omega
    have hne : rd l (i : Int) ≠ 10 := by
      rw [rd_nat]
      intro h
      have : l.getD i 0 ∈ l := by
        rw [List.getD_eq_getElem?_getD, List.getElem?_eq_getElem hi]
        exact List.getElem_mem hi
      exact hn (h ▸ this)
    simp only [spec_scApart.l0]
    rw [if_pos (by omega), if_pos (by omega), if_pos (by omega), if_neg hne, show wrap64 ((i : Int) + 1) = ((i + 1 : Nat) : Int) by unfold wrap64; omega]
    exact ih k (i + 1) (by omega) (by omega) (by omega)
theorem apart_f (l : List Int) (hl : l.length ≤ 9223372036854775806) (hn : (10 : Int) ∉ l) : spec_scApart.f (l.length + 1) l = some true :=
  apart_l0 l hl hn l.length (l.length + 1) 0 (by omega) (by omega) (by omega)

/-- Whether what is behind a character ends its word. -/
def lastW (l : List Int) (i : Nat) : Bool := decide (i + 1 = l.length) || wh (l.getD (i + 1) 0) || decide (l.getD (i + 1) 0 = 10)
/-- May a character of a plain value stand where it does? -/
def psn (l : List Int) (i : Nat) : Bool :=
  if l.getD i 0 = 35 then decide (0 < i) && !wh (l.getD (i - 1) 0) && decide (l.getD (i - 1) 0 ≠ 10)
  else if l.getD i 0 = 58 then !lastW l i else true
theorem ps_j0 (l : List Int) (i : Nat) (hi : i < l.length) (hl : l.length ≤ 9223372036854775806) (b : Bool) (k : Nat) (hb : l.getD i 0 = 58 → b = lastW l i) : spec_scPlainSign.j0 (k + 2) l (i : Int) false (rd l (i : Int)) b = some (psn l i) := by
  simp only [spec_scPlainSign.j0, spec_scPlainSign.j1, rd_nat]
  unfold psn
  by_cases h35 : l.getD i 0 = 35
  · rw [if_pos h35, if_pos h35]
    by_cases hz : 0 < i
    · have hw : wrap64 ((i : Int) - 1) = ((i - 1 : Nat) : Int) := by unfold wrap64; omega
      rw [if_pos (by omega), hw, if_pos (by omega), if_pos (by omega), wh_f, rd_nat]
      simp only [Option.bind_some]
      generalize l.getD (i - 1) 0 = x
      cases hc : wh x
      · rw [if_neg (by simp)]
        by_cases h10 : x = 10
        · subst h10; simp [hz]
        · simp [h10, hz]
      · rw [if_pos rfl]; simp
    · rw [if_neg (by omega)]; simp [hz]
  · rw [if_neg h35, if_neg h35]
    by_cases h58 : l.getD i 0 = 58
    · rw [if_pos h58, if_pos h58, if_neg (by simp), if_pos h58, hb h58]
    · rw [if_neg h58, if_neg h58, if_neg (by simp), if_neg h58, if_neg (by simp)]
theorem ps_f (l : List Int) (i : Nat) (hi : i < l.length) (hl : l.length ≤ 9223372036854775806) : spec_scPlainSign.f 2 l (i : Int) false = some (psn l i) := by
  unfold spec_scPlainSign.f
  have hw : wrap64 ((i : Int) + 1) = ((i + 1 : Nat) : Int) := by unfold wrap64; omega
  rw [if_pos (by omega), if_pos (by omega), hw]
  by_cases hlast : i + 1 = l.length
  · rw [if_pos (by omega)]
    exact ps_j0 l i hi hl true 0 (fun _ => by simp [lastW, hlast])
  · rw [if_neg (by omega), if_pos (by omega), if_pos (by omega), wh_f]
    simp only [Option.bind_some]
    rw [rd_nat l (i + 1)]
    cases hc : wh (l.getD (i + 1) 0)
    · rw [if_neg (by simp)]
      refine ps_j0 l i hi hl _ 0 (fun _ => ?_)
      simp only [lastW, hc, hlast, decide_false, Bool.false_or]
      generalize l.getD (i + 1) 0 = x
      by_cases h10 : x = 10
      · subst h10; rfl
      · simp [h10]
    · rw [if_pos rfl]
      exact ps_j0 l i hi hl true 0 (fun _ => by simp only [lastW, hc, Bool.or_true, Bool.true_or])

def mkr (l : List Int) : Bool := decide (3 ≤ l.length) && (decide (l.getD 0 0 = 45) || decide (l.getD 0 0 = 46)) && decide (l.getD 1 0 = l.getD 0 0) && decide (l.getD 2 0 = l.getD 0 0)
def bad1 (l : List Int) : Bool := (decide (l.getD 0 0 ≠ 45) && decide (l.getD 0 0 ≠ 63) && decide (l.getD 0 0 ≠ 58)) || decide (l.length < 2) || wh (l.getD 1 0) || decide (l.getD 1 0 = 10)
def stops (l : List Int) (i : Nat) : Bool := (decide (0 < i) || !ind (l.getD 0 0)) && !psn l i
/-- MayPlain of a line that is not empty. -/
def mp (l : List Int) : Bool := !(wh (l.getD 0 0) || wh (l.getD (l.length - 1) 0) || mkr l) && !(ind (l.getD 0 0) && bad1 l) && (List.range l.length).all fun i => !stops l i
end Go.Proofs.YtlkbhmmelejmjaaGreatDoor.QPlain

/- MayPlain at a line that is not empty. -/
namespace Go.Proofs.YtlkbhmmelejmjaaGreatDoor.QMay
open Go.RowKit Go.Proofs.YtlkbhmmelejmjaaGreatDoorW.PrintWords Go.Proofs.YtlkbhmmelejmjaaGreatDoor.QKnown Go.Proofs.YtlkbhmmelejmjaaGreatDoor.Utf Go.Proofs.YtlkbhmmelejmjaaGreatDoor.Runes Go.Proofs.YtlkbhmmelejmjaaGreatDoor.QPlain
set_option linter.unusedVariables false
set_option linter.unusedSimpArgs false

def Same (b : Bool) (w : World) (e : Ending) (w' : World) : Prop := e = .returned (.bool b) ∧ ∃ m, w' = w.drewN m
set_option maxHeartbeats 2000000 in
set_option maxRecDepth 100000 in
theorem mark_fin (g cap n : Nat) (w : World) (hn : 3 ≤ n) (hl : n ≤ 65536) (a b c : Int) (x0 : w.cell? ⟨g, 0, none⟩ = some (.int .i32 a)) (x1 : w.cell? ⟨g, 1, none⟩ = some (.int .i32 b)) (x2 : w.cell? ⟨g, 2, none⟩ = some (.int .i32 c)) (h : (a == 45) = true ∨ ((a == 45) = false ∧ (a == 46) = true)) : Calls Tryz.prog 38 #[.slice (some ⟨g, 0, none⟩) n cap] w (Same (decide (b = a) && decide (c = a)) w) := by
  have q : decide ((3 : Int) ≤ (n : Int)) = true := decide_eq_true (by omega)
  have q' : decide (3 ≤ n) = true := decide_eq_true (by omega)
  have i0 : (0 < n) = True := eq_true (by omega)
  have i1 : (1 < n) = True := eq_true (by omega)
  have i2 : (2 < n) = True := eq_true (by omega)
  have j0 : ((0 : Int) < (n : Int)) = True := eq_true (by omega)
  have j1 : ((1 : Int) < (n : Int)) = True := eq_true (by omega)
  have j2 : ((2 : Int) < (n : Int)) = True := eq_true (by omega)
  clear hn
  by_cases hb : b = a
  · have qb : (b == a) = true := beq_iff_eq.mpr hb
    by_cases hcc : c = a
    · have qc : (c == a) = true := beq_iff_eq.mpr hcc
      rw [decide_eq_true hb, decide_eq_true hcc]
      rcases h with h | ⟨h, h'⟩
      all_goals
        go_enter Tryz.func38, Tryz.ntmps38
        go_wp2_with fail
        go_quiet (fail)
        go_wp2_with fail
        go_ret
        exact ⟨rfl, _, rfl⟩
    · have qc : (c == a) = false := beq_eq_false_iff_ne.mpr hcc
      rw [decide_eq_true hb, decide_eq_false hcc]
      rcases h with h | ⟨h, h'⟩
      all_goals
        go_enter Tryz.func38, Tryz.ntmps38
        go_wp2_with fail
        go_quiet (fail)
        go_wp2_with fail
        go_ret
        exact ⟨rfl, _, rfl⟩
  · have qb : (b == a) = false := beq_eq_false_iff_ne.mpr hb
    rw [decide_eq_false hb, Bool.false_and]
    rcases h with h | ⟨h, h'⟩
    all_goals
      go_enter Tryz.func38, Tryz.ntmps38
      go_wp2_with fail
      go_quiet (fail)
      go_wp2_with fail
      go_ret
      exact ⟨rfl, _, rfl⟩

set_option maxHeartbeats 2000000 in
set_option maxRecDepth 100000 in
theorem mark_walk (g cap : Nat) (rs : List Int) (w : World) (hr : Reads w g rs) (hc : rs.length ≤ cap) (hl : rs.length ≤ 65536) : Calls Tryz.prog 38 #[.slice (some ⟨g, 0, none⟩) rs.length cap] w (Same (mkr rs) w) := by
  by_cases h3 : rs.length < 3
  · have hm : mkr rs = false := by simp [mkr]; omega
    rw [hm]
    clear hr hm
    have q : decide ((3 : Int) ≤ (rs.length : Int)) = false := decide_eq_false (by omega)
    have q' : decide (3 ≤ rs.length) = false := decide_eq_false (by omega)
    clear h3
    go_enter Tryz.func38, Tryz.ntmps38
    go_wp2_with fail
    go_quiet (fail)
    go_wp2_with fail
    go_ret
    exact ⟨rfl, _, rfl⟩
  · have x0 := hr 0 (by omega)
    have x1 := hr 1 (by omega)
    have x2 := hr 2 (by omega)
    have q : decide ((3 : Int) ≤ (rs.length : Int)) = true := decide_eq_true (by omega)
    have q' : decide (3 ≤ rs.length) = true := decide_eq_true (by omega)
    have i0 : (0 < rs.length) = True := eq_true (by omega)
    have i1 : (1 < rs.length) = True := eq_true (by omega)
    have i2 : (2 < rs.length) = True := eq_true (by omega)
    have j0 : ((0 : Int) < (rs.length : Int)) = True := eq_true (by omega)
    have j1 : ((1 : Int) < (rs.length : Int)) = True := eq_true (by omega)
    have j2 : ((2 : Int) < (rs.length : Int)) = True := eq_true (by omega)
    have hm : mkr rs = ((decide (rs.getD 0 0 = 45) || decide (rs.getD 0 0 = 46)) && decide (rs.getD 1 0 = rs.getD 0 0) && decide (rs.getD 2 0 = rs.getD 0 0)) := by
      unfold mkr
      rw [decide_eq_true (by omega), Bool.true_and]
    rw [hm]
    clear hr hm
    generalize rs.getD 0 0 = a at x0 ⊢
    generalize rs.getD 1 0 = b at x1 ⊢
    generalize rs.getD 2 0 = c at x2 ⊢
    by_cases h45 : a = 45
    · rw [decide_eq_true h45, Bool.true_or, Bool.true_and]
      exact mark_fin g cap rs.length w (by omega) hl a b c x0 x1 x2 (.inl (beq_iff_eq.mpr h45))
    · by_cases h46 : a = 46
      · rw [decide_eq_true h46, Bool.or_true, Bool.true_and]
        exact mark_fin g cap rs.length w (by omega) hl a b c x0 x1 x2 (.inr ⟨beq_eq_false_iff_ne.mpr h45, beq_iff_eq.mpr h46⟩)
      · rw [decide_eq_false h45, decide_eq_false h46, Bool.or_false, Bool.false_and, Bool.false_and]
        have q1 : (a == 45) = false := beq_eq_false_iff_ne.mpr h45
        have q2 : (a == 46) = false := beq_eq_false_iff_ne.mpr h46
        go_enter Tryz.func38, Tryz.ntmps38
        go_wp2_with fail
        go_quiet (fail)
        go_wp2_with fail
        go_ret
        exact ⟨rfl, _, rfl⟩
/-! ### MayPlain -/
def Bo (b : Bool) (w : World) (e : Ending) (w' : World) : Prop := e = .returned (.bool b) ∧ Below w.heap.size w w'
theorem key_c (W : World) : Calls Tryz.prog 35 #[.int .i64 1] W (Same false W) := (spec_scKey.calls 1 false W (by decide)).mono fun e w' ⟨h1, m, h2⟩ => ⟨h1, m, h2⟩
theorem flow_c (W : World) : Calls Tryz.prog 40 #[.int .i64 1] W (Same false W) := (spec_scFlow.calls 1 false W (by decide)).mono fun e w' ⟨h1, m, h2⟩ => ⟨h1, m, h2⟩
theorem wh_c (c : Int) (W : World) : Calls Tryz.prog 37 #[.int .i32 c] W (Same (wh c) W) := (spec_scWhite.calls c (wh c) W (wh_f c)).mono fun e w' ⟨h1, m, h2⟩ => ⟨h1, m, h2⟩
theorem ind_c (c : Int) (W : World) : Calls Tryz.prog 39 #[.int .i32 c] W (Same (ind c) W) := (spec_scIndicator.calls c (ind c) W (ind_f c)).mono fun e w' ⟨h1, m, h2⟩ => ⟨h1, m, h2⟩
theorem no_ten {rs : List Int} (h : all false rs = true) : (10 : Int) ∉ rs := by
  intro hm
  have := List.all_eq_true.1 h 10 hm
  revert this
  decide
theorem all_true {rs : List Int} (h : all false rs = true) : all true rs = true := by
  unfold all at h ⊢
  rw [List.all_eq_true] at h ⊢
  intro c hc
  have := h c hc
  simp only [Bool.false_and, Bool.or_false] at this
  simp [this]
theorem rd_n {w : World} {g : Nat} {rs : List Int} (h : Reads w g rs) (n : Nat) : Reads (w.drewN n) g rs := h
structure Line (s : ByteArray) (rs : List Int) : Prop where
  size : s.size ≤ 65536
  sc : ∀ r ∈ rs, Scalar r
  enc : B s = enc rs
  al : all false rs = true
  ne : rs ≠ []
theorem Line.len {s : ByteArray} {rs : List Int} (h : Line s rs) : rs.length ≤ 65536 ∧ 0 < rs.length := by
  have hl := (enc_length rs).1
  rw [← h.enc, B_length] at hl
  exact ⟨Nat.le_trans hl h.size, List.length_pos_iff.2 h.ne⟩

set_option maxHeartbeats 16000000 in
set_option maxRecDepth 100000 in
theorem may_walk (s : ByteArray) (rs : List Int) (w : World) (hT : Tabs w) (hL : Line s rs) : Calls Tryz.prog 17 #[.string s, .int .i64 1] w (Bo (mp rs) w) := by
  have C := Aside0.mk (scRunes_ok s rs w hT hL.size hL.sc hL.enc)
  obtain ⟨hl, h0⟩ := hL.len
  have HA := Aside0.mk (all_f rs true (by omega))
  rw [all_true hL.al] at HA
  have HP := Aside0.mk (apart_f rs (by omega) (no_ten hL.al))
  have hz : ((rs.length : Int) == 0) = false := beq_eq_false_iff_ne.mpr (by omega)
  have i0 : (0 < rs.length) = True := eq_true (by omega)
  have j0 : ((0 : Int) < (rs.length : Int)) = True := eq_true (by omega)
  have hwr : wrap64 ((rs.length : Int) - 1) = ((rs.length - 1 : Nat) : Int) := by unfold wrap64; omega
  have il : (rs.length - 1 < rs.length) = True := eq_true (by omega)
  have jl : (((rs.length - 1 : Nat) : Int) < (rs.length : Int)) = True := eq_true (by omega)
  have ml : rs.length - 1 < rs.length := by omega
  have n10 : ∀ j, j < rs.length → (rs.getD j 0 == 10) = false := fun j hj => by
    rw [beq_eq_false_iff_ne]
    intro h
    have : rs.getD j 0 ∈ rs := by
      rw [List.getD_eq_getElem?_getD, List.getElem?_eq_getElem hj]
      exact List.getElem_mem hj
    exact no_ten hL.al (h ▸ this)
  have N10 := Aside0.mk n10
  clear hT hL n10
  go_enter Tryz.func17, Tryz.ntmps17
  go_wp2_with fail
  refine C.out.mono ?_
  rintro e w1 ⟨g, cap, rfl, hr, hc, hg, _, b1⟩
  have B1 := Aside0.mk b1
  have HR := Aside0.mk hr
  have HC := Aside0.mk hc
  obtain ⟨r0, hr0⟩ : ∃ r, r = rs.getD 0 0 := ⟨_, rfl⟩
  obtain ⟨rl, hrl⟩ : ∃ r, r = rs.getD (rs.length - 1) 0 := ⟨_, rfl⟩
  have x0 : w1.cell? ⟨g, 0, none⟩ = some (.int .i32 r0) := by rw [hr0]; exact hr 0 h0
  have xl : w1.cell? ⟨g, rs.length - 1, none⟩ = some (.int .i32 rl) := by rw [hrl]; exact hr (rs.length - 1) ml
  have t0 : (r0 == 10) = false := by rw [hr0]; exact N10.out 0 h0
  have tl : (rl == 10) = false := by rw [hrl]; exact N10.out _ ml
  replace hr0 := Aside0.mk hr0
  replace hrl := Aside0.mk hrl
  clear b1 hr hc hg
  go_wp2_with (first
      | (go_at_call 35; refine (key_c _).mono ?_; rintro e w' ⟨rfl, m, rfl⟩)
      | (go_at_call 40; refine (flow_c _).mono ?_; rintro e w' ⟨rfl, m, rfl⟩)
      | (go_at_call 37; refine (wh_c _ _).mono ?_; rintro e w' ⟨rfl, m, rfl⟩)
      | (go_at_call 39; refine (ind_c _ _).mono ?_; rintro e w' ⟨rfl, m, rfl⟩)
      | (go_at_call 38; refine (mark_walk g cap rs _ (by repeat (first | exact HR.out | apply rd_n)) HC.out (by omega)).mono ?_; rintro e w' ⟨rfl, m, rfl⟩)
      | (go_at_call 42; refine (spec_scPlainSign.calls _ _ cap rs _ false _ _ (Reads.kd (by repeat (first | exact HR.out | apply rd_n)) (by omega)) HC.out HPS.out).mono ?_; rintro e w' ⟨rfl, m, rfl⟩)
      | (go_at_call 34; refine (spec_scAll.calls _ _ cap rs true true _ (Reads.kd (by repeat (first | exact HR.out | apply rd_n)) (by omega)) HC.out HA.out).mono ?_; rintro e w' ⟨rfl, m, rfl⟩)
      | (go_at_call 36; refine (spec_scApart.calls _ _ cap rs true _ (Reads.kd (by repeat (first | exact HR.out | apply rd_n)) (by omega)) HC.out HP.out).mono ?_; rintro e w' ⟨rfl, m, rfl⟩))
  go_quiet (fail)
  by_cases hw0 : wh r0 = true
  · have hm : mp rs = false := by unfold mp; rw [← hr0.out, ← hrl.out, hw0]; rfl
    go_wp2_with (first
        | (go_at_call 35; refine (key_c _).mono ?_; rintro e w' ⟨rfl, m, rfl⟩)
        | (go_at_call 40; refine (flow_c _).mono ?_; rintro e w' ⟨rfl, m, rfl⟩)
        | (go_at_call 37; refine (wh_c _ _).mono ?_; rintro e w' ⟨rfl, m, rfl⟩)
        | (go_at_call 39; refine (ind_c _ _).mono ?_; rintro e w' ⟨rfl, m, rfl⟩)
        | (go_at_call 38; refine (mark_walk g cap rs _ (by repeat (first | exact HR.out | apply rd_n)) HC.out (by omega)).mono ?_; rintro e w' ⟨rfl, m, rfl⟩)
        | (go_at_call 42; refine (spec_scPlainSign.calls _ _ cap rs _ false _ _ (Reads.kd (by repeat (first | exact HR.out | apply rd_n)) (by omega)) HC.out HPS.out).mono ?_; rintro e w' ⟨rfl, m, rfl⟩)
        | (go_at_call 34; refine (spec_scAll.calls _ _ cap rs true true _ (Reads.kd (by repeat (first | exact HR.out | apply rd_n)) (by omega)) HC.out HA.out).mono ?_; rintro e w' ⟨rfl, m, rfl⟩)
        | (go_at_call 36; refine (spec_scApart.calls _ _ cap rs true _ (Reads.kd (by repeat (first | exact HR.out | apply rd_n)) (by omega)) HC.out HP.out).mono ?_; rintro e w' ⟨rfl, m, rfl⟩))
    go_ret
    exact ⟨by rw [hm]; rfl, by repeat (first | exact B1.out | apply pw_below_drewN)⟩
  replace hw0 : wh r0 = false := by simpa using hw0
  by_cases hwl : wh rl = true
  · have hm : mp rs = false := by unfold mp; rw [← hr0.out, ← hrl.out, hw0, hwl]; rfl
    go_wp2_with (first
        | (go_at_call 35; refine (key_c _).mono ?_; rintro e w' ⟨rfl, m, rfl⟩)
        | (go_at_call 40; refine (flow_c _).mono ?_; rintro e w' ⟨rfl, m, rfl⟩)
        | (go_at_call 37; refine (wh_c _ _).mono ?_; rintro e w' ⟨rfl, m, rfl⟩)
        | (go_at_call 39; refine (ind_c _ _).mono ?_; rintro e w' ⟨rfl, m, rfl⟩)
        | (go_at_call 38; refine (mark_walk g cap rs _ (by repeat (first | exact HR.out | apply rd_n)) HC.out (by omega)).mono ?_; rintro e w' ⟨rfl, m, rfl⟩)
        | (go_at_call 42; refine (spec_scPlainSign.calls _ _ cap rs _ false _ _ (Reads.kd (by repeat (first | exact HR.out | apply rd_n)) (by omega)) HC.out HPS.out).mono ?_; rintro e w' ⟨rfl, m, rfl⟩)
        | (go_at_call 34; refine (spec_scAll.calls _ _ cap rs true true _ (Reads.kd (by repeat (first | exact HR.out | apply rd_n)) (by omega)) HC.out HA.out).mono ?_; rintro e w' ⟨rfl, m, rfl⟩)
        | (go_at_call 36; refine (spec_scApart.calls _ _ cap rs true _ (Reads.kd (by repeat (first | exact HR.out | apply rd_n)) (by omega)) HC.out HP.out).mono ?_; rintro e w' ⟨rfl, m, rfl⟩))
    go_ret
    exact ⟨by rw [hm]; rfl, by repeat (first | exact B1.out | apply pw_below_drewN)⟩
  replace hwl : wh rl = false := by simpa using hwl
  by_cases hmk : mkr rs = true
  · have hm : mp rs = false := by unfold mp; rw [← hr0.out, ← hrl.out, hw0, hwl, hmk] <;> rfl
    go_wp2_with (first
        | (go_at_call 35; refine (key_c _).mono ?_; rintro e w' ⟨rfl, m, rfl⟩)
        | (go_at_call 40; refine (flow_c _).mono ?_; rintro e w' ⟨rfl, m, rfl⟩)
        | (go_at_call 37; refine (wh_c _ _).mono ?_; rintro e w' ⟨rfl, m, rfl⟩)
        | (go_at_call 39; refine (ind_c _ _).mono ?_; rintro e w' ⟨rfl, m, rfl⟩)
        | (go_at_call 38; refine (mark_walk g cap rs _ (by repeat (first | exact HR.out | apply rd_n)) HC.out (by omega)).mono ?_; rintro e w' ⟨rfl, m, rfl⟩)
        | (go_at_call 42; refine (spec_scPlainSign.calls _ _ cap rs _ false _ _ (Reads.kd (by repeat (first | exact HR.out | apply rd_n)) (by omega)) HC.out HPS.out).mono ?_; rintro e w' ⟨rfl, m, rfl⟩)
        | (go_at_call 34; refine (spec_scAll.calls _ _ cap rs true true _ (Reads.kd (by repeat (first | exact HR.out | apply rd_n)) (by omega)) HC.out HA.out).mono ?_; rintro e w' ⟨rfl, m, rfl⟩)
        | (go_at_call 36; refine (spec_scApart.calls _ _ cap rs true _ (Reads.kd (by repeat (first | exact HR.out | apply rd_n)) (by omega)) HC.out HP.out).mono ?_; rintro e w' ⟨rfl, m, rfl⟩))
    go_ret
    exact ⟨by rw [hm]; rfl, by repeat (first | exact B1.out | apply pw_below_drewN)⟩
  replace hmk : mkr rs = false := by simpa using hmk
  by_cases hind : ind r0 = true
  · by_cases hset : r0 = 45 ∨ r0 = 63 ∨ r0 = 58
    · have hq : (r0 != 45) = false ∨ ((r0 != 45) = true ∧ (r0 != 63) = false) ∨ ((r0 != 45) = true ∧ (r0 != 63) = true ∧ (r0 != 58) = false) := by
        rcases hset with h | h | h
        · exact .inl (by rw [h]; rfl)
        · exact .inr (.inl ⟨by rw [h]; rfl, by rw [h]; rfl⟩)
        · exact .inr (.inr ⟨by rw [h]; rfl, by rw [h]; rfl, by rw [h]; rfl⟩)
      have hb1 : bad1 rs = (decide (rs.length < 2) || wh (rs.getD 1 0) || decide (rs.getD 1 0 = 10)) := by
        unfold bad1
        rw [← hr0.out]
        rcases hset with h | h | h <;> simp [h]
      replace hb1 := Aside0.mk hb1
      clear hset
      by_cases h2 : rs.length < 2
      · have d2 : decide ((rs.length : Int) < 2) = true := decide_eq_true (by omega)
        have d2' : decide (rs.length < 2) = true := decide_eq_true h2
        have hm : mp rs = false := by
          unfold mp; rw [← hr0.out, hb1.out, d2']; simp [hind]
        clear h2
        rcases hq with q1 | ⟨q1, q2⟩ | ⟨q1, q2, q3⟩
        all_goals
          go_wp2_with (first
              | (go_at_call 35; refine (key_c _).mono ?_; rintro e w' ⟨rfl, m, rfl⟩)
              | (go_at_call 40; refine (flow_c _).mono ?_; rintro e w' ⟨rfl, m, rfl⟩)
              | (go_at_call 37; refine (wh_c _ _).mono ?_; rintro e w' ⟨rfl, m, rfl⟩)
              | (go_at_call 39; refine (ind_c _ _).mono ?_; rintro e w' ⟨rfl, m, rfl⟩)
              | (go_at_call 38; refine (mark_walk g cap rs _ (by repeat (first | exact HR.out | apply rd_n)) HC.out (by omega)).mono ?_; rintro e w' ⟨rfl, m, rfl⟩)
              | (go_at_call 42; refine (spec_scPlainSign.calls _ _ cap rs _ false _ _ (Reads.kd (by repeat (first | exact HR.out | apply rd_n)) (by omega)) HC.out HPS.out).mono ?_; rintro e w' ⟨rfl, m, rfl⟩)
              | (go_at_call 34; refine (spec_scAll.calls _ _ cap rs true true _ (Reads.kd (by repeat (first | exact HR.out | apply rd_n)) (by omega)) HC.out HA.out).mono ?_; rintro e w' ⟨rfl, m, rfl⟩)
              | (go_at_call 36; refine (spec_scApart.calls _ _ cap rs true _ (Reads.kd (by repeat (first | exact HR.out | apply rd_n)) (by omega)) HC.out HP.out).mono ?_; rintro e w' ⟨rfl, m, rfl⟩))
          go_ret
          exact ⟨by rw [hm]; rfl, by repeat (first | exact B1.out | apply pw_below_drewN)⟩
      · have d2 : decide ((rs.length : Int) < 2) = false := decide_eq_false (by omega)
        have d2' : decide (rs.length < 2) = false := decide_eq_false h2
        have i1 : (1 < rs.length) = True := eq_true (by omega)
        have j1 : ((1 : Int) < (rs.length : Int)) = True := eq_true (by omega)
        obtain ⟨r1, hr1⟩ : ∃ r, r = rs.getD 1 0 := ⟨_, rfl⟩
        have x1 : w1.cell? ⟨g, 1, none⟩ = some (.int .i32 r1) := by rw [hr1]; exact HR.out 1 (by omega)
        have t1 : (r1 == 10) = false := by rw [hr1]; exact N10.out 1 (by omega)
        have t1' : decide (r1 = 10) = false := decide_eq_false (beq_eq_false_iff_ne.mp t1)
        have hb2 : bad1 rs = wh r1 := by rw [hb1.out, ← hr1, d2', t1']; simp
        replace hr1 := Aside0.mk hr1
        replace hb2 := Aside0.mk hb2
        clear h2
        by_cases hw1 : wh r1 = true
        · have hm : mp rs = false := by unfold mp; rw [← hr0.out, hb2.out]; simp [hind, hw1]
          rcases hq with q1 | ⟨q1, q2⟩ | ⟨q1, q2, q3⟩
          all_goals
            go_wp2_with (first
                | (go_at_call 35; refine (key_c _).mono ?_; rintro e w' ⟨rfl, m, rfl⟩)
                | (go_at_call 40; refine (flow_c _).mono ?_; rintro e w' ⟨rfl, m, rfl⟩)
                | (go_at_call 37; refine (wh_c _ _).mono ?_; rintro e w' ⟨rfl, m, rfl⟩)
                | (go_at_call 39; refine (ind_c _ _).mono ?_; rintro e w' ⟨rfl, m, rfl⟩)
                | (go_at_call 38; refine (mark_walk g cap rs _ (by repeat (first | exact HR.out | apply rd_n)) HC.out (by omega)).mono ?_; rintro e w' ⟨rfl, m, rfl⟩)
                | (go_at_call 42; refine (spec_scPlainSign.calls _ _ cap rs _ false _ _ (Reads.kd (by repeat (first | exact HR.out | apply rd_n)) (by omega)) HC.out HPS.out).mono ?_; rintro e w' ⟨rfl, m, rfl⟩)
                | (go_at_call 34; refine (spec_scAll.calls _ _ cap rs true true _ (Reads.kd (by repeat (first | exact HR.out | apply rd_n)) (by omega)) HC.out HA.out).mono ?_; rintro e w' ⟨rfl, m, rfl⟩)
                | (go_at_call 36; refine (spec_scApart.calls _ _ cap rs true _ (Reads.kd (by repeat (first | exact HR.out | apply rd_n)) (by omega)) HC.out HP.out).mono ?_; rintro e w' ⟨rfl, m, rfl⟩))
            go_ret
            exact ⟨by rw [hm]; rfl, by repeat (first | exact B1.out | apply pw_below_drewN)⟩
        · replace hw1 : wh r1 = false := by simpa using hw1
          have hmp : mp rs = (List.range rs.length).all fun i => !stops rs i := by unfold mp; rw [← hr0.out, ← hrl.out, hb2.out]; simp [hw0, hwl, hmk, hind, hw1]
          rcases hq with q1 | ⟨q1, q2⟩ | ⟨q1, q2, q3⟩
          all_goals
            have hst : ∀ j, stops rs j = ((decide (0 < j) || !true) && !psn rs j) := fun j => by unfold stops; rw [← hr0.out, hind]
            replace hst := Aside0.mk hst
            replace hmp := Aside0.mk hmp
            go_wp2_with (first
                | (go_at_call 35; refine (key_c _).mono ?_; rintro e w' ⟨rfl, m, rfl⟩)
                | (go_at_call 40; refine (flow_c _).mono ?_; rintro e w' ⟨rfl, m, rfl⟩)
                | (go_at_call 37; refine (wh_c _ _).mono ?_; rintro e w' ⟨rfl, m, rfl⟩)
                | (go_at_call 39; refine (ind_c _ _).mono ?_; rintro e w' ⟨rfl, m, rfl⟩)
                | (go_at_call 38; refine (mark_walk g cap rs _ (by repeat (first | exact HR.out | apply rd_n)) HC.out (by omega)).mono ?_; rintro e w' ⟨rfl, m, rfl⟩)
                | (go_at_call 42; refine (spec_scPlainSign.calls _ _ cap rs _ false _ _ (Reads.kd (by repeat (first | exact HR.out | apply rd_n)) (by omega)) HC.out HPS.out).mono ?_; rintro e w' ⟨rfl, m, rfl⟩)
                | (go_at_call 34; refine (spec_scAll.calls _ _ cap rs true true _ (Reads.kd (by repeat (first | exact HR.out | apply rd_n)) (by omega)) HC.out HA.out).mono ?_; rintro e w' ⟨rfl, m, rfl⟩)
                | (go_at_call 36; refine (spec_scApart.calls _ _ cap rs true _ (Reads.kd (by repeat (first | exact HR.out | apply rd_n)) (by omega)) HC.out HP.out).mono ?_; rintro e w' ⟨rfl, m, rfl⟩))
            go_loopg [106] rs.length (fun kq v106 w' => ∃ k : Nat, k ≤ rs.length ∧ v106 = .int .i64 k ∧ Aside0 (kq + k = rs.length ∧ ∀ j, j < k → stops rs j = false) ∧ ∃ m, w' = w1.drewN m)
            case atStart => exact ⟨0, by omega, rfl, ⟨by omega, fun j hj => absurd hj (Nat.not_lt_zero j)⟩, _, rfl⟩
            case round =>
              obtain ⟨k, hk, rfl, HK, m0, rfl⟩ := hrel
              by_cases hkn : k < rs.length
              · have HPS := Aside0.mk (ps_f rs k hkn (by omega))
                by_cases hk0 : k = 0
                · subst hk0
                  have hs0 : stops rs 0 = false := by rw [hst.out 0]; simp
                  go_wp2_with (first
                      | (go_at_call 35; refine (key_c _).mono ?_; rintro e w' ⟨rfl, m, rfl⟩)
                      | (go_at_call 40; refine (flow_c _).mono ?_; rintro e w' ⟨rfl, m, rfl⟩)
                      | (go_at_call 37; refine (wh_c _ _).mono ?_; rintro e w' ⟨rfl, m, rfl⟩)
                      | (go_at_call 39; refine (ind_c _ _).mono ?_; rintro e w' ⟨rfl, m, rfl⟩)
                      | (go_at_call 38; refine (mark_walk g cap rs _ (by repeat (first | exact HR.out | apply rd_n)) HC.out (by omega)).mono ?_; rintro e w' ⟨rfl, m, rfl⟩)
                      | (go_at_call 42; refine (spec_scPlainSign.calls _ _ cap rs _ false _ _ (Reads.kd (by repeat (first | exact HR.out | apply rd_n)) (by omega)) HC.out HPS.out).mono ?_; rintro e w' ⟨rfl, m, rfl⟩)
                      | (go_at_call 34; refine (spec_scAll.calls _ _ cap rs true true _ (Reads.kd (by repeat (first | exact HR.out | apply rd_n)) (by omega)) HC.out HA.out).mono ?_; rintro e w' ⟨rfl, m, rfl⟩)
                      | (go_at_call 36; refine (spec_scApart.calls _ _ cap rs true _ (Reads.kd (by repeat (first | exact HR.out | apply rd_n)) (by omega)) HC.out HP.out).mono ?_; rintro e w' ⟨rfl, m, rfl⟩))
                  go_roundg (gk - 1)
                  case measure => have := HK.out.1; omega
                  case rel => exact ⟨0 + 1, by omega, by go_num, ⟨by have := HK.out.1; omega, fun j hj => (Nat.lt_succ_iff_lt_or_eq.1 hj).elim (HK.out.2 j) (fun e => by rw [e]; exact hs0)⟩, _, rfl⟩
                · have hk1 : 0 < k := by omega
                  by_cases hp : psn rs k = true
                  · have hs0 : stops rs k = false := by rw [hst.out k, hp]; simp
                    go_wp2_with (first
                        | (go_at_call 35; refine (key_c _).mono ?_; rintro e w' ⟨rfl, m, rfl⟩)
                        | (go_at_call 40; refine (flow_c _).mono ?_; rintro e w' ⟨rfl, m, rfl⟩)
                        | (go_at_call 37; refine (wh_c _ _).mono ?_; rintro e w' ⟨rfl, m, rfl⟩)
                        | (go_at_call 39; refine (ind_c _ _).mono ?_; rintro e w' ⟨rfl, m, rfl⟩)
                        | (go_at_call 38; refine (mark_walk g cap rs _ (by repeat (first | exact HR.out | apply rd_n)) HC.out (by omega)).mono ?_; rintro e w' ⟨rfl, m, rfl⟩)
                        | (go_at_call 42; refine (spec_scPlainSign.calls _ _ cap rs _ false _ _ (Reads.kd (by repeat (first | exact HR.out | apply rd_n)) (by omega)) HC.out HPS.out).mono ?_; rintro e w' ⟨rfl, m, rfl⟩)
                        | (go_at_call 34; refine (spec_scAll.calls _ _ cap rs true true _ (Reads.kd (by repeat (first | exact HR.out | apply rd_n)) (by omega)) HC.out HA.out).mono ?_; rintro e w' ⟨rfl, m, rfl⟩)
                        | (go_at_call 36; refine (spec_scApart.calls _ _ cap rs true _ (Reads.kd (by repeat (first | exact HR.out | apply rd_n)) (by omega)) HC.out HP.out).mono ?_; rintro e w' ⟨rfl, m, rfl⟩))
                    go_roundg (gk - 1)
                    case measure => have := HK.out.1; omega
                    case rel => exact ⟨k + 1, by omega, by go_num, ⟨by have := HK.out.1; omega, fun j hj => (Nat.lt_succ_iff_lt_or_eq.1 hj).elim (HK.out.2 j) (fun e => by rw [e]; exact hs0)⟩, _, rfl⟩
                  · replace hp : psn rs k = false := by simpa using hp
                    have hm : mp rs = false := by
                      rw [hmp.out, Bool.eq_false_iff]
                      intro hall
                      have h1 := List.all_eq_true.1 hall k (List.mem_range.2 hkn)
                      rw [hst.out k, hp] at h1
                      simp [hk1] at h1
                    go_wp2_with (first
                        | (go_at_call 35; refine (key_c _).mono ?_; rintro e w' ⟨rfl, m, rfl⟩)
                        | (go_at_call 40; refine (flow_c _).mono ?_; rintro e w' ⟨rfl, m, rfl⟩)
                        | (go_at_call 37; refine (wh_c _ _).mono ?_; rintro e w' ⟨rfl, m, rfl⟩)
                        | (go_at_call 39; refine (ind_c _ _).mono ?_; rintro e w' ⟨rfl, m, rfl⟩)
                        | (go_at_call 38; refine (mark_walk g cap rs _ (by repeat (first | exact HR.out | apply rd_n)) HC.out (by omega)).mono ?_; rintro e w' ⟨rfl, m, rfl⟩)
                        | (go_at_call 42; refine (spec_scPlainSign.calls _ _ cap rs _ false _ _ (Reads.kd (by repeat (first | exact HR.out | apply rd_n)) (by omega)) HC.out HPS.out).mono ?_; rintro e w' ⟨rfl, m, rfl⟩)
                        | (go_at_call 34; refine (spec_scAll.calls _ _ cap rs true true _ (Reads.kd (by repeat (first | exact HR.out | apply rd_n)) (by omega)) HC.out HA.out).mono ?_; rintro e w' ⟨rfl, m, rfl⟩)
                        | (go_at_call 36; refine (spec_scApart.calls _ _ cap rs true _ (Reads.kd (by repeat (first | exact HR.out | apply rd_n)) (by omega)) HC.out HP.out).mono ?_; rintro e w' ⟨rfl, m, rfl⟩))
                    go_ret
                    exact ⟨by rw [hm]; rfl, by repeat (first | exact B1.out | apply pw_below_drewN)⟩
              · obtain rfl : k = rs.length := by omega
                have hm : mp rs = true := by
                  rw [hmp.out, List.all_eq_true]
                  intro j hj
                  rw [HK.out.2 j (List.mem_range.1 hj)]
                  rfl
                go_wp2_with (first
                    | (go_at_call 35; refine (key_c _).mono ?_; rintro e w' ⟨rfl, m, rfl⟩)
                    | (go_at_call 40; refine (flow_c _).mono ?_; rintro e w' ⟨rfl, m, rfl⟩)
                    | (go_at_call 37; refine (wh_c _ _).mono ?_; rintro e w' ⟨rfl, m, rfl⟩)
                    | (go_at_call 39; refine (ind_c _ _).mono ?_; rintro e w' ⟨rfl, m, rfl⟩)
                    | (go_at_call 38; refine (mark_walk g cap rs _ (by repeat (first | exact HR.out | apply rd_n)) HC.out (by omega)).mono ?_; rintro e w' ⟨rfl, m, rfl⟩)
                    | (go_at_call 42; refine (spec_scPlainSign.calls _ _ cap rs _ false _ _ (Reads.kd (by repeat (first | exact HR.out | apply rd_n)) (by omega)) HC.out HPS.out).mono ?_; rintro e w' ⟨rfl, m, rfl⟩)
                    | (go_at_call 34; refine (spec_scAll.calls _ _ cap rs true true _ (Reads.kd (by repeat (first | exact HR.out | apply rd_n)) (by omega)) HC.out HA.out).mono ?_; rintro e w' ⟨rfl, m, rfl⟩)
                    | (go_at_call 36; refine (spec_scApart.calls _ _ cap rs true _ (Reads.kd (by repeat (first | exact HR.out | apply rd_n)) (by omega)) HC.out HP.out).mono ?_; rintro e w' ⟨rfl, m, rfl⟩))
                go_ret
                exact ⟨by rw [hm]; rfl, by repeat (first | exact B1.out | apply pw_below_drewN)⟩
    · have q1 : (r0 != 45) = true := bne_iff_ne.mpr fun h => hset (.inl h)
      have q2 : (r0 != 63) = true := bne_iff_ne.mpr fun h => hset (.inr (.inl h))
      have q3 : (r0 != 58) = true := bne_iff_ne.mpr fun h => hset (.inr (.inr h))
      have hm : mp rs = false := by
        have hb : bad1 rs = true := by
          unfold bad1
          rw [← hr0.out]
          simp only [not_or] at hset
          simp [hset.1, hset.2.1, hset.2.2]
        unfold mp; rw [← hr0.out, hb]; simp [hind]
      clear hset
      go_wp2_with (first
          | (go_at_call 35; refine (key_c _).mono ?_; rintro e w' ⟨rfl, m, rfl⟩)
          | (go_at_call 40; refine (flow_c _).mono ?_; rintro e w' ⟨rfl, m, rfl⟩)
          | (go_at_call 37; refine (wh_c _ _).mono ?_; rintro e w' ⟨rfl, m, rfl⟩)
          | (go_at_call 39; refine (ind_c _ _).mono ?_; rintro e w' ⟨rfl, m, rfl⟩)
          | (go_at_call 38; refine (mark_walk g cap rs _ (by repeat (first | exact HR.out | apply rd_n)) HC.out (by omega)).mono ?_; rintro e w' ⟨rfl, m, rfl⟩)
          | (go_at_call 42; refine (spec_scPlainSign.calls _ _ cap rs _ false _ _ (Reads.kd (by repeat (first | exact HR.out | apply rd_n)) (by omega)) HC.out HPS.out).mono ?_; rintro e w' ⟨rfl, m, rfl⟩)
          | (go_at_call 34; refine (spec_scAll.calls _ _ cap rs true true _ (Reads.kd (by repeat (first | exact HR.out | apply rd_n)) (by omega)) HC.out HA.out).mono ?_; rintro e w' ⟨rfl, m, rfl⟩)
          | (go_at_call 36; refine (spec_scApart.calls _ _ cap rs true _ (Reads.kd (by repeat (first | exact HR.out | apply rd_n)) (by omega)) HC.out HP.out).mono ?_; rintro e w' ⟨rfl, m, rfl⟩))
      go_ret
      exact ⟨by rw [hm]; rfl, by repeat (first | exact B1.out | apply pw_below_drewN)⟩
  · replace hind : ind r0 = false := by simpa using hind
    have hmp : mp rs = (List.range rs.length).all fun i => !stops rs i := by unfold mp; rw [← hr0.out, ← hrl.out, hw0, hwl, hmk, hind] <;> rfl
    have hst : ∀ j, stops rs j = ((decide (0 < j) || !false) && !psn rs j) := fun j => by unfold stops; rw [← hr0.out, hind]
    replace hst := Aside0.mk hst
    replace hmp := Aside0.mk hmp
    go_wp2_with (first
        | (go_at_call 35; refine (key_c _).mono ?_; rintro e w' ⟨rfl, m, rfl⟩)
        | (go_at_call 40; refine (flow_c _).mono ?_; rintro e w' ⟨rfl, m, rfl⟩)
        | (go_at_call 37; refine (wh_c _ _).mono ?_; rintro e w' ⟨rfl, m, rfl⟩)
        | (go_at_call 39; refine (ind_c _ _).mono ?_; rintro e w' ⟨rfl, m, rfl⟩)
        | (go_at_call 38; refine (mark_walk g cap rs _ (by repeat (first | exact HR.out | apply rd_n)) HC.out (by omega)).mono ?_; rintro e w' ⟨rfl, m, rfl⟩)
        | (go_at_call 42; refine (spec_scPlainSign.calls _ _ cap rs _ false _ _ (Reads.kd (by repeat (first | exact HR.out | apply rd_n)) (by omega)) HC.out HPS.out).mono ?_; rintro e w' ⟨rfl, m, rfl⟩)
        | (go_at_call 34; refine (spec_scAll.calls _ _ cap rs true true _ (Reads.kd (by repeat (first | exact HR.out | apply rd_n)) (by omega)) HC.out HA.out).mono ?_; rintro e w' ⟨rfl, m, rfl⟩)
        | (go_at_call 36; refine (spec_scApart.calls _ _ cap rs true _ (Reads.kd (by repeat (first | exact HR.out | apply rd_n)) (by omega)) HC.out HP.out).mono ?_; rintro e w' ⟨rfl, m, rfl⟩))
    go_loopg [106] rs.length (fun kq v106 w' => ∃ k : Nat, k ≤ rs.length ∧ v106 = .int .i64 k ∧ Aside0 (kq + k = rs.length ∧ ∀ j, j < k → stops rs j = false) ∧ ∃ m, w' = w1.drewN m)
    case atStart => exact ⟨0, by omega, rfl, ⟨by omega, fun j hj => absurd hj (Nat.not_lt_zero j)⟩, _, rfl⟩
    case round =>
      obtain ⟨k, hk, rfl, HK, m0, rfl⟩ := hrel
      by_cases hkn : k < rs.length
      · have HPS := Aside0.mk (ps_f rs k hkn (by omega))
        by_cases hk0 : k = 0
        · subst hk0
          by_cases hp : psn rs 0 = true
          · have hs0 : stops rs 0 = false := by rw [hst.out 0, hp]; simp
            go_wp2_with (first
                | (go_at_call 35; refine (key_c _).mono ?_; rintro e w' ⟨rfl, m, rfl⟩)
                | (go_at_call 40; refine (flow_c _).mono ?_; rintro e w' ⟨rfl, m, rfl⟩)
                | (go_at_call 37; refine (wh_c _ _).mono ?_; rintro e w' ⟨rfl, m, rfl⟩)
                | (go_at_call 39; refine (ind_c _ _).mono ?_; rintro e w' ⟨rfl, m, rfl⟩)
                | (go_at_call 38; refine (mark_walk g cap rs _ (by repeat (first | exact HR.out | apply rd_n)) HC.out (by omega)).mono ?_; rintro e w' ⟨rfl, m, rfl⟩)
                | (go_at_call 42; refine (spec_scPlainSign.calls _ _ cap rs _ false _ _ (Reads.kd (by repeat (first | exact HR.out | apply rd_n)) (by omega)) HC.out HPS.out).mono ?_; rintro e w' ⟨rfl, m, rfl⟩)
                | (go_at_call 34; refine (spec_scAll.calls _ _ cap rs true true _ (Reads.kd (by repeat (first | exact HR.out | apply rd_n)) (by omega)) HC.out HA.out).mono ?_; rintro e w' ⟨rfl, m, rfl⟩)
                | (go_at_call 36; refine (spec_scApart.calls _ _ cap rs true _ (Reads.kd (by repeat (first | exact HR.out | apply rd_n)) (by omega)) HC.out HP.out).mono ?_; rintro e w' ⟨rfl, m, rfl⟩))
            go_roundg (gk - 1)
            case measure => have := HK.out.1; omega
            case rel => exact ⟨0 + 1, by omega, by go_num, ⟨by have := HK.out.1; omega, fun j hj => (Nat.lt_succ_iff_lt_or_eq.1 hj).elim (HK.out.2 j) (fun e => by rw [e]; exact hs0)⟩, _, rfl⟩
          · replace hp : psn rs 0 = false := by simpa using hp
            have hm : mp rs = false := by
              rw [hmp.out, Bool.eq_false_iff]
              intro hall
              have h1 := List.all_eq_true.1 hall 0 (List.mem_range.2 hkn)
              rw [hst.out 0, hp] at h1
              simp at h1
            go_wp2_with (first
                | (go_at_call 35; refine (key_c _).mono ?_; rintro e w' ⟨rfl, m, rfl⟩)
                | (go_at_call 40; refine (flow_c _).mono ?_; rintro e w' ⟨rfl, m, rfl⟩)
                | (go_at_call 37; refine (wh_c _ _).mono ?_; rintro e w' ⟨rfl, m, rfl⟩)
                | (go_at_call 39; refine (ind_c _ _).mono ?_; rintro e w' ⟨rfl, m, rfl⟩)
                | (go_at_call 38; refine (mark_walk g cap rs _ (by repeat (first | exact HR.out | apply rd_n)) HC.out (by omega)).mono ?_; rintro e w' ⟨rfl, m, rfl⟩)
                | (go_at_call 42; refine (spec_scPlainSign.calls _ _ cap rs _ false _ _ (Reads.kd (by repeat (first | exact HR.out | apply rd_n)) (by omega)) HC.out HPS.out).mono ?_; rintro e w' ⟨rfl, m, rfl⟩)
                | (go_at_call 34; refine (spec_scAll.calls _ _ cap rs true true _ (Reads.kd (by repeat (first | exact HR.out | apply rd_n)) (by omega)) HC.out HA.out).mono ?_; rintro e w' ⟨rfl, m, rfl⟩)
                | (go_at_call 36; refine (spec_scApart.calls _ _ cap rs true _ (Reads.kd (by repeat (first | exact HR.out | apply rd_n)) (by omega)) HC.out HP.out).mono ?_; rintro e w' ⟨rfl, m, rfl⟩))
            go_ret
            exact ⟨by rw [hm]; rfl, by repeat (first | exact B1.out | apply pw_below_drewN)⟩
        · have hk1 : 0 < k := by omega
          by_cases hp : psn rs k = true
          · have hs0 : stops rs k = false := by rw [hst.out k, hp]; simp
            go_wp2_with (first
                | (go_at_call 35; refine (key_c _).mono ?_; rintro e w' ⟨rfl, m, rfl⟩)
                | (go_at_call 40; refine (flow_c _).mono ?_; rintro e w' ⟨rfl, m, rfl⟩)
                | (go_at_call 37; refine (wh_c _ _).mono ?_; rintro e w' ⟨rfl, m, rfl⟩)
                | (go_at_call 39; refine (ind_c _ _).mono ?_; rintro e w' ⟨rfl, m, rfl⟩)
                | (go_at_call 38; refine (mark_walk g cap rs _ (by repeat (first | exact HR.out | apply rd_n)) HC.out (by omega)).mono ?_; rintro e w' ⟨rfl, m, rfl⟩)
                | (go_at_call 42; refine (spec_scPlainSign.calls _ _ cap rs _ false _ _ (Reads.kd (by repeat (first | exact HR.out | apply rd_n)) (by omega)) HC.out HPS.out).mono ?_; rintro e w' ⟨rfl, m, rfl⟩)
                | (go_at_call 34; refine (spec_scAll.calls _ _ cap rs true true _ (Reads.kd (by repeat (first | exact HR.out | apply rd_n)) (by omega)) HC.out HA.out).mono ?_; rintro e w' ⟨rfl, m, rfl⟩)
                | (go_at_call 36; refine (spec_scApart.calls _ _ cap rs true _ (Reads.kd (by repeat (first | exact HR.out | apply rd_n)) (by omega)) HC.out HP.out).mono ?_; rintro e w' ⟨rfl, m, rfl⟩))
            go_roundg (gk - 1)
            case measure => have := HK.out.1; omega
            case rel => exact ⟨k + 1, by omega, by go_num, ⟨by have := HK.out.1; omega, fun j hj => (Nat.lt_succ_iff_lt_or_eq.1 hj).elim (HK.out.2 j) (fun e => by rw [e]; exact hs0)⟩, _, rfl⟩
          · replace hp : psn rs k = false := by simpa using hp
            have hm : mp rs = false := by
              rw [hmp.out, Bool.eq_false_iff]
              intro hall
              have h1 := List.all_eq_true.1 hall k (List.mem_range.2 hkn)
              rw [hst.out k, hp] at h1
              simp [hk1] at h1
            go_wp2_with (first
                | (go_at_call 35; refine (key_c _).mono ?_; rintro e w' ⟨rfl, m, rfl⟩)
                | (go_at_call 40; refine (flow_c _).mono ?_; rintro e w' ⟨rfl, m, rfl⟩)
                | (go_at_call 37; refine (wh_c _ _).mono ?_; rintro e w' ⟨rfl, m, rfl⟩)
                | (go_at_call 39; refine (ind_c _ _).mono ?_; rintro e w' ⟨rfl, m, rfl⟩)
                | (go_at_call 38; refine (mark_walk g cap rs _ (by repeat (first | exact HR.out | apply rd_n)) HC.out (by omega)).mono ?_; rintro e w' ⟨rfl, m, rfl⟩)
                | (go_at_call 42; refine (spec_scPlainSign.calls _ _ cap rs _ false _ _ (Reads.kd (by repeat (first | exact HR.out | apply rd_n)) (by omega)) HC.out HPS.out).mono ?_; rintro e w' ⟨rfl, m, rfl⟩)
                | (go_at_call 34; refine (spec_scAll.calls _ _ cap rs true true _ (Reads.kd (by repeat (first | exact HR.out | apply rd_n)) (by omega)) HC.out HA.out).mono ?_; rintro e w' ⟨rfl, m, rfl⟩)
                | (go_at_call 36; refine (spec_scApart.calls _ _ cap rs true _ (Reads.kd (by repeat (first | exact HR.out | apply rd_n)) (by omega)) HC.out HP.out).mono ?_; rintro e w' ⟨rfl, m, rfl⟩))
            go_ret
            exact ⟨by rw [hm]; rfl, by repeat (first | exact B1.out | apply pw_below_drewN)⟩
      · obtain rfl : k = rs.length := by omega
        have hm : mp rs = true := by
          rw [hmp.out, List.all_eq_true]
          intro j hj
          rw [HK.out.2 j (List.mem_range.1 hj)]
          rfl
        go_wp2_with (first
            | (go_at_call 35; refine (key_c _).mono ?_; rintro e w' ⟨rfl, m, rfl⟩)
            | (go_at_call 40; refine (flow_c _).mono ?_; rintro e w' ⟨rfl, m, rfl⟩)
            | (go_at_call 37; refine (wh_c _ _).mono ?_; rintro e w' ⟨rfl, m, rfl⟩)
            | (go_at_call 39; refine (ind_c _ _).mono ?_; rintro e w' ⟨rfl, m, rfl⟩)
            | (go_at_call 38; refine (mark_walk g cap rs _ (by repeat (first | exact HR.out | apply rd_n)) HC.out (by omega)).mono ?_; rintro e w' ⟨rfl, m, rfl⟩)
            | (go_at_call 42; refine (spec_scPlainSign.calls _ _ cap rs _ false _ _ (Reads.kd (by repeat (first | exact HR.out | apply rd_n)) (by omega)) HC.out HPS.out).mono ?_; rintro e w' ⟨rfl, m, rfl⟩)
            | (go_at_call 34; refine (spec_scAll.calls _ _ cap rs true true _ (Reads.kd (by repeat (first | exact HR.out | apply rd_n)) (by omega)) HC.out HA.out).mono ?_; rintro e w' ⟨rfl, m, rfl⟩)
            | (go_at_call 36; refine (spec_scApart.calls _ _ cap rs true _ (Reads.kd (by repeat (first | exact HR.out | apply rd_n)) (by omega)) HC.out HP.out).mono ?_; rintro e w' ⟨rfl, m, rfl⟩))
        go_ret
        exact ⟨by rw [hm]; rfl, by repeat (first | exact B1.out | apply pw_below_drewN)⟩

end Go.Proofs.YtlkbhmmelejmjaaGreatDoor.QMay

/- IsNeedQuoted at a line. -/
namespace Go.Proofs.YtlkbhmmelejmjaaGreatDoor.QNeed
open Go.RowKit Go.Proofs.YtlkbhmmelejmjaaGreatDoorW.PrintWords Go.Proofs.YtlkbhmmelejmjaaGreatDoor.Utf Go.Proofs.YtlkbhmmelejmjaaGreatDoor.QEnc Go.Proofs.YtlkbhmmelejmjaaGreatDoor.Runes Go.Proofs.YtlkbhmmelejmjaaGreatDoor.QMay Go.Proofs.YtlkbhmmelejmjaaGreatDoor.NumErr Go.Proofs.YtlkbhmmelejmjaaGreatDoor.NumAny Go.Proofs.YtlkbhmmelejmjaaGreatDoor.NumAll Go.Proofs.YtlkbhmmelejmjaaGreatDoor.NumIs Go.Proofs.YtlkbhmmelejmjaaGreatDoor.FltAtof
set_option linter.unusedVariables false
set_option linter.unusedSimpArgs false
attribute [local go_sem ↓] Go.wp_at_zero Go.wp_at_succ

def words10 : List (List UInt8) := [[110, 117, 108, 108], [78, 117, 108, 108], [78, 85, 76, 76], [126], [116, 114, 117, 101], [84, 114, 117, 101], [84, 82, 85, 69], [102, 97, 108, 115, 101], [70, 97, 108, 115, 101], [70, 65, 76, 83, 69]]
def EncP (s : ByteArray) (w : World) (e : Ending) (w' : World) : Prop := w = w' ∧ ∃ b, e = .returned (.bool b) ∧ (s.toList ∈ words10 → b = true)
set_option maxHeartbeats 4000000 in
set_option maxRecDepth 100000 in
theorem enc_any (s : ByteArray) (w : World) : Calls Tryz.prog 82 #[.string s] w (EncP s w) := by
  by_cases hw : s.toList ∈ words10
  · have yes : ∀ e w', (w = w' ∧ e = .returned (.bool true)) → EncP s w e w' := fun e w' h => ⟨h.1, true, h.2, fun _ => rfl⟩
    refine Calls.mono ?_ yes
    clear yes
    simp only [words10, List.mem_cons, List.not_mem_nil, or_false] at hw
    rcases hw with hw | hw | hw | hw | hw | hw | hw | hw | hw | hw
    all_goals
      go_enter Tryz.func82, Tryz.ntmps82
      go_wp2
      go_ret
      exact ⟨rfl, rfl⟩
  · have yes : ∀ e w', (w = w' ∧ ∃ b, e = .returned (.bool b)) → EncP s w e w' := fun e w' ⟨h1, b, h2⟩ => ⟨h1, b, h2, fun h => absurd h hw⟩
    refine Calls.mono ?_ yes
    clear yes hw
    go_enter Tryz.func82, Tryz.ntmps82
    go_wp2
    all_goals
      go_ret
      exact ⟨rfl, _, rfl⟩
def firsts : List Nat := [42, 38, 91, 123, 125, 93, 44, 33, 124, 62, 37, 39, 34, 64, 32, 96]
/-- What a string that needs no quotes is: its first and last sign, and those within. -/
def Fact (rs : List Int) : Prop := rs ≠ [45] ∧ (∀ c ∈ firsts, rs.getD 0 0 ≠ (c : Int)) ∧ rs.getD (rs.length - 1) 0 ≠ 58 ∧ rs.getD (rs.length - 1) 0 ≠ 32 ∧ ∀ k, k < rs.length → rs.getD k 0 ≠ 35 ∧ rs.getD k 0 ≠ 92 ∧ (rs.getD k 0 = 58 ∨ rs.getD k 0 = 45 → k + 1 < rs.length → rs.getD (k + 1) 0 ≠ 32)
def NeP (s : ByteArray) (rs : List Int) (r : Nr) (w : World) (e : Ending) (w' : World) : Prop := Below w.heap.size w w' ∧ ∃ b, e = .returned (.bool b) ∧ (s.toList ∈ words10 ∨ Isnum r ∨ ¬ Fact rs → b = true)
theorem byte_at {s : ByteArray} {i : Nat} {b : UInt8} (h : (B s)[i]? = some b) (hi : i < s.size) : s[i] = b := by
  have hl : i < (B s).length := by rw [B_length]; exact hi
  rw [List.getElem?_eq_getElem hl] at h
  exact Option.some.inj h

set_option maxHeartbeats 8000000 in
set_option maxRecDepth 100000 in
theorem need_walk (s : ByteArray) (rs : List Int) (r : Nr) (w : World) (hs : s.size ≤ 65536) (hsc : ∀ x ∈ rs, Scalar x) (he : B s = enc rs) (hne : rs ≠ []) (C : Calls Tryz.prog 83 #[.string s] w (IsP r w)) : Calls Tryz.prog 43 #[.string s] w (NeP s rs r w) := by
  have hlen := (enc_length rs).1
  rw [← he, B_length] at hlen
  have hn0 : 0 < rs.length := List.length_pos_iff.2 hne
  have hsz : 0 < s.size := by omega
  have hemp : s.toList.isEmpty = false := by
    rw [Lib.toList_data]
    cases hB : s.data.toList with
    | nil =>
      have := B_length s
      rw [show B s = s.data.toList from rfl, hB] at this
      simp at this
      omega
    | cons a t => rfl
  -- the first byte
  obtain ⟨x0, rt, hrs⟩ : ∃ x0 rt, rs = x0 :: rt := by
    cases rs with
    | nil => exact absurd rfl hne
    | cons a t => exact ⟨a, t, rfl⟩
  obtain ⟨b0, t0, hb0, hf0⟩ := first_is (rs := rt) (hsc x0 (by rw [hrs]; exact List.mem_cons_self))
  have hB0 : s[0] = b0 := byte_at (by rw [he, hrs, hb0]; rfl) hsz
  obtain ⟨bl, hbl, hfl⟩ := last_is hne hsc
  have hBl : s[s.size - 1]'(by omega) = bl := byte_at (by rw [he, ← hbl, List.getLast?_eq_getElem?, ← he, B_length]) (by omega)
  have F0 : ∀ c : Nat, c < 128 → (b0.toNat = c ↔ rs.getD 0 0 = (c : Int)) := fun c hc => by rw [hrs]; exact hf0 c hc
  obtain ⟨v0, hv0⟩ : ∃ v : Int, v = (b0.toNat : Int) := ⟨_, rfl⟩
  obtain ⟨vl, hvl⟩ : ∃ v : Int, v = (bl.toNat : Int) := ⟨_, rfl⟩
  have y0 : ∀ h, ((s[0]'h).toNat : Int) = v0 := fun h => by rw [hv0, ← hB0]
  have yl : ∀ h, ((s[s.size - 1]'h).toNat : Int) = vl := fun h => by rw [hvl, ← hBl]
  have F0' := Aside0.mk F0
  have FL' := Aside0.mk hfl
  have HV0 := Aside0.mk hv0
  have HVL := Aside0.mk hvl
  have HE := Aside0.mk he
  have HS := Aside0.mk hsc
  have HC := Aside0.mk C
  clear hf0 hb0 hB0 hbl hfl hBl F0 hv0 hvl hrs C he hsc
  go_enter Tryz.func43, Tryz.ntmps43
  go_wp2_with fail
  refine (enc_any s _).mono ?_
  rintro e w0 ⟨rfl, b, rfl, hb⟩
  cases b
  case true =>
    clear hb
    go_wp2_with fail
    go_ret
    exact ⟨Below.refl _ _, true, rfl, fun _ => rfl⟩
  have HW := Aside0.mk (show ¬ s.toList ∈ words10 from fun h => absurd (hb h) (by decide))
  clear hb
  go_wp2_with fail
  refine HC.out.mono ?_
  rintro e w1 ⟨b1, b, rfl, hb⟩
  have B1 := Aside0.mk b1
  cases b
  case true =>
    clear hb b1
    go_wp2_with fail
    go_ret
    exact ⟨B1.out, true, rfl, fun _ => rfl⟩
  have HN := Aside0.mk (show ¬ Isnum r from fun h => absurd (hb h) (by decide))
  clear hb b1
  by_cases hd : (s.toList == [45]) = true
  · go_wp2_with fail
    go_ret
    exact ⟨B1.out, true, rfl, fun _ => rfl⟩
  replace hd : (s.toList == [45]) = false := by simpa using hd
  by_cases hfst : v0 ∈ firsts.map (fun c : Nat => (c : Int))
  · simp only [firsts, List.map_cons, List.map_nil, List.mem_cons, List.not_mem_nil, or_false] at hfst
    rcases hfst with rfl | rfl | rfl | rfl | rfl | rfl | rfl | rfl | rfl | rfl | rfl | rfl | rfl | rfl | rfl | rfl
    all_goals
      go_wp2_with fail
      go_ret
      exact ⟨B1.out, true, rfl, fun _ => rfl⟩
  have HF := Aside0.mk hfst
  simp only [firsts, List.map_cons, List.map_nil, List.mem_cons, List.not_mem_nil, or_false, not_or] at hfst
  obtain ⟨f42, f38, f91, f123, f125, f93, f44, f33, f124, f62, f37, f39, f34, f64, f32, f96⟩ := hfst
  replace f42 : (v0 == 42) = false := beq_eq_false_iff_ne.mpr f42
  replace f38 : (v0 == 38) = false := beq_eq_false_iff_ne.mpr f38
  replace f91 : (v0 == 91) = false := beq_eq_false_iff_ne.mpr f91
  replace f123 : (v0 == 123) = false := beq_eq_false_iff_ne.mpr f123
  replace f125 : (v0 == 125) = false := beq_eq_false_iff_ne.mpr f125
  replace f93 : (v0 == 93) = false := beq_eq_false_iff_ne.mpr f93
  replace f44 : (v0 == 44) = false := beq_eq_false_iff_ne.mpr f44
  replace f33 : (v0 == 33) = false := beq_eq_false_iff_ne.mpr f33
  replace f124 : (v0 == 124) = false := beq_eq_false_iff_ne.mpr f124
  replace f62 : (v0 == 62) = false := beq_eq_false_iff_ne.mpr f62
  replace f37 : (v0 == 37) = false := beq_eq_false_iff_ne.mpr f37
  replace f39 : (v0 == 39) = false := beq_eq_false_iff_ne.mpr f39
  replace f34 : (v0 == 34) = false := beq_eq_false_iff_ne.mpr f34
  replace f64 : (v0 == 64) = false := beq_eq_false_iff_ne.mpr f64
  replace f32 : (v0 == 32) = false := beq_eq_false_iff_ne.mpr f32
  replace f96 : (v0 == 96) = false := beq_eq_false_iff_ne.mpr f96
  by_cases hl58 : vl = 58
  · subst hl58
    go_wp2_with fail
    go_ret
    exact ⟨B1.out, true, rfl, fun _ => rfl⟩
  by_cases hl32 : vl = 32
  · subst hl32
    go_wp2_with fail
    go_ret
    exact ⟨B1.out, true, rfl, fun _ => rfl⟩
  have ql58 : (vl == 58) = false := beq_eq_false_iff_ne.mpr hl58
  have ql32 : (vl == 32) = false := beq_eq_false_iff_ne.mpr hl32
  have HL58 := Aside0.mk hl58
  have HL32 := Aside0.mk hl32
  clear hl58 hl32
  go_wp2_with fail
  go_loopg [46] rs.length (fun kq v46 w' => ∃ k : Nat, k ≤ rs.length ∧ w' = w1.iter s (enc (rs.take k)).length ∧ Aside0 (kq + k = rs.length ∧ ∀ j, j < k → rs.getD j 0 ≠ 35 ∧ rs.getD j 0 ≠ 92 ∧ (rs.getD j 0 = 58 ∨ rs.getD j 0 = 45 → j + 1 < rs.length → rs.getD (j + 1) 0 ≠ 32)))
  case atStart => exact ⟨0, by omega, rfl, ⟨by omega, fun j hj => absurd hj (Nat.not_lt_zero j)⟩⟩
  case round =>
    obtain ⟨k, hk, rfl, HK⟩ := hrel
    by_cases hkn : k < rs.length
    · obtain ⟨pre, hpre⟩ : ∃ p, p = rs.take k := ⟨_, rfl⟩
      obtain ⟨post, hpost⟩ : ∃ p, p = rs.drop (k + 1) := ⟨_, rfl⟩
      obtain ⟨c, hc⟩ : ∃ c, c = rs.getD k 0 := ⟨_, rfl⟩
      have hck : rs[k]'hkn = c := by rw [hc, List.getD_eq_getElem?_getD, List.getElem?_eq_getElem hkn]; rfl
      have hsp : rs = pre ++ c :: post := by
        rw [hpre, hpost, ← hck, List.getElem_cons_drop, List.take_append_drop]
      have hpl : pre.length = k := by rw [hpre, List.length_take]; omega
      have hcs : Scalar c := HS.out c (by rw [hsp]; simp)
      have hBp : (B s).drop (enc pre).length = Lib.encodeRune c ++ enc post := by
        rw [HE.out, hsp, enc_append, enc_cons, List.drop_left]
      have hel := encodeRune_length c
      have hpos : (enc pre).length < s.size := by
        have := congrArg List.length hBp
        rw [List.length_drop, B_length, List.length_append] at this
        omega
      have hdec : Utf8.decode s (enc pre).length = (c.toNat, (Lib.encodeRune c).length) := by
        rw [decode_drop, hBp]; exact decode_encode c hcs _
      have hnext : (enc pre).length + (Lib.encodeRune c).length = (enc (rs.take (k + 1))).length := by
        have : rs.take (k + 1) = pre ++ [c] := by
          rw [hpre, ← hck, List.take_append_getElem]
        rw [this, enc_append, enc_cons, enc_nil, List.append_nil, List.length_append]
      have hci : ((c.toNat : Nat) : Int) = c := Int.toNat_of_nonneg hcs.1
      have hnx : ∀ ty, (Instr.next (.pointer (some ⟨w1.heap.size, 0, none⟩)) true ty).run Tryz.prog (w1.iter s (enc pre).length) = .ok (.tuple #[.bool true, .int .i64 (enc pre).length, .int .i32 c]) (w1.iter s (enc (rs.take (k + 1))).length) := fun ty => by
        rw [run_next_any w1 s _ ty hpos, hdec, hci, hnext]
      rw [← hpre]
      have hpo : post.getD 0 0 = rs.getD (k + 1) 0 := by rw [hpost]; simp [List.getD]
      have hpn : post = [] ↔ ¬ k + 1 < rs.length := by rw [hpost, List.drop_eq_nil_iff]; omega
      have NX : Aside0 (0 ≤ c → c ≤ 127 → (post = [] ∧ s.size = (enc pre).length + 1) ∨ ∃ b, (B s)[(enc pre).length + 1]? = some b ∧ post ≠ [] ∧ ∀ x : Nat, x < 128 → (b.toNat = x ↔ post.getD 0 0 = (x : Int))) := ⟨fun h0 h1 => by
        have := next_is (pre := pre) (post := post) (r := c) (by rw [← hsp]; exact HS.out) h0 h1
        rw [← hsp, ← HE.out, B_length] at this
        exact this⟩
      have HC0 := Aside0.mk hc
      have HPO := Aside0.mk hpo
      have HPN := Aside0.mk hpn
      obtain ⟨pos, hpo2⟩ : ∃ q, q = (enc pre).length := ⟨_, rfl⟩
      simp only [← hpo2] at hnx NX hpos ⊢
      clear hpre hpost hck hsp hpl hBp hel hdec hnext hci hpo hpn hcs hc hpo2
      have yes : Below w.heap.size w (w1.iter s (enc (rs.take (k + 1))).length) := B1.out.alloc B1.out.size _
      have YES := Aside0.mk yes
      clear yes
      by_cases h35 : c = 35
      · subst h35
        go_wp2_with fail
        go_ret
        exact ⟨YES.out, true, rfl, fun _ => rfl⟩
      by_cases h92 : c = 92
      · subst h92
        go_wp2_with fail
        go_ret
        exact ⟨YES.out, true, rfl, fun _ => rfl⟩
      have q35 : (c == 35) = false := beq_eq_false_iff_ne.mpr h35
      have q92 : (c == 92) = false := beq_eq_false_iff_ne.mpr h92
      have H35 := Aside0.mk h35
      have H92 := Aside0.mk h92
      clear h35 h92
      by_cases hsg : c = 58 ∨ c = 45
      · have hq : (c == 58) = true ∨ ((c == 58) = false ∧ (c == 45) = true) := by
          rcases hsg with h | h
          · exact .inl (by rw [h]; rfl)
          · exact .inr ⟨by rw [h]; rfl, by rw [h]; rfl⟩
        have nx := NX.out (by omega) (by omega)
        clear hsg
        rcases nx with ⟨hp, hsz1⟩ | ⟨b, hb, hp, hbx⟩
        · have HOK : Aside0 (rs.getD k 0 ≠ 35 ∧ rs.getD k 0 ≠ 92 ∧ (rs.getD k 0 = 58 ∨ rs.getD k 0 = 45 → k + 1 < rs.length → rs.getD (k + 1) 0 ≠ 32)) := ⟨by rw [← HC0.out]; exact H35.out, by rw [← HC0.out]; exact H92.out, fun _ h => absurd h (HPN.out.1 hp)⟩
          have d1 : decide (((pos + 1 : Nat) : Int) < (s.size : Int)) = false := decide_eq_false (by omega)
          have d2 : decide ((pos : Int) + 1 < (s.size : Int)) = false := decide_eq_false (by omega)
          clear hp
          rcases hq with q | ⟨q, q'⟩
          all_goals
            go_wp2_with fail
            go_roundg (gk - 1)
            case measure => have := HK.out.1; omega
            case rel => exact ⟨k + 1, by omega, rfl, ⟨by have := HK.out.1; omega, fun j hj => (Nat.lt_succ_iff_lt_or_eq.1 hj).elim (HK.out.2 j) (fun e => by rw [e]; exact HOK.out)⟩⟩
        · have hp1 : pos + 1 < s.size := by
            have := (List.getElem?_eq_some_iff.1 hb).1
            rw [B_length] at this
            exact this
          have hby := byte_at hb hp1
          have hk1 : k + 1 < rs.length := Nat.lt_of_not_le fun h => hp (HPN.out.2 (by omega))
          have d1 : decide (((pos + 1 : Nat) : Int) < (s.size : Int)) = true := decide_eq_true (by omega)
          have d2 : decide ((pos : Int) + 1 < (s.size : Int)) = true := decide_eq_true (by omega)
          obtain ⟨vb, hvb⟩ : ∃ v : Int, v = (b.toNat : Int) := ⟨_, rfl⟩
          have yb : ∀ h, ((s[pos + 1]'h).toNat : Int) = vb := fun h => by rw [hvb, ← hby]
          have hb32 := hbx 32 (by omega)
          rw [HPO.out] at hb32
          have HV : Aside0 (vb = 32 ↔ rs.getD (k + 1) 0 = 32) := ⟨by rw [hvb]; constructor; exact fun h => hb32.1 (by omega); exact fun h => by have := hb32.2 h; omega⟩
          clear hb hbx hby hvb hb32 hp
          by_cases h32 : vb = 32
          · subst h32
            rcases hq with q | ⟨q, q'⟩
            all_goals
              go_wp2_with fail
              go_ret
              exact ⟨YES.out, true, rfl, fun _ => rfl⟩
          · have q32 : (vb == 32) = false := beq_eq_false_iff_ne.mpr h32
            have HOK : Aside0 (rs.getD k 0 ≠ 35 ∧ rs.getD k 0 ≠ 92 ∧ (rs.getD k 0 = 58 ∨ rs.getD k 0 = 45 → k + 1 < rs.length → rs.getD (k + 1) 0 ≠ 32)) := ⟨by rw [← HC0.out]; exact H35.out, by rw [← HC0.out]; exact H92.out, fun _ _ h => h32 (HV.out.2 h)⟩
            clear h32
            rcases hq with q | ⟨q, q'⟩
            all_goals
              go_wp2_with fail
              go_roundg (gk - 1)
              case measure => have := HK.out.1; omega
              case rel => exact ⟨k + 1, by omega, rfl, ⟨by have := HK.out.1; omega, fun j hj => (Nat.lt_succ_iff_lt_or_eq.1 hj).elim (HK.out.2 j) (fun e => by rw [e]; exact HOK.out)⟩⟩
      · have q58 : (c == 58) = false := beq_eq_false_iff_ne.mpr fun h => hsg (.inl h)
        have q45 : (c == 45) = false := beq_eq_false_iff_ne.mpr fun h => hsg (.inr h)
        have HOK : Aside0 (rs.getD k 0 ≠ 35 ∧ rs.getD k 0 ≠ 92 ∧ (rs.getD k 0 = 58 ∨ rs.getD k 0 = 45 → k + 1 < rs.length → rs.getD (k + 1) 0 ≠ 32)) := ⟨by rw [← HC0.out]; exact H35.out, by rw [← HC0.out]; exact H92.out, fun h => absurd (by rw [HC0.out]; exact h) hsg⟩
        clear hsg
        go_wp2_with fail
        go_roundg (gk - 1)
        case measure => have := HK.out.1; omega
        case rel => exact ⟨k + 1, by omega, rfl, ⟨by have := HK.out.1; omega, fun j hj => (Nat.lt_succ_iff_lt_or_eq.1 hj).elim (HK.out.2 j) (fun e => by rw [e]; exact HOK.out)⟩⟩
    · obtain rfl : k = rs.length := by omega
      have hend : (enc (rs.take rs.length)).length = s.size := by rw [List.take_length, ← HE.out, B_length]
      rw [hend]
      have hnx : ∀ ty, (Instr.next (.pointer (some ⟨w1.heap.size, 0, none⟩)) true ty).run Tryz.prog (w1.iter s s.size) = _ := fun ty => run_next_end w1 s s.size ty (Nat.lt_irrefl _)
      clear hend
      have FIN : Aside0 (s.toList ∈ words10 ∨ Isnum r ∨ ¬ Fact rs → false = true) := ⟨fun h => by
        rcases h with h | h | h
        · exact absurd h HW.out
        · exact absurd h HN.out
        · refine absurd ⟨fun hx => ?_, fun c hc hx => ?_, fun hx => ?_, fun hx => ?_, HK.out.2⟩ h
          · have e := HE.out
            rw [hx] at e
            have : s.toList = [45] := by rw [Lib.toList_data]; exact e
            rw [this] at hd
            exact absurd hd (by decide)
          · refine HF.out (List.mem_map.2 ⟨c, hc, ?_⟩)
            rw [HV0.out]
            have hlt : c < 128 := by
              simp only [firsts, List.mem_cons, List.not_mem_nil, or_false] at hc
              omega
            rw [((F0'.out c hlt).2 hx)]
          · exact HL58.out (by rw [HVL.out, (FL'.out 58 (by omega)).2 hx]; rfl)
          · exact HL32.out (by rw [HVL.out, (FL'.out 32 (by omega)).2 hx]; rfl)⟩
      go_wp2_with fail
      go_ret
      exact ⟨B1.out.alloc B1.out.size _, false, rfl, FIN.out⟩
end Go.Proofs.YtlkbhmmelejmjaaGreatDoor.QNeed
