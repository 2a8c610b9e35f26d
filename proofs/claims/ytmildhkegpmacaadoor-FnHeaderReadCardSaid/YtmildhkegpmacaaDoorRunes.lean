/- The reference's own look at a text: scRunes, scAll, Row and Rows, at every text. The tables of package unicode/utf8 hold what they were laid with. -/
import Derived.Test.YtmildhkegpmacaaDoorUtf
import Derived.Test.YtmildhkegpmacaaDoorShelf
import Derived.Test.YtmildhkegpmacaaDoorPFnPartQuotesx1
import Derived.WalkKit
import Derived.Deep.LoopGhost
import Derived.Deep.QuietTactic
import Derived.BigQuiet
import Derived.WalkSpells
import Derived.WalkLawsBesides
namespace Go.Proofs.YtmildhkegpmacaaDoor.Runes
open Go.RowKit Go.Proofs.YtmildhkegpmacaaDoor.PFnPartQuotes Go.Proofs.YtmildhkegpmacaaDoorW.PrintWords Go.Proofs.YtmildhkegpmacaaDoor.Utf
set_option linter.unusedVariables false
set_option linter.unusedSimpArgs false

/-- The two tables. -/
def Tabs (w : World) : Prop := Lib.Utf8Tabs 3 4 w

theorem tabs_below {w w1 : World} (h : Tabs w) (hb : Below w.heap.size w w1) : Tabs w1 := Go.Proofs.Utf8Tabs_below h hb

theorem runes_size (s : ByteArray) : (Conv.runesFrom s s.size 0 #[]).size = (runes s s.size 0).length := by
  rw [runesFrom_eq]; simp

/-- A row of runes of the call's own: what is read of it. -/
def Reads (w : World) (g : Nat) (rs : List Int) : Prop := ∀ j, j < rs.length → w.cell? ⟨g, j, none⟩ = some (.int .i32 (rs.getD j 0))

theorem addr_add (g j : Nat) : Addr.add ⟨g, 0, none⟩ j = ⟨g, j, none⟩ := by
  cases j <;> simp [Addr.add]

theorem Reads.kd {w : World} {g : Nat} {rs : List Int} (h : Reads w g rs) (hl : rs.length ≤ 9223372036854775807) : Kd.C (Kd.int .i32) w (some ⟨g, 0, none⟩) rs.length rs :=
  Kd.C_of_reads (d := (0 : Int)) ⟨rfl, hl, fun _ => ⟨⟨g, 0, none⟩, rfl, fun j hj => by
    rw [addr_add]; exact h j hj⟩⟩

theorem Reads.below {w w1 : World} {g : Nat} {rs : List Int} (h : Reads w g rs) (hb : Below w.heap.size w w1) : Reads w1 g rs := fun j hj => pw_cell_below hb (h j hj)

theorem reads_new (s : ByteArray) (w : World) (rs : List Int) (hr : runes s s.size 0 = rs) (C : Array Value) (t : TypeId) :
    Reads (w.alloc (.cells (Conv.runesFrom s s.size 0 #[] ++ C) t)).drew w.heap.size rs := by
  subst hr
  intro j hj
  have h : (w.alloc (.cells (Conv.runesFrom s s.size 0 #[] ++ C) t)).cell? ⟨w.heap.size, j, none⟩ = (Conv.runesFrom s s.size 0 #[] ++ C)[j]? := World.cell?_alloc_mark w _ t _ j
  show (w.alloc _).cell? _ = _
  rw [h, runesFrom_eq, Array.getElem?_append_left (by simpa using hj)]
  simp [hj]

set_option maxHeartbeats 1000000 in
set_option maxRecDepth 100000 in
theorem scRunes_ok (s : ByteArray) (rs : List Int) (w : World) (hT : Tabs w) (hs : s.size ≤ 65536) (hsc : ∀ r ∈ rs, Scalar r) (he : B s = enc rs) :
    Calls Tryd.prog 34 #[.string s] w fun e w' => ∃ g cap : Nat, e = .returned (.tuple #[.slice (some ⟨g, 0, none⟩) rs.length cap, .bool true]) ∧ Reads w' g rs ∧ rs.length ≤ cap ∧ g < w'.heap.size ∧ w.heap.size ≤ g ∧ Below w.heap.size w w' := by
  have hv : Lib.validD s.data.toList = true := by rw [show s.data.toList = enc rs from he]; exact valid_of_enc rs hsc
  have CV := Aside0.mk (Tryd.utf8_ValidString s w (by omega) hT)
  rw [hv] at CV
  have hru := runes_of s rs hsc he
  have hl : rs.length ≤ 65536 := by have := runes_length s s.size 0; rw [hru] at this; omega
  have hrc := fun wx => run_runes_of_string (P := Tryd.prog) wx 9 57 21 s Tryd.underlying9 Tryd.underlying57 Tryd.underlying21 (by rw [runes_size, hru]; omega)
  rw [runes_size, hru] at hrc
  have HRC := Aside0.mk hrc
  have HRU := Aside0.mk hru
  clear hrc hru hv hsc he
  go_enter Tryd.func34, Tryd.ntmps34
  go_wp2_with fail
  refine CV.out.mono ?_
  rintro e w1 ⟨rfl, b1⟩
  have B1 := Aside0.mk b1
  clear b1
  have hrc := HRC.out w1
  go_wp2_with fail
  clear hrc
  go_ret2
  refine ⟨_, _, rfl, reads_new s w1 rs HRU.out _ _, grownCap_ge _ _ _ _, ?_, B1.out.size, ?_⟩
  · show _ < (w1.alloc _).heap.size
    simp
  · exact (B1.out.alloc B1.out.size _).drew

set_option maxHeartbeats 1000000 in
set_option maxRecDepth 100000 in
theorem scRunes_long (s : ByteArray) (w : World) (hs : 65536 < s.size) (hs2 : s.size ≤ 140737488351232) :
    Calls Tryd.prog 34 #[.string s] w fun e w' => e = .returned (.tuple #[.slice none 0 0, .bool false]) ∧ Below w.heap.size w w' := by
  go_enter Tryd.func34, Tryd.ntmps34
  go_wp2_with fail
  go_ret2
  exact ⟨rfl, Below.refl _ _⟩

set_option maxHeartbeats 1000000 in
set_option maxRecDepth 100000 in
theorem scRunes_bad (s : ByteArray) (w : World) (hT : Tabs w) (hs : s.size ≤ 65536) (hv : Lib.validD (B s) = false) :
    Calls Tryd.prog 34 #[.string s] w fun e w' => e = .returned (.tuple #[.slice none 0 0, .bool false]) ∧ Below w.heap.size w w' := by
  have CV := Aside0.mk (Tryd.utf8_ValidString s w (by omega) hT)
  rw [show Lib.validD s.data.toList = false from hv] at CV
  clear hv
  go_enter Tryd.func34, Tryd.ntmps34
  go_wp2_with fail
  refine CV.out.mono ?_
  rintro e w1 ⟨rfl, b1⟩
  have B1 := Aside0.mk b1
  clear b1
  go_wp2_with fail
  go_ret2
  exact ⟨rfl, B1.out⟩

/-! ### which characters may stand -/
def content (c : Int) : Bool :=
  if c = 9 ∨ (32 ≤ c ∧ c ≤ 126) ∨ (160 ≤ c ∧ c ≤ 55295) then decide (c ≠ 8232 ∧ c ≠ 8233)
  else if 57344 ≤ c ∧ c ≤ 65533 then decide (c ≠ 65279) else decide (65536 ≤ c ∧ c ≤ 1114111)

theorem content_f (k : Nat) (hk : 0 < k) (c : Int) : spec_scContent.f k c = some (content c) := by
  obtain ⟨k, rfl⟩ : ∃ m, k = m + 1 := ⟨k - 1, by omega⟩
  unfold spec_scContent.f content
  simp only [spec_scContent.j0]
  repeat' split
  all_goals (simp only [beq_iff_eq, decide_eq_true_eq, Bool.false_eq_true, not_false_eq_true, reduceCtorEq, not_true_eq_false] at *)
  all_goals first
    | (exfalso; omega)
    | (congr 1; rw [Bool.eq_iff_iff]; simp only [decide_eq_true_eq, bne_iff_ne, Bool.false_eq_true, ne_eq, false_iff, iff_false] <;> omega)

def all (feeds : Bool) (l : List Int) : Bool := l.all fun c => content c || (feeds && c == 10)

theorem all_cons (f : Bool) (c : Int) (t : List Int) : all f (c :: t) = ((content c || (f && c == 10)) && all f t) := rfl

theorem rd_nat (l : List Int) (i : Nat) : rd l (i : Int) = l.getD i 0 := by simp [rd]

theorem all_l0 (l : List Int) (feeds : Bool) (hl : l.length ≤ 9223372036854775806) (d : Nat) : ∀ (k i : Nat), i ≤ l.length → l.length - i = d → d + 1 < k →
    spec_scAll.l0 k feeds l (l.length : Int) (i : Int) = some (all feeds (l.drop i)) := by
  induction d with
  | zero =>
    intro k i h1 h2 h3
    obtain ⟨k, rfl⟩ : ∃ m, k = m + 1 := ⟨k - 1, by omega⟩
    simp only [spec_scAll.l0]
    rw [if_neg (by omega), List.drop_eq_nil_of_le (by omega)]
    rfl
  | succ d ih =>
    intro k i h1 h2 h3
    obtain ⟨k, rfl⟩ : ∃ m, k = m + 1 := ⟨k - 1, by omega⟩
    have hi : i < l.length := by omega
    have e : l.drop i = l.getD i 0 :: l.drop (i + 1) := by rw [List.drop_eq_getElem_cons hi]; simp [List.getD, hi]
    have r := ih k (i + 1) (by omega) (by omega) (by omega)
    simp only [spec_scAll.l0]
    rw [if_pos (by omega), if_pos (by omega), if_pos (by omega), content_f k (by omega), rd_nat, show wrap64 ((i : Int) + 1) = ((i + 1 : Nat) : Int) by unfold wrap64; omega, r, e, all_cons]
    simp only [Option.bind_some]
    generalize l.getD i 0 = c
    cases hc : content c with
    | true => rw [if_pos rfl]; simp
    | false =>
      rw [if_neg (by simp)]
      cases feeds with
      | false => rw [if_neg (by simp)]; simp
      | true =>
        rw [if_pos rfl]
        by_cases h10 : c = 10
        · rw [if_pos h10]; simp [h10]
        · rw [if_neg h10]; simp [h10]

theorem all_f (l : List Int) (feeds : Bool) (hl : l.length ≤ 9223372036854775806) : spec_scAll.f (l.length + 2) l feeds = some (all feeds l) :=
  all_l0 l feeds hl l.length (l.length + 2) 0 (by omega) (by omega) (by omega)

/-- May a text stand on a line, or in lines? -/
def mayStand (feeds : Bool) (s : ByteArray) : Prop := s.size ≤ 65536 ∧ ∃ rs : List Int, (∀ r ∈ rs, Scalar r) ∧ B s = enc rs ∧ all feeds rs = true

theorem stands_not (feeds : Bool) (s : ByteArray) (h : ¬ mayStand feeds s) : 65536 < s.size ∨ (s.size ≤ 65536 ∧ Lib.validD (B s) = false) ∨
    (s.size ≤ 65536 ∧ ∃ rs : List Int, (∀ r ∈ rs, Scalar r) ∧ B s = enc rs ∧ all feeds rs = false) := by
  by_cases h1 : 65536 < s.size
  · exact .inl h1
  · refine .inr ?_
    cases hv : Lib.validD (B s) with
    | false => exact .inl ⟨by omega, rfl⟩
    | true =>
      obtain ⟨rs, h2, h3⟩ := valid_enc (B s) hv
      refine .inr ⟨by omega, rs, h2, h3, ?_⟩
      cases ha : all feeds rs with
      | false => rfl
      | true => exact absurd ⟨by omega, rs, h2, h3, ha⟩ h

set_option maxHeartbeats 1000000 in
set_option maxRecDepth 100000 in
theorem row_yes (s : ByteArray) (w : World) (hT : Tabs w) (h : mayStand false s) :
    Calls Tryd.prog 10 #[.string s] w fun e w' => e = .returned (.bool true) ∧ Below w.heap.size w w' := by
  obtain ⟨hs, rs, h1, h2, h3⟩ := h
  have C := Aside0.mk (scRunes_ok s rs w hT hs h1 h2)
  have hl := (enc_length rs).1
  rw [← h2, B_length] at hl
  have HA := Aside0.mk (all_f rs false (by omega))
  rw [h3] at HA
  clear h1 h2 h3 hT
  go_enter Tryd.func10, Tryd.ntmps10
  go_wp2_with fail
  refine C.out.mono ?_
  rintro e w1 ⟨g, cap, rfl, hr, hc, _, _, b1⟩
  have B1 := Aside0.mk b1
  have HR := Aside0.mk hr
  clear b1 hr
  go_wp2_with fail
  refine (spec_scAll.calls _ _ cap rs false true _ (HR.out.kd (by omega)) hc HA.out).mono ?_
  rintro e w2 ⟨rfl, b2⟩
  have B2 := Aside0.mk (B1.out.trans (b2.below.mono B1.out.size))
  clear b2
  go_wp2_with fail
  go_ret
  exact ⟨rfl, B2.out⟩

set_option maxHeartbeats 1000000 in
set_option maxRecDepth 100000 in
theorem row_no (s : ByteArray) (w : World) (hT : Tabs w) (hs2 : s.size ≤ 140737488351232) (h : ¬ mayStand false s) :
    Calls Tryd.prog 10 #[.string s] w fun e w' => e = .returned (.bool false) ∧ Below w.heap.size w w' := by
  rcases stands_not false s h with h | ⟨h1, h2⟩ | ⟨hs, rs, h1, h2, h3⟩
  · have C := Aside0.mk (scRunes_long s w h hs2)
    clear h
    go_enter Tryd.func10, Tryd.ntmps10
    go_wp2_with fail
    refine C.out.mono ?_
    rintro e w1 ⟨rfl, b1⟩
    have B1 := Aside0.mk b1
    clear b1
    go_wp2_with fail
    go_ret
    exact ⟨rfl, B1.out⟩
  · have C := Aside0.mk (scRunes_bad s w hT h1 h2)
    clear h1 h2 hT
    go_enter Tryd.func10, Tryd.ntmps10
    go_wp2_with fail
    refine C.out.mono ?_
    rintro e w1 ⟨rfl, b1⟩
    have B1 := Aside0.mk b1
    clear b1
    go_wp2_with fail
    go_ret
    exact ⟨rfl, B1.out⟩
  · have C := Aside0.mk (scRunes_ok s rs w hT hs h1 h2)
    have hl := (enc_length rs).1
    rw [← h2, B_length] at hl
    have HA := Aside0.mk (all_f rs false (by omega))
    rw [h3] at HA
    clear h1 h2 h3 hT h
    go_enter Tryd.func10, Tryd.ntmps10
    go_wp2_with fail
    refine C.out.mono ?_
    rintro e w1 ⟨g, cap, rfl, hr, hc, _, _, b1⟩
    have B1 := Aside0.mk b1
    have HR := Aside0.mk hr
    clear b1 hr
    go_wp2_with fail
    refine (spec_scAll.calls _ _ cap rs false false _ (HR.out.kd (by omega)) hc HA.out).mono ?_
    rintro e w2 ⟨rfl, b2⟩
    have B2 := Aside0.mk (B1.out.trans (b2.below.mono B1.out.size))
    clear b2
    go_wp2_with fail
    go_ret
    exact ⟨rfl, B2.out⟩
set_option maxHeartbeats 1000000 in
set_option maxRecDepth 100000 in
theorem rows_yes (s : ByteArray) (w : World) (hT : Tabs w) (h : mayStand true s) :
    Calls Tryd.prog 9 #[.string s] w fun e w' => e = .returned (.bool true) ∧ Below w.heap.size w w' := by
  obtain ⟨hs, rs, h1, h2, h3⟩ := h
  have C := Aside0.mk (scRunes_ok s rs w hT hs h1 h2)
  have hl := (enc_length rs).1
  rw [← h2, B_length] at hl
  have HA := Aside0.mk (all_f rs true (by omega))
  rw [h3] at HA
  clear h1 h2 h3 hT
  go_enter Tryd.func9, Tryd.ntmps9
  go_wp2_with fail
  refine C.out.mono ?_
  rintro e w1 ⟨g, cap, rfl, hr, hc, _, _, b1⟩
  have B1 := Aside0.mk b1
  have HR := Aside0.mk hr
  clear b1 hr
  go_wp2_with fail
  refine (spec_scAll.calls _ _ cap rs true true _ (HR.out.kd (by omega)) hc HA.out).mono ?_
  rintro e w2 ⟨rfl, b2⟩
  have B2 := Aside0.mk (B1.out.trans (b2.below.mono B1.out.size))
  clear b2
  go_wp2_with fail
  go_ret
  exact ⟨rfl, B2.out⟩

set_option maxHeartbeats 1000000 in
set_option maxRecDepth 100000 in
theorem rows_no (s : ByteArray) (w : World) (hT : Tabs w) (hs2 : s.size ≤ 140737488351232) (h : ¬ mayStand true s) :
    Calls Tryd.prog 9 #[.string s] w fun e w' => e = .returned (.bool false) ∧ Below w.heap.size w w' := by
  rcases stands_not true s h with h | ⟨h1, h2⟩ | ⟨hs, rs, h1, h2, h3⟩
  · have C := Aside0.mk (scRunes_long s w h hs2)
    clear h
    go_enter Tryd.func9, Tryd.ntmps9
    go_wp2_with fail
    refine C.out.mono ?_
    rintro e w1 ⟨rfl, b1⟩
    have B1 := Aside0.mk b1
    clear b1
    go_wp2_with fail
    go_ret
    exact ⟨rfl, B1.out⟩
  · have C := Aside0.mk (scRunes_bad s w hT h1 h2)
    clear h1 h2 hT
    go_enter Tryd.func9, Tryd.ntmps9
    go_wp2_with fail
    refine C.out.mono ?_
    rintro e w1 ⟨rfl, b1⟩
    have B1 := Aside0.mk b1
    clear b1
    go_wp2_with fail
    go_ret
    exact ⟨rfl, B1.out⟩
  · have C := Aside0.mk (scRunes_ok s rs w hT hs h1 h2)
    have hl := (enc_length rs).1
    rw [← h2, B_length] at hl
    have HA := Aside0.mk (all_f rs true (by omega))
    rw [h3] at HA
    clear h1 h2 h3 hT h
    go_enter Tryd.func9, Tryd.ntmps9
    go_wp2_with fail
    refine C.out.mono ?_
    rintro e w1 ⟨g, cap, rfl, hr, hc, _, _, b1⟩
    have B1 := Aside0.mk b1
    have HR := Aside0.mk hr
    clear b1 hr
    go_wp2_with fail
    refine (spec_scAll.calls _ _ cap rs true false _ (HR.out.kd (by omega)) hc HA.out).mono ?_
    rintro e w2 ⟨rfl, b2⟩
    have B2 := Aside0.mk (B1.out.trans (b2.below.mono B1.out.size))
    clear b2
    go_wp2_with fail
    go_ret
    exact ⟨rfl, B2.out⟩
end Go.Proofs.YtmildhkegpmacaaDoor.Runes
